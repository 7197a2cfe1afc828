import Derived.Test.Qxb6001659aStat
namespace Go.Proofs.Qxb6001659a.Stat
open Go.RowKit

/-- Some bool came back. -/
def SomeBool (e : Ending) : Prop := ∃ b, e = .returned (.bool b)

set_option maxHeartbeats 400000 in
theorem zzb_any (a a' : Option Addr) (cap cap' : Nat) (ss ss' : List ByteArray) (w : World) (h : Strs w a ss) (h' : Strs w a' ss') :
    Calls Try.prog 40 #[.slice a ss.length cap, .slice a' ss'.length cap'] w fun e w' => SomeBool e ∧ w' = w := by
  by_cases hn : (1048576 : Int) < ss.length
  · go_enter Try.func40, Try.ntmps40
    go_wp2
    go_ret
    exact ⟨⟨_, rfl⟩, rfl⟩
  go_enter Try.func40, Try.ntmps40
  go_wp2
  go_loop [5, 6] (fun t i => ∃ (k : Nat) (z : Int), k ≤ ss.length ∧ i = .int .i64 k ∧ t = .int .i64 z ∧ 0 ≤ z ∧ z ≤ 1048576) (fun _ i => ss.length - (intOf i).toNat)
  case atStart => exact ⟨0, _, Nat.zero_le _, rfl, rfl, by omega, by omega⟩
  case round =>
    obtain ⟨k, z, hk, rfl, rfl, hz0, hz1⟩ := hrel
    by_cases hlt : k < ss.length
    · rcases h with rfl | ⟨b, off, rfl, _, hc⟩
      · simp at hlt
      have hcell := hc k hlt
      clear hc
      generalize ss.getD k ByteArray.empty = s at hcell
      go_wp2
      · go_ret
        exact ⟨⟨_, rfl⟩, rfl⟩
      · go_ret
        exact ⟨⟨_, rfl⟩, rfl⟩
      · go_round
        case rel => exact ⟨k + 1, _, by omega, by go_num, rfl, by omega, by omega⟩
        case measure => simp [intOf]; omega
    · go_wp2
      · go_ret
        exact ⟨⟨_, rfl⟩, rfl⟩
      · go_ret
        exact ⟨⟨_, rfl⟩, rfl⟩
      · have hz2 : z + (ss'.length : Int) ≤ 1048576 := by assumption
        clear hlt hk hn
        go_loop [5, 7] (fun t i => ∃ (k : Nat) (z : Int), k ≤ ss'.length ∧ i = .int .i64 k ∧ t = .int .i64 z ∧ 0 ≤ z ∧ z ≤ 1048576) (fun _ i => ss'.length - (intOf i).toNat)
        case atStart => exact ⟨0, _, Nat.zero_le _, rfl, rfl, by omega, by omega⟩
        case round =>
          obtain ⟨k', z', hk', rfl, rfl, hz0', hz1'⟩ := hrel
          by_cases hlt : k' < ss'.length
          · rcases h' with rfl | ⟨b, off, rfl, _, hc⟩
            · simp at hlt
            have hcell := hc k' hlt
            clear hc
            generalize ss'.getD k' ByteArray.empty = s at hcell
            go_wp2
            · go_ret
              exact ⟨⟨_, rfl⟩, rfl⟩
            · go_ret
              exact ⟨⟨_, rfl⟩, rfl⟩
            · go_round
              case rel => exact ⟨k' + 1, _, by omega, by go_num, rfl, by omega, by omega⟩
              case measure => simp [intOf]; omega
          · go_wp2
            go_ret
            exact ⟨⟨_, rfl⟩, rfl⟩
end Go.Proofs.Qxb6001659a.Stat
