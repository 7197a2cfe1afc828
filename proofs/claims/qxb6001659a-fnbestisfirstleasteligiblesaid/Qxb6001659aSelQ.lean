import Derived.Test.Qxb6001659aSelP
namespace Go.Proofs.Qxb6001659a.Cand
open Go.RowKit Go.Proofs.Qxb6001659a.Tb

/-- The seven cells, a list. -/
def Cd.cells (c : Cd) : List Value := [.string c.r, .int .i64 c.p, .int .i64 c.o, .bool c.sd, .bool c.dc, .bool c.si, .bool c.ld]
/-- A slice value at a that reads as the candidates cs in the world w. -/
def Cs (w : World) (a : Option Addr) (cs : List Cd) : Prop :=
  cs = [] ∨ ∃ b off, a = some ⟨b, off, none⟩ ∧ b < w.heap.size ∧ ∀ i, i < cs.length → w.rangeAt b (off + i * 7) (at_ cs i).cells
theorem range_below {w w' : World} (hb : Below w.heap.size w w') {b o : Nat} {l : List Value} (hlt : b < w.heap.size) (h : w.rangeAt b o l) : w'.rangeAt b o l :=
  fun j v hj => (hb.cell (p := ⟨b, o + j, none⟩) hlt).trans (h j v hj)
theorem Cs.below {w w' : World} {a : Option Addr} {cs : List Cd} (h : Cs w a cs) (hb : Below w.heap.size w w') : Cs w' a cs := by
  rcases h with rfl | ⟨b, off, rfl, hbb, hc⟩
  · exact .inl rfl
  · exact .inr ⟨b, off, rfl, Nat.lt_of_lt_of_le hbb hb.size, fun i hi => range_below hb hbb (hc i hi)⟩
theorem run_id {w : World} {b o : Nat} {c : Cd} (h : w.rangeAt b o c.cells) : w.cell? ⟨b, o, none⟩ = some (.string c.r) := h 0 _ rfl

set_option maxHeartbeats 400000 in
theorem zzb22 (a : Option Addr) (cap : Nat) (cs : List Cd) (w : World) (h : Cs w a cs) :
    Calls Try.prog 22 #[.slice a cs.length cap] w fun e w' => SomeBool e ∧ w' = w := by
  by_cases hn : (1048576 : Int) < cs.length
  · go_enter Try.func22, Try.ntmps22
    go_wp2
    go_ret
    exact ⟨⟨_, rfl⟩, rfl⟩
  go_enter Try.func22, Try.ntmps22
  go_wp2
  go_loop [3, 4] (fun t i => ∃ (k : Nat) (z : Int), k ≤ cs.length ∧ i = .int .i64 k ∧ t = .int .i64 z ∧ 0 ≤ z ∧ z ≤ 1048576) (fun _ i => cs.length - (intOf i).toNat)
  case atStart => exact ⟨0, _, Nat.zero_le _, rfl, rfl, by omega, by omega⟩
  case round =>
    obtain ⟨k, z, hk, rfl, rfl, hz0, hz1⟩ := hrel
    by_cases hlt : k < cs.length
    · rcases h with rfl | ⟨b, off, rfl, _, hc⟩
      · simp at hlt
      have hcell := run_id (hc k hlt)
      clear hc
      generalize (at_ cs k).r = s at hcell
      go_wp2
      · go_ret
        exact ⟨⟨_, rfl⟩, rfl⟩
      · go_ret
        exact ⟨⟨_, rfl⟩, rfl⟩
      · go_round
        case rel => exact ⟨k + 1, _, by omega, by go_num, rfl, by omega, by omega⟩
        case measure => simp [intOf]; omega
    · go_wp2
      go_ret
      exact ⟨⟨_, rfl⟩, rfl⟩

set_option maxHeartbeats 400000 in
theorem zzb32 (a : Option Addr) (cap : Nat) (cs : List Cd) (w : World) (h : Cs w a cs) :
    Calls Try.prog 32 #[.slice a cs.length cap] w fun e w' => SomeBool e ∧ w' = w := by
  by_cases hn : (1048576 : Int) < cs.length
  · go_enter Try.func32, Try.ntmps32
    go_wp2
    go_ret
    exact ⟨⟨_, rfl⟩, rfl⟩
  go_enter Try.func32, Try.ntmps32
  go_wp2
  go_loop [3, 4] (fun t i => ∃ (k : Nat) (z : Int), k ≤ cs.length ∧ i = .int .i64 k ∧ t = .int .i64 z ∧ 0 ≤ z ∧ z ≤ 1048576) (fun _ i => cs.length - (intOf i).toNat)
  case atStart => exact ⟨0, _, Nat.zero_le _, rfl, rfl, by omega, by omega⟩
  case round =>
    obtain ⟨k, z, hk, rfl, rfl, hz0, hz1⟩ := hrel
    by_cases hlt : k < cs.length
    · rcases h with rfl | ⟨b, off, rfl, _, hc⟩
      · simp at hlt
      have hcell := run_id (hc k hlt)
      clear hc
      generalize (at_ cs k).r = s at hcell
      go_wp2
      · go_ret
        exact ⟨⟨_, rfl⟩, rfl⟩
      · go_ret
        exact ⟨⟨_, rfl⟩, rfl⟩
      · go_round
        case rel => exact ⟨k + 1, _, by omega, by go_num, rfl, by omega, by omega⟩
        case measure => simp [intOf]; omega
    · go_wp2
      go_ret
      exact ⟨⟨_, rfl⟩, rfl⟩

/-- Some bool came back; true only where n is at most 4096. -/
def Small (n : Nat) (e : Ending) : Prop := ∃ b, e = .returned (.bool b) ∧ (b = true → n ≤ 4096)

set_option maxHeartbeats 400000 in
theorem fit23 (a : Option Addr) (cap : Nat) (cs : List Cd) (w : World) (h : Cs w a cs) :
    Calls Try.prog 23 #[.slice a cs.length cap] w fun e w' => Small cs.length e ∧ w' = w := by
  by_cases hn : (4096 : Int) < cs.length
  · go_enter Try.func23, Try.ntmps23
    go_wp2
    go_ret
    exact ⟨⟨false, rfl, fun h => by cases h⟩, rfl⟩
  have hn' : cs.length ≤ 4096 := by omega
  have HN : Hid (cs.length ≤ 4096) := hn'
  go_enter Try.func23, Try.ntmps23
  go_wp2
  go_loop [3, 4] (fun t i => ∃ (k : Nat) (z : Int), k ≤ cs.length ∧ i = .int .i64 k ∧ t = .int .i64 z ∧ 0 ≤ z ∧ z ≤ 2097152) (fun _ i => cs.length - (intOf i).toNat)
  case atStart => exact ⟨0, _, Nat.zero_le _, rfl, rfl, by omega, by omega⟩
  case round =>
    obtain ⟨k, z, hk, rfl, rfl, hz0, hz1⟩ := hrel
    by_cases hlt : k < cs.length
    · rcases h with rfl | ⟨b, off, rfl, _, hc⟩
      · simp at hlt
      have hcell := run_id (hc k hlt)
      clear hc
      generalize (at_ cs k).r = s at hcell
      go_wp2
      · go_ret
        exact ⟨⟨_, rfl, fun _ => HN.out⟩, rfl⟩
      · go_ret
        exact ⟨⟨_, rfl, fun _ => HN.out⟩, rfl⟩
      · go_round
        case rel => exact ⟨k + 1, _, by omega, by go_num, rfl, by omega, by omega⟩
        case measure => simp [intOf]; omega
    · go_wp2
      go_ret
      exact ⟨⟨_, rfl, fun _ => HN.out⟩, rfl⟩
end Go.Proofs.Qxb6001659a.Cand
