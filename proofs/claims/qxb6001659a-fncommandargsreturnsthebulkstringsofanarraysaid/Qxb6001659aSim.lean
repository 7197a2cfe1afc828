import Derived.Test.Qxb6001659aStatC
import Derived.Test.Qxb6001659aTab
import Derived.Deep.QuietTactic
import Derived.BigQuiet
namespace Go.Proofs.Qxb6001659a.Sim
open Go.RowKit Go.Proofs.Qxb6001659a.Stat

theorem Strs.below' {w w' : World} {a : Option Addr} {ss : List ByteArray} (h : Strs w a ss) (hb : Below w.heap.size w w') : Strs w' a ss := by
  rcases h with rfl | ⟨b, off, rfl, hbb, hc⟩
  · exact .inl rfl
  · exact .inr ⟨b, off, rfl, Nat.lt_of_lt_of_le hbb hb.size, fun i hi => (below_row hb hbb _).trans (hc i hi)⟩
theorem strs_row {w : World} {g : Nat} {ss : List ByteArray} (h : w.heap[g]? = some (.cells (ss.map Value.string).toArray 9 (0, 0))) : Strs w (some ⟨g, 0, none⟩) ss := by
  refine .inr ⟨g, 0, rfl, lt_of_block h, fun i hi => ?_⟩
  rw [cell_of_row _ _ _ _ _ _ h]
  simp [List.getD, hi]

set_option maxHeartbeats 400000 in
theorem zzb44 (a : Option Addr) (cap : Nat) (z0 : Int) (ss : List ByteArray) (w : World) (h : Strs w a ss) :
    Calls Try.prog 44 #[.slice a ss.length cap, .int .i64 z0] w fun e w' => SomeBool e ∧ w' = w := by
  by_cases hn : (1048576 : Int) < ss.length
  · go_enter Try.func44, Try.ntmps44
    go_wp2
    go_ret
    exact ⟨⟨_, rfl⟩, rfl⟩
  go_enter Try.func44, Try.ntmps44
  go_wp2
  go_loop [5, 6] (fun t i => ∃ (k : Nat) (z : Int), k ≤ ss.length ∧ i = .int .i64 k ∧ t = .int .i64 z ∧ 0 ≤ z ∧ z ≤ 1048576) (fun _ i => ss.length - (intOf i).toNat)
  case atStart => exact ⟨0, _, Nat.zero_le _, rfl, rfl, by omega, by omega⟩
  case round =>
    obtain ⟨k, z, hk, rfl, rfl, hz0, hz1⟩ := hrel
    by_cases hlt : k < ss.length
    · rcases h with rfl | ⟨b, off, rfl, _, hc⟩
      · simp at hlt
      have hcell := hc k hlt
      clear hc
      generalize ss.getD k ByteArray.empty = s at hcell
      go_wp2
      · go_ret
        exact ⟨⟨_, rfl⟩, rfl⟩
      · go_ret
        exact ⟨⟨_, rfl⟩, rfl⟩
      · go_round
        case rel => exact ⟨k + 1, _, by omega, by go_num, rfl, by omega, by omega⟩
        case measure => simp [intOf]; omega
    · go_wp2
      go_ret
      exact ⟨⟨_, rfl⟩, rfl⟩

/-- Some bool came back; true only where n is at most 65536. -/
def Small (n : Nat) (e : Ending) : Prop := ∃ b, e = .returned (.bool b) ∧ (b = true → n ≤ 65536)

set_option maxHeartbeats 400000 in
theorem small45 (a : Option Addr) (cap : Nat) (ss : List ByteArray) (w : World) (h : Strs w a ss) :
    Calls Try.prog 45 #[.slice a ss.length cap] w fun e w' => Small ss.length e ∧ w' = w := by
  by_cases hn : (65536 : Int) < ss.length
  · go_enter Try.func45, Try.ntmps45
    go_wp2
    go_ret
    exact ⟨⟨false, rfl, fun h => by cases h⟩, rfl⟩
  have hn' : ss.length ≤ 65536 := by omega
  have HN : Hid (ss.length ≤ 65536) := hn'
  go_enter Try.func45, Try.ntmps45
  go_wp2
  go_loop [3, 4] (fun t i => ∃ (k : Nat) (z : Int), k ≤ ss.length ∧ i = .int .i64 k ∧ t = .int .i64 z) (fun _ i => ss.length - (intOf i).toNat)
  case atStart => exact ⟨0, _, Nat.zero_le _, rfl, rfl⟩
  case round =>
    obtain ⟨k, z, hk, rfl, rfl⟩ := hrel
    by_cases hlt : k < ss.length
    · rcases h with rfl | ⟨b, off, rfl, _, hc⟩
      · simp at hlt
      have hcell := hc k hlt
      clear hc
      generalize ss.getD k ByteArray.empty = s at hcell
      go_wp2
      · go_ret
        exact ⟨⟨_, rfl, fun _ => HN.out⟩, rfl⟩
      · go_round
        case rel => exact ⟨k + 1, _, by omega, by go_num, rfl⟩
        case measure => simp [intOf]; omega
    · go_wp2
      go_ret
      exact ⟨⟨_, rfl, fun _ => HN.out⟩, rfl⟩

set_option maxHeartbeats 400000 in
theorem clone_nil (w : World) : Calls Try.prog 46 #[.slice none 0 0] w fun e w' => e = .returned (.slice none 0 0) ∧ w' = w := by
  have kn := fun (wx : World) (x : Option Addr) (l c : Nat) => Lib.run_eql_slice_nil (P := Try.prog) wx 27 9 x l c 0 0 Try.underlying27
  go_enter Try.func46, Try.ntmps46
  go_wp2
  go_ret
  exact ⟨rfl, rfl⟩

set_option maxHeartbeats 400000 in
theorem clone_some (x : Addr) (cap : Nat) (ss : List ByteArray) (w : World) (hl : ss.length ≤ 1048576) (h : Strs w (some x) ss) :
    Calls Try.prog 46 #[.slice (some x) ss.length cap] w fun e w' => e = .returned (.slice (some ⟨w.heap.size, 0, none⟩) ss.length ss.length) ∧ w'.heap[w.heap.size]? = some (.cells (ss.map Value.string).toArray 9 (0, 0)) ∧ Below w.heap.size w w' := by
  have kn := fun (wx : World) (x : Option Addr) (l c : Nat) => Lib.run_eql_slice_nil (P := Try.prog) wx 27 9 x l c 0 0 Try.underlying27
  obtain ⟨i0, hi, hz0, hz1, hz2⟩ := info_parts info9
  have hmk := run_make (P := Try.prog) w 27 9 i0 _ Try.underlying27 hi hz0 .i64 .i64 ss.length ss.length (by omega) (by omega) (by rw [hz2]; omega) (by omega)
  rw [hz1] at hmk
  simp only [Nat.mul_one, Int.toNat_natCast, Value.cells, cl_zero] at hmk
  go_enter Try.func46, Try.ntmps46
  go_wp2
  clear hmk
  go_loopw [4] (fun i wr => ∃ k : Nat, k ≤ ss.length ∧ i = .int .i64 k ∧ wr.heap[w.heap.size]? = some (.cells (cl ss k) 9 (0, 0)) ∧ Below w.heap.size w wr) (fun i _ => ss.length - (intOf i).toNat)
  case atStart => exact ⟨0, Nat.zero_le _, rfl, heap_alloc_new _ _, (Below.refl _ _).alloc (Nat.le_refl _) _⟩
  case round =>
    obtain ⟨k, hk, rfl, hrow, hb⟩ := hrel
    by_cases hlt : k < ss.length
    · rcases h with rfl | ⟨b, off, hx, hbb, hc⟩
      · simp at hlt
      obtain rfl := Option.some.inj hx
      have hcell := (below_row hb hbb (off + k)).trans (hc k hlt)
      have hold : wr.cell? ⟨w.heap.size, k, none⟩ = some (.string ⟨#[]⟩) := by rw [cell_of_row _ _ _ _ _ _ hrow, cl_at ss k hlt]
      have hfz := frozen_of_row wr w.heap.size k _ _ hrow
      have R1 : Hid ((wr.setCell ⟨w.heap.size, k, none⟩ (.string (ss.getD k ByteArray.empty))).heap[w.heap.size]? = some (.cells (cl ss (k + 1)) 9 (0, 0))) := by
        have := heap_setCell_same wr w.heap.size k _ _ (.string (ss.getD k ByteArray.empty)) hrow
        rw [cl_set ss k hlt] at this
        exact this
      have R2 : Hid (Below w.heap.size w (wr.setCell ⟨w.heap.size, k, none⟩ (.string (ss.getD k ByteArray.empty)))) := hb.setCell (Nat.le_refl _) _
      clear hc hx hrow hb
      generalize ss.getD k ByteArray.empty = s at hcell R1 R2
      go_wp2
      go_roundw
      case rel => exact ⟨k + 1, by omega, by go_num, R1.out, R2.out⟩
      case measure => simp [intOf]; omega
    · obtain rfl : k = ss.length := by omega
      rw [cl_end] at hrow
      have R1 : Hid (wr.heap[w.heap.size]? = some (.cells (ss.map Value.string).toArray 9 (0, 0))) := hrow
      clear hrow
      go_wp2
      go_ret
      exact ⟨rfl, R1.out, hb⟩

theorem clone_any (a : Option Addr) (n cap : Nat) (ss : List ByteArray) (w : World) (hn : n = ss.length) (hl : ss.length ≤ 1048576) (h : Strs w a ss) (h0 : a = none → n = 0 ∧ cap = 0) :
    Calls Try.prog 46 #[.slice a n cap] w fun e w' => ∃ a' c', e = .returned (.slice a' ss.length c') ∧ Strs w' a' ss ∧ Below w.heap.size w w' := by
  subst hn
  cases a with
  | none =>
    obtain ⟨h1, rfl⟩ := h0 rfl
    obtain rfl := List.eq_nil_of_length_eq_zero h1
    refine (clone_nil w).mono ?_
    rintro e w' ⟨rfl, rfl⟩
    exact ⟨none, 0, rfl, h, Below.refl _ _⟩
  | some x =>
    refine (clone_some x cap ss w hl h).mono ?_
    rintro e w' ⟨rfl, hr, hb⟩
    exact ⟨_, _, rfl, strs_row hr, hb⟩

set_option maxHeartbeats 400000 in
/-- The same strings in two slices: true. -/
theorem same_some (b off c b' off' c' : Nat) (ss : List ByteArray) (w : World) (hl : ss.length ≤ 1048576) (hc : ∀ i, i < ss.length → w.cell? ⟨b, off + i, none⟩ = some (.string (ss.getD i ByteArray.empty)))
    (hc' : ∀ i, i < ss.length → w.cell? ⟨b', off' + i, none⟩ = some (.string (ss.getD i ByteArray.empty))) :
    Calls Try.prog 49 #[.slice (some ⟨b, off, none⟩) ss.length c, .slice (some ⟨b', off', none⟩) ss.length c'] w fun e w' => e = .returned (.bool true) ∧ Below w.heap.size w w' := by
  go_enter Try.func49, Try.ntmps49
  go_wp2
  go_loopw [5] (fun i wr => ∃ k : Nat, k ≤ ss.length ∧ i = .int .i64 k ∧ Below w.heap.size w wr ∧ wr.heap = w.heap) (fun i _ => ss.length - (intOf i).toNat)
  case atStart => exact ⟨0, Nat.zero_le _, rfl, Below.refl _ _, rfl⟩
  case round =>
    obtain ⟨k, hk, rfl, hb, hh⟩ := hrel
    by_cases hlt : k < ss.length
    · have g1 : wr.cell? ⟨b, off + k, none⟩ = some (.string (ss.getD k ByteArray.empty)) := by rw [← hc k hlt]; simp [World.cell?, hh]
      have g2 : wr.cell? ⟨b', off' + k, none⟩ = some (.string (ss.getD k ByteArray.empty)) := by rw [← hc' k hlt]; simp [World.cell?, hh]
      have R1 : Hid (Below w.heap.size w wr) := hb
      have R2 : Hid (wr.heap = w.heap) := hh
      clear hc hc' hb hh
      generalize ss.getD k ByteArray.empty = s at g1 g2
      have hi : (k : Int) < (ss.length : Int) := by omega
      go_wp2
      go_quiet (fail)
      go_wp2
      go_roundw
      case rel => exact ⟨k + 1, by omega, by go_num, below_drewN R1.out _, R2.out⟩
      case measure => simp [intOf]; omega
    · go_wp2
      go_ret
      exact ⟨rfl, hb⟩
end Go.Proofs.Qxb6001659a.Sim
