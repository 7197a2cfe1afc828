import Derived.Test.Qxb6001659aStatB
namespace Go.Proofs.Qxb6001659a.Stat
open Go.RowKit

theorem info9 : (Try.prog.info? 9).map (fun i => (i.zero, i.size, i.bytes)) = some (some (.string ⟨#[]⟩), 1, 16) := by kernel_rfl

/-- The row of a clone after k rounds. -/
def cl (ss : List ByteArray) (k : Nat) : Array Value := ((ss.take k).map Value.string ++ List.replicate (ss.length - k) (Value.string ⟨#[]⟩)).toArray

theorem cl_zero (ss : List ByteArray) : madeCells #[Value.string ⟨#[]⟩] ss.length = cl ss 0 := by
  apply Array.ext'
  rw [toList_madeCells_one]
  simp [cl]
theorem cl_at (ss : List ByteArray) (k : Nat) (hk : k < ss.length) : (cl ss k)[k]? = some (Value.string ⟨#[]⟩) := by
  simp only [cl, List.getElem?_toArray]
  rw [List.getElem?_append_right (by simp; omega), List.getElem?_replicate, if_pos (by simp; omega)]
theorem cl_set (ss : List ByteArray) (k : Nat) (hk : k < ss.length) : (cl ss k).setIfInBounds k (Value.string (ss.getD k ByteArray.empty)) = cl ss (k + 1) := by
  apply Array.ext'
  simp only [cl, Array.toList_setIfInBounds]
  have e : ss.length - k = (ss.length - (k + 1)) + 1 := by omega
  rw [List.take_succ_eq_append_getElem hk, List.set_append_right _ _ (by simp; omega), e, List.replicate_succ, List.map_append, List.append_assoc]
  have e0 : k - (List.map Value.string (ss.take k)).length = 0 := by simp; omega
  rw [e0]
  simp only [List.set_cons_zero, List.map_cons, List.map_nil, List.cons_append, List.nil_append, List.getD, List.getElem?_eq_getElem hk, Option.getD_some]
theorem cl_end (ss : List ByteArray) : cl ss ss.length = (ss.map Value.string).toArray := by simp [cl]

theorem below_row {w wr : World} (h : Below w.heap.size w wr) {b : Nat} (hb : b < w.heap.size) (o : Nat) : wr.cell? ⟨b, o, none⟩ = w.cell? ⟨b, o, none⟩ := h.cell (p := ⟨b, o, none⟩) hb

set_option maxHeartbeats 400000 in
theorem clone_nil (w : World) : Calls Try.prog 41 #[.slice none 0 0] w fun e w' => e = .returned (.slice none 0 0) ∧ w' = w := by
  have kn := fun (wx : World) (x : Option Addr) (l c : Nat) => Lib.run_eql_slice_nil (P := Try.prog) wx 27 9 x l c 0 0 Try.underlying27
  go_enter Try.func41, Try.ntmps41
  go_wp2
  go_ret
  exact ⟨rfl, rfl⟩

set_option maxHeartbeats 400000 in
theorem clone_some (x : Addr) (cap : Nat) (ss : List ByteArray) (w : World) (hl : ss.length ≤ 1048576) (h : Strs w (some x) ss) :
    Calls Try.prog 41 #[.slice (some x) ss.length cap] w fun e w' => e = .returned (.slice (some ⟨w.heap.size, 0, none⟩) ss.length ss.length) ∧ w'.heap[w.heap.size]? = some (.cells (ss.map Value.string).toArray 9 (0, 0)) ∧ Below w.heap.size w w' := by
  have kn := fun (wx : World) (x : Option Addr) (l c : Nat) => Lib.run_eql_slice_nil (P := Try.prog) wx 27 9 x l c 0 0 Try.underlying27
  obtain ⟨i0, hi, hz0, hz1, hz2⟩ := info_parts info9
  have hmk := run_make (P := Try.prog) w 27 9 i0 _ Try.underlying27 hi hz0 .i64 .i64 ss.length ss.length (by omega) (by omega) (by rw [hz2]; omega) (by omega)
  rw [hz1] at hmk
  simp only [Nat.mul_one, Int.toNat_natCast, Value.cells, cl_zero] at hmk
  go_enter Try.func41, Try.ntmps41
  go_wp2
  clear hmk
  go_loopw [4] (fun i wr => ∃ k : Nat, k ≤ ss.length ∧ i = .int .i64 k ∧ wr.heap[w.heap.size]? = some (.cells (cl ss k) 9 (0, 0)) ∧ Below w.heap.size w wr) (fun i _ => ss.length - (intOf i).toNat)
  case atStart => exact ⟨0, Nat.zero_le _, rfl, heap_alloc_new _ _, (Below.refl _ _).alloc (Nat.le_refl _) _⟩
  case round =>
    obtain ⟨k, hk, rfl, hrow, hb⟩ := hrel
    by_cases hlt : k < ss.length
    · rcases h with rfl | ⟨b, off, hx, hbb, hc⟩
      · simp at hlt
      obtain rfl := Option.some.inj hx
      have hcell := (below_row hb hbb (off + k)).trans (hc k hlt)
      have hold : wr.cell? ⟨w.heap.size, k, none⟩ = some (.string ⟨#[]⟩) := by rw [cell_of_row _ _ _ _ _ _ hrow, cl_at ss k hlt]
      have hfz := frozen_of_row wr w.heap.size k _ _ hrow
      have R1 : Hid ((wr.setCell ⟨w.heap.size, k, none⟩ (.string (ss.getD k ByteArray.empty))).heap[w.heap.size]? = some (.cells (cl ss (k + 1)) 9 (0, 0))) := by
        have := heap_setCell_same wr w.heap.size k _ _ (.string (ss.getD k ByteArray.empty)) hrow
        rw [cl_set ss k hlt] at this
        exact this
      have R2 : Hid (Below w.heap.size w (wr.setCell ⟨w.heap.size, k, none⟩ (.string (ss.getD k ByteArray.empty)))) := hb.setCell (Nat.le_refl _) _
      clear hc hx hrow hb
      generalize ss.getD k ByteArray.empty = s at hcell R1 R2
      go_wp2
      go_roundw
      case rel => exact ⟨k + 1, by omega, by go_num, R1.out, R2.out⟩
      case measure => simp [intOf]; omega
    · obtain rfl : k = ss.length := by omega
      rw [cl_end] at hrow
      have R1 : Hid (wr.heap[w.heap.size]? = some (.cells (ss.map Value.string).toArray 9 (0, 0))) := hrow
      clear hrow
      go_wp2
      go_ret
      exact ⟨rfl, R1.out, hb⟩
end Go.Proofs.Qxb6001659a.Stat
