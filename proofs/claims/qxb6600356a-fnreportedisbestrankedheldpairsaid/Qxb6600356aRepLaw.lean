import Derived.Test.Qxb6600356aRep
namespace Go.Proofs.Qxb6600356a.Rep
open Go.RowKit
set_option linter.unusedSimpArgs false

/-- What lies in the variable o behind the two calls. -/
theorem kept4 {w1 w2 : World} {C : Array Value} (hb : Below (w1.alloc (.cells C 33)).heap.size (w1.alloc (.cells C 33)) w2) : ∀ o j, (w2.alloc o).cell? ⟨w1.heap.size, j, none⟩ = C[j]? := fun o j => by
  have hs := hb.size
  rw [((Below.refl w2.heap.size w2).alloc (Nat.le_refl _) o).cell (p := ⟨w1.heap.size, j, none⟩) (by simp at hs ⊢; omega), hb.cell (p := ⟨w1.heap.size, j, none⟩) (by simp)]
  exact cell_of_row _ _ _ _ _ _ (heap_alloc_new w1 _)

set_option maxHeartbeats 1000000 in
set_option maxRecDepth 100000 in
theorem law_ff_ff (w : World) : Calls Try.prog 6 #[.bool false, .bool false, .bool false, .bool false] w fun e w' => e = .returned (.bool true) ∧ Below w.heap.size w w' := by
  go_enter Try.func6, Try.ntmps6
  go_wp2_with fail
  refine (outs_any _ _ _ _ _).mono ?_
  rintro e w1 ⟨rfl, hb1⟩
  go_wp2_with fail
  refine (rep_any _ _ _ _ _).mono ?_
  rintro e w2 ⟨rfl, hb2⟩
  have hb3 : Below w.heap.size w w2 := (hb1.alloc hb1.size _).trans (hb2.mono (by have := hb1.size; simp; omega))
  clear hb1 hb2
  go_wp2_with fail
  go_ret
  exact ⟨rfl, hb3.alloc hb3.size _⟩


set_option maxHeartbeats 1000000 in
set_option maxRecDepth 100000 in
theorem law_1 (w : World) : Calls Try.prog 6 #[.bool false, .bool false, .bool false, .bool true] w fun e w' => e = .returned (.bool true) ∧ Below w.heap.size w w' := by
  go_enter Try.func6, Try.ntmps6
  go_wp2_with fail
  refine (outs_any _ _ _ _ _).mono ?_
  rintro e w1 ⟨rfl, hb1⟩
  go_wp2_with fail
  refine (rep_any _ _ _ _ _).mono ?_
  rintro e w2 ⟨rfl, hb2⟩
  have hb3 : Hid (Below w.heap.size w w2) := (hb1.alloc hb1.size _).trans (hb2.mono (by have := hb1.size; simp; omega))
  have kc := kept4 hb2
  clear hb1 hb2
  simp only [if_true, Bool.false_eq_true, if_false, Bool.or_true, Bool.true_or, Bool.or_false]
  go_wp2_with fail
  go_quiet (fail)
  go_wp2_with (go_at_call 19; refine (rank_any _ _ (by decide) (by decide) _).mono ?_; rintro e w' ⟨rfl, rfl⟩)
  refine wp_loop_rounds 3 ?_
  rw [rounds_succ]
  go_wp2_with (go_at_call 19; refine (rank_any _ _ (by decide) (by decide) _).mono ?_; rintro e w' ⟨rfl, rfl⟩)
  refine wp_loop_rounds 3 ?_
  rw [rounds_succ]
  go_wp2_with (go_at_call 19; refine (rank_any _ _ (by decide) (by decide) _).mono ?_; rintro e w' ⟨rfl, rfl⟩)
  rw [rounds_succ]
  go_wp2_with (go_at_call 19; refine (rank_any _ _ (by decide) (by decide) _).mono ?_; rintro e w' ⟨rfl, rfl⟩)
  rw [rounds_succ]
  go_wp2_with (go_at_call 19; refine (rank_any _ _ (by decide) (by decide) _).mono ?_; rintro e w' ⟨rfl, rfl⟩)
  rw [rounds_succ]
  go_wp2_with (go_at_call 19; refine (rank_any _ _ (by decide) (by decide) _).mono ?_; rintro e w' ⟨rfl, rfl⟩)
  refine wp_loop_rounds 3 ?_
  rw [rounds_succ]
  go_wp2_with (go_at_call 19; refine (rank_any _ _ (by decide) (by decide) _).mono ?_; rintro e w' ⟨rfl, rfl⟩)
  rw [rounds_succ]
  go_wp2_with (go_at_call 19; refine (rank_any _ _ (by decide) (by decide) _).mono ?_; rintro e w' ⟨rfl, rfl⟩)
  rw [rounds_succ]
  go_wp2_with (go_at_call 19; refine (rank_any _ _ (by decide) (by decide) _).mono ?_; rintro e w' ⟨rfl, rfl⟩)
  rw [rounds_succ]
  go_wp2_with (go_at_call 19; refine (rank_any _ _ (by decide) (by decide) _).mono ?_; rintro e w' ⟨rfl, rfl⟩)
  go_ret
  exact ⟨rfl, below_drewN (hb3.out.alloc hb3.out.size _) _⟩

set_option maxHeartbeats 1000000 in
set_option maxRecDepth 100000 in
theorem law_2 (w : World) : Calls Try.prog 6 #[.bool false, .bool false, .bool true, .bool false] w fun e w' => e = .returned (.bool true) ∧ Below w.heap.size w w' := by
  go_enter Try.func6, Try.ntmps6
  go_wp2_with fail
  refine (outs_any _ _ _ _ _).mono ?_
  rintro e w1 ⟨rfl, hb1⟩
  go_wp2_with fail
  refine (rep_any _ _ _ _ _).mono ?_
  rintro e w2 ⟨rfl, hb2⟩
  have hb3 : Hid (Below w.heap.size w w2) := (hb1.alloc hb1.size _).trans (hb2.mono (by have := hb1.size; simp; omega))
  have kc := kept4 hb2
  clear hb1 hb2
  simp only [if_true, Bool.false_eq_true, if_false, Bool.or_true, Bool.true_or, Bool.or_false]
  go_wp2_with fail
  go_quiet (fail)
  go_wp2_with (go_at_call 19; refine (rank_any _ _ (by decide) (by decide) _).mono ?_; rintro e w' ⟨rfl, rfl⟩)
  refine wp_loop_rounds 3 ?_
  rw [rounds_succ]
  go_wp2_with (go_at_call 19; refine (rank_any _ _ (by decide) (by decide) _).mono ?_; rintro e w' ⟨rfl, rfl⟩)
  refine wp_loop_rounds 3 ?_
  rw [rounds_succ]
  go_wp2_with (go_at_call 19; refine (rank_any _ _ (by decide) (by decide) _).mono ?_; rintro e w' ⟨rfl, rfl⟩)
  rw [rounds_succ]
  go_wp2_with (go_at_call 19; refine (rank_any _ _ (by decide) (by decide) _).mono ?_; rintro e w' ⟨rfl, rfl⟩)
  rw [rounds_succ]
  go_wp2_with (go_at_call 19; refine (rank_any _ _ (by decide) (by decide) _).mono ?_; rintro e w' ⟨rfl, rfl⟩)
  rw [rounds_succ]
  go_wp2_with (go_at_call 19; refine (rank_any _ _ (by decide) (by decide) _).mono ?_; rintro e w' ⟨rfl, rfl⟩)
  refine wp_loop_rounds 3 ?_
  rw [rounds_succ]
  go_wp2_with (go_at_call 19; refine (rank_any _ _ (by decide) (by decide) _).mono ?_; rintro e w' ⟨rfl, rfl⟩)
  rw [rounds_succ]
  go_wp2_with (go_at_call 19; refine (rank_any _ _ (by decide) (by decide) _).mono ?_; rintro e w' ⟨rfl, rfl⟩)
  rw [rounds_succ]
  go_wp2_with (go_at_call 19; refine (rank_any _ _ (by decide) (by decide) _).mono ?_; rintro e w' ⟨rfl, rfl⟩)
  rw [rounds_succ]
  go_wp2_with (go_at_call 19; refine (rank_any _ _ (by decide) (by decide) _).mono ?_; rintro e w' ⟨rfl, rfl⟩)
  go_ret
  exact ⟨rfl, below_drewN (hb3.out.alloc hb3.out.size _) _⟩

set_option maxHeartbeats 1000000 in
set_option maxRecDepth 100000 in
theorem law_3 (w : World) : Calls Try.prog 6 #[.bool false, .bool false, .bool true, .bool true] w fun e w' => e = .returned (.bool true) ∧ Below w.heap.size w w' := by
  go_enter Try.func6, Try.ntmps6
  go_wp2_with fail
  refine (outs_any _ _ _ _ _).mono ?_
  rintro e w1 ⟨rfl, hb1⟩
  go_wp2_with fail
  refine (rep_any _ _ _ _ _).mono ?_
  rintro e w2 ⟨rfl, hb2⟩
  have hb3 : Hid (Below w.heap.size w w2) := (hb1.alloc hb1.size _).trans (hb2.mono (by have := hb1.size; simp; omega))
  have kc := kept4 hb2
  clear hb1 hb2
  simp only [if_true, Bool.false_eq_true, if_false, Bool.or_true, Bool.true_or, Bool.or_false]
  go_wp2_with fail
  go_quiet (fail)
  go_wp2_with (go_at_call 19; refine (rank_any _ _ (by decide) (by decide) _).mono ?_; rintro e w' ⟨rfl, rfl⟩)
  refine wp_loop_rounds 3 ?_
  rw [rounds_succ]
  go_wp2_with (go_at_call 19; refine (rank_any _ _ (by decide) (by decide) _).mono ?_; rintro e w' ⟨rfl, rfl⟩)
  refine wp_loop_rounds 3 ?_
  rw [rounds_succ]
  go_wp2_with (go_at_call 19; refine (rank_any _ _ (by decide) (by decide) _).mono ?_; rintro e w' ⟨rfl, rfl⟩)
  rw [rounds_succ]
  go_wp2_with (go_at_call 19; refine (rank_any _ _ (by decide) (by decide) _).mono ?_; rintro e w' ⟨rfl, rfl⟩)
  rw [rounds_succ]
  go_wp2_with (go_at_call 19; refine (rank_any _ _ (by decide) (by decide) _).mono ?_; rintro e w' ⟨rfl, rfl⟩)
  rw [rounds_succ]
  go_wp2_with (go_at_call 19; refine (rank_any _ _ (by decide) (by decide) _).mono ?_; rintro e w' ⟨rfl, rfl⟩)
  refine wp_loop_rounds 3 ?_
  rw [rounds_succ]
  go_wp2_with (go_at_call 19; refine (rank_any _ _ (by decide) (by decide) _).mono ?_; rintro e w' ⟨rfl, rfl⟩)
  rw [rounds_succ]
  go_wp2_with (go_at_call 19; refine (rank_any _ _ (by decide) (by decide) _).mono ?_; rintro e w' ⟨rfl, rfl⟩)
  rw [rounds_succ]
  go_wp2_with (go_at_call 19; refine (rank_any _ _ (by decide) (by decide) _).mono ?_; rintro e w' ⟨rfl, rfl⟩)
  rw [rounds_succ]
  go_wp2_with (go_at_call 19; refine (rank_any _ _ (by decide) (by decide) _).mono ?_; rintro e w' ⟨rfl, rfl⟩)
  go_ret
  exact ⟨rfl, below_drewN (hb3.out.alloc hb3.out.size _) _⟩

set_option maxHeartbeats 1000000 in
set_option maxRecDepth 100000 in
theorem law_4 (w : World) : Calls Try.prog 6 #[.bool false, .bool true, .bool false, .bool false] w fun e w' => e = .returned (.bool true) ∧ Below w.heap.size w w' := by
  go_enter Try.func6, Try.ntmps6
  go_wp2_with fail
  refine (outs_any _ _ _ _ _).mono ?_
  rintro e w1 ⟨rfl, hb1⟩
  go_wp2_with fail
  refine (rep_any _ _ _ _ _).mono ?_
  rintro e w2 ⟨rfl, hb2⟩
  have hb3 : Hid (Below w.heap.size w w2) := (hb1.alloc hb1.size _).trans (hb2.mono (by have := hb1.size; simp; omega))
  have kc := kept4 hb2
  clear hb1 hb2
  simp only [if_true, Bool.false_eq_true, if_false, Bool.or_true, Bool.true_or, Bool.or_false]
  go_wp2_with fail
  go_quiet (fail)
  go_wp2_with (go_at_call 19; refine (rank_any _ _ (by decide) (by decide) _).mono ?_; rintro e w' ⟨rfl, rfl⟩)
  refine wp_loop_rounds 3 ?_
  rw [rounds_succ]
  go_wp2_with (go_at_call 19; refine (rank_any _ _ (by decide) (by decide) _).mono ?_; rintro e w' ⟨rfl, rfl⟩)
  refine wp_loop_rounds 3 ?_
  rw [rounds_succ]
  go_wp2_with (go_at_call 19; refine (rank_any _ _ (by decide) (by decide) _).mono ?_; rintro e w' ⟨rfl, rfl⟩)
  rw [rounds_succ]
  go_wp2_with (go_at_call 19; refine (rank_any _ _ (by decide) (by decide) _).mono ?_; rintro e w' ⟨rfl, rfl⟩)
  rw [rounds_succ]
  go_wp2_with (go_at_call 19; refine (rank_any _ _ (by decide) (by decide) _).mono ?_; rintro e w' ⟨rfl, rfl⟩)
  rw [rounds_succ]
  go_wp2_with (go_at_call 19; refine (rank_any _ _ (by decide) (by decide) _).mono ?_; rintro e w' ⟨rfl, rfl⟩)
  refine wp_loop_rounds 3 ?_
  rw [rounds_succ]
  go_wp2_with (go_at_call 19; refine (rank_any _ _ (by decide) (by decide) _).mono ?_; rintro e w' ⟨rfl, rfl⟩)
  rw [rounds_succ]
  go_wp2_with (go_at_call 19; refine (rank_any _ _ (by decide) (by decide) _).mono ?_; rintro e w' ⟨rfl, rfl⟩)
  rw [rounds_succ]
  go_wp2_with (go_at_call 19; refine (rank_any _ _ (by decide) (by decide) _).mono ?_; rintro e w' ⟨rfl, rfl⟩)
  rw [rounds_succ]
  go_wp2_with (go_at_call 19; refine (rank_any _ _ (by decide) (by decide) _).mono ?_; rintro e w' ⟨rfl, rfl⟩)
  go_ret
  exact ⟨rfl, below_drewN (hb3.out.alloc hb3.out.size _) _⟩

set_option maxHeartbeats 1000000 in
set_option maxRecDepth 100000 in
theorem law_5 (w : World) : Calls Try.prog 6 #[.bool false, .bool true, .bool false, .bool true] w fun e w' => e = .returned (.bool true) ∧ Below w.heap.size w w' := by
  go_enter Try.func6, Try.ntmps6
  go_wp2_with fail
  refine (outs_any _ _ _ _ _).mono ?_
  rintro e w1 ⟨rfl, hb1⟩
  go_wp2_with fail
  refine (rep_any _ _ _ _ _).mono ?_
  rintro e w2 ⟨rfl, hb2⟩
  have hb3 : Hid (Below w.heap.size w w2) := (hb1.alloc hb1.size _).trans (hb2.mono (by have := hb1.size; simp; omega))
  have kc := kept4 hb2
  clear hb1 hb2
  simp only [if_true, Bool.false_eq_true, if_false, Bool.or_true, Bool.true_or, Bool.or_false]
  go_wp2_with fail
  go_quiet (fail)
  go_wp2_with (go_at_call 19; refine (rank_any _ _ (by decide) (by decide) _).mono ?_; rintro e w' ⟨rfl, rfl⟩)
  refine wp_loop_rounds 3 ?_
  rw [rounds_succ]
  go_wp2_with (go_at_call 19; refine (rank_any _ _ (by decide) (by decide) _).mono ?_; rintro e w' ⟨rfl, rfl⟩)
  refine wp_loop_rounds 3 ?_
  rw [rounds_succ]
  go_wp2_with (go_at_call 19; refine (rank_any _ _ (by decide) (by decide) _).mono ?_; rintro e w' ⟨rfl, rfl⟩)
  rw [rounds_succ]
  go_wp2_with (go_at_call 19; refine (rank_any _ _ (by decide) (by decide) _).mono ?_; rintro e w' ⟨rfl, rfl⟩)
  rw [rounds_succ]
  go_wp2_with (go_at_call 19; refine (rank_any _ _ (by decide) (by decide) _).mono ?_; rintro e w' ⟨rfl, rfl⟩)
  rw [rounds_succ]
  go_wp2_with (go_at_call 19; refine (rank_any _ _ (by decide) (by decide) _).mono ?_; rintro e w' ⟨rfl, rfl⟩)
  refine wp_loop_rounds 3 ?_
  rw [rounds_succ]
  go_wp2_with (go_at_call 19; refine (rank_any _ _ (by decide) (by decide) _).mono ?_; rintro e w' ⟨rfl, rfl⟩)
  rw [rounds_succ]
  go_wp2_with (go_at_call 19; refine (rank_any _ _ (by decide) (by decide) _).mono ?_; rintro e w' ⟨rfl, rfl⟩)
  rw [rounds_succ]
  go_wp2_with (go_at_call 19; refine (rank_any _ _ (by decide) (by decide) _).mono ?_; rintro e w' ⟨rfl, rfl⟩)
  rw [rounds_succ]
  go_wp2_with (go_at_call 19; refine (rank_any _ _ (by decide) (by decide) _).mono ?_; rintro e w' ⟨rfl, rfl⟩)
  go_ret
  exact ⟨rfl, below_drewN (hb3.out.alloc hb3.out.size _) _⟩

set_option maxHeartbeats 1000000 in
set_option maxRecDepth 100000 in
theorem law_6 (w : World) : Calls Try.prog 6 #[.bool false, .bool true, .bool true, .bool false] w fun e w' => e = .returned (.bool true) ∧ Below w.heap.size w w' := by
  go_enter Try.func6, Try.ntmps6
  go_wp2_with fail
  refine (outs_any _ _ _ _ _).mono ?_
  rintro e w1 ⟨rfl, hb1⟩
  go_wp2_with fail
  refine (rep_any _ _ _ _ _).mono ?_
  rintro e w2 ⟨rfl, hb2⟩
  have hb3 : Hid (Below w.heap.size w w2) := (hb1.alloc hb1.size _).trans (hb2.mono (by have := hb1.size; simp; omega))
  have kc := kept4 hb2
  clear hb1 hb2
  simp only [if_true, Bool.false_eq_true, if_false, Bool.or_true, Bool.true_or, Bool.or_false]
  go_wp2_with fail
  go_quiet (fail)
  go_wp2_with (go_at_call 19; refine (rank_any _ _ (by decide) (by decide) _).mono ?_; rintro e w' ⟨rfl, rfl⟩)
  refine wp_loop_rounds 3 ?_
  rw [rounds_succ]
  go_wp2_with (go_at_call 19; refine (rank_any _ _ (by decide) (by decide) _).mono ?_; rintro e w' ⟨rfl, rfl⟩)
  refine wp_loop_rounds 3 ?_
  rw [rounds_succ]
  go_wp2_with (go_at_call 19; refine (rank_any _ _ (by decide) (by decide) _).mono ?_; rintro e w' ⟨rfl, rfl⟩)
  rw [rounds_succ]
  go_wp2_with (go_at_call 19; refine (rank_any _ _ (by decide) (by decide) _).mono ?_; rintro e w' ⟨rfl, rfl⟩)
  rw [rounds_succ]
  go_wp2_with (go_at_call 19; refine (rank_any _ _ (by decide) (by decide) _).mono ?_; rintro e w' ⟨rfl, rfl⟩)
  rw [rounds_succ]
  go_wp2_with (go_at_call 19; refine (rank_any _ _ (by decide) (by decide) _).mono ?_; rintro e w' ⟨rfl, rfl⟩)
  refine wp_loop_rounds 3 ?_
  rw [rounds_succ]
  go_wp2_with (go_at_call 19; refine (rank_any _ _ (by decide) (by decide) _).mono ?_; rintro e w' ⟨rfl, rfl⟩)
  rw [rounds_succ]
  go_wp2_with (go_at_call 19; refine (rank_any _ _ (by decide) (by decide) _).mono ?_; rintro e w' ⟨rfl, rfl⟩)
  rw [rounds_succ]
  go_wp2_with (go_at_call 19; refine (rank_any _ _ (by decide) (by decide) _).mono ?_; rintro e w' ⟨rfl, rfl⟩)
  rw [rounds_succ]
  go_wp2_with (go_at_call 19; refine (rank_any _ _ (by decide) (by decide) _).mono ?_; rintro e w' ⟨rfl, rfl⟩)
  go_ret
  exact ⟨rfl, below_drewN (hb3.out.alloc hb3.out.size _) _⟩

set_option maxHeartbeats 1000000 in
set_option maxRecDepth 100000 in
theorem law_7 (w : World) : Calls Try.prog 6 #[.bool false, .bool true, .bool true, .bool true] w fun e w' => e = .returned (.bool true) ∧ Below w.heap.size w w' := by
  go_enter Try.func6, Try.ntmps6
  go_wp2_with fail
  refine (outs_any _ _ _ _ _).mono ?_
  rintro e w1 ⟨rfl, hb1⟩
  go_wp2_with fail
  refine (rep_any _ _ _ _ _).mono ?_
  rintro e w2 ⟨rfl, hb2⟩
  have hb3 : Hid (Below w.heap.size w w2) := (hb1.alloc hb1.size _).trans (hb2.mono (by have := hb1.size; simp; omega))
  have kc := kept4 hb2
  clear hb1 hb2
  simp only [if_true, Bool.false_eq_true, if_false, Bool.or_true, Bool.true_or, Bool.or_false]
  go_wp2_with fail
  go_quiet (fail)
  go_wp2_with (go_at_call 19; refine (rank_any _ _ (by decide) (by decide) _).mono ?_; rintro e w' ⟨rfl, rfl⟩)
  refine wp_loop_rounds 3 ?_
  rw [rounds_succ]
  go_wp2_with (go_at_call 19; refine (rank_any _ _ (by decide) (by decide) _).mono ?_; rintro e w' ⟨rfl, rfl⟩)
  refine wp_loop_rounds 3 ?_
  rw [rounds_succ]
  go_wp2_with (go_at_call 19; refine (rank_any _ _ (by decide) (by decide) _).mono ?_; rintro e w' ⟨rfl, rfl⟩)
  rw [rounds_succ]
  go_wp2_with (go_at_call 19; refine (rank_any _ _ (by decide) (by decide) _).mono ?_; rintro e w' ⟨rfl, rfl⟩)
  rw [rounds_succ]
  go_wp2_with (go_at_call 19; refine (rank_any _ _ (by decide) (by decide) _).mono ?_; rintro e w' ⟨rfl, rfl⟩)
  rw [rounds_succ]
  go_wp2_with (go_at_call 19; refine (rank_any _ _ (by decide) (by decide) _).mono ?_; rintro e w' ⟨rfl, rfl⟩)
  refine wp_loop_rounds 3 ?_
  rw [rounds_succ]
  go_wp2_with (go_at_call 19; refine (rank_any _ _ (by decide) (by decide) _).mono ?_; rintro e w' ⟨rfl, rfl⟩)
  rw [rounds_succ]
  go_wp2_with (go_at_call 19; refine (rank_any _ _ (by decide) (by decide) _).mono ?_; rintro e w' ⟨rfl, rfl⟩)
  rw [rounds_succ]
  go_wp2_with (go_at_call 19; refine (rank_any _ _ (by decide) (by decide) _).mono ?_; rintro e w' ⟨rfl, rfl⟩)
  rw [rounds_succ]
  go_wp2_with (go_at_call 19; refine (rank_any _ _ (by decide) (by decide) _).mono ?_; rintro e w' ⟨rfl, rfl⟩)
  go_ret
  exact ⟨rfl, below_drewN (hb3.out.alloc hb3.out.size _) _⟩

set_option maxHeartbeats 1000000 in
set_option maxRecDepth 100000 in
theorem law_8 (w : World) : Calls Try.prog 6 #[.bool true, .bool false, .bool false, .bool false] w fun e w' => e = .returned (.bool true) ∧ Below w.heap.size w w' := by
  go_enter Try.func6, Try.ntmps6
  go_wp2_with fail
  refine (outs_any _ _ _ _ _).mono ?_
  rintro e w1 ⟨rfl, hb1⟩
  go_wp2_with fail
  refine (rep_any _ _ _ _ _).mono ?_
  rintro e w2 ⟨rfl, hb2⟩
  have hb3 : Hid (Below w.heap.size w w2) := (hb1.alloc hb1.size _).trans (hb2.mono (by have := hb1.size; simp; omega))
  have kc := kept4 hb2
  clear hb1 hb2
  simp only [if_true, Bool.false_eq_true, if_false, Bool.or_true, Bool.true_or, Bool.or_false]
  go_wp2_with fail
  go_quiet (fail)
  go_wp2_with (go_at_call 19; refine (rank_any _ _ (by decide) (by decide) _).mono ?_; rintro e w' ⟨rfl, rfl⟩)
  refine wp_loop_rounds 3 ?_
  rw [rounds_succ]
  go_wp2_with (go_at_call 19; refine (rank_any _ _ (by decide) (by decide) _).mono ?_; rintro e w' ⟨rfl, rfl⟩)
  refine wp_loop_rounds 3 ?_
  rw [rounds_succ]
  go_wp2_with (go_at_call 19; refine (rank_any _ _ (by decide) (by decide) _).mono ?_; rintro e w' ⟨rfl, rfl⟩)
  rw [rounds_succ]
  go_wp2_with (go_at_call 19; refine (rank_any _ _ (by decide) (by decide) _).mono ?_; rintro e w' ⟨rfl, rfl⟩)
  rw [rounds_succ]
  go_wp2_with (go_at_call 19; refine (rank_any _ _ (by decide) (by decide) _).mono ?_; rintro e w' ⟨rfl, rfl⟩)
  rw [rounds_succ]
  go_wp2_with (go_at_call 19; refine (rank_any _ _ (by decide) (by decide) _).mono ?_; rintro e w' ⟨rfl, rfl⟩)
  refine wp_loop_rounds 3 ?_
  rw [rounds_succ]
  go_wp2_with (go_at_call 19; refine (rank_any _ _ (by decide) (by decide) _).mono ?_; rintro e w' ⟨rfl, rfl⟩)
  rw [rounds_succ]
  go_wp2_with (go_at_call 19; refine (rank_any _ _ (by decide) (by decide) _).mono ?_; rintro e w' ⟨rfl, rfl⟩)
  rw [rounds_succ]
  go_wp2_with (go_at_call 19; refine (rank_any _ _ (by decide) (by decide) _).mono ?_; rintro e w' ⟨rfl, rfl⟩)
  rw [rounds_succ]
  go_wp2_with (go_at_call 19; refine (rank_any _ _ (by decide) (by decide) _).mono ?_; rintro e w' ⟨rfl, rfl⟩)
  go_ret
  exact ⟨rfl, below_drewN (hb3.out.alloc hb3.out.size _) _⟩

set_option maxHeartbeats 1000000 in
set_option maxRecDepth 100000 in
theorem law_9 (w : World) : Calls Try.prog 6 #[.bool true, .bool false, .bool false, .bool true] w fun e w' => e = .returned (.bool true) ∧ Below w.heap.size w w' := by
  go_enter Try.func6, Try.ntmps6
  go_wp2_with fail
  refine (outs_any _ _ _ _ _).mono ?_
  rintro e w1 ⟨rfl, hb1⟩
  go_wp2_with fail
  refine (rep_any _ _ _ _ _).mono ?_
  rintro e w2 ⟨rfl, hb2⟩
  have hb3 : Hid (Below w.heap.size w w2) := (hb1.alloc hb1.size _).trans (hb2.mono (by have := hb1.size; simp; omega))
  have kc := kept4 hb2
  clear hb1 hb2
  simp only [if_true, Bool.false_eq_true, if_false, Bool.or_true, Bool.true_or, Bool.or_false]
  go_wp2_with fail
  go_quiet (fail)
  go_wp2_with (go_at_call 19; refine (rank_any _ _ (by decide) (by decide) _).mono ?_; rintro e w' ⟨rfl, rfl⟩)
  refine wp_loop_rounds 3 ?_
  rw [rounds_succ]
  go_wp2_with (go_at_call 19; refine (rank_any _ _ (by decide) (by decide) _).mono ?_; rintro e w' ⟨rfl, rfl⟩)
  refine wp_loop_rounds 3 ?_
  rw [rounds_succ]
  go_wp2_with (go_at_call 19; refine (rank_any _ _ (by decide) (by decide) _).mono ?_; rintro e w' ⟨rfl, rfl⟩)
  rw [rounds_succ]
  go_wp2_with (go_at_call 19; refine (rank_any _ _ (by decide) (by decide) _).mono ?_; rintro e w' ⟨rfl, rfl⟩)
  rw [rounds_succ]
  go_wp2_with (go_at_call 19; refine (rank_any _ _ (by decide) (by decide) _).mono ?_; rintro e w' ⟨rfl, rfl⟩)
  rw [rounds_succ]
  go_wp2_with (go_at_call 19; refine (rank_any _ _ (by decide) (by decide) _).mono ?_; rintro e w' ⟨rfl, rfl⟩)
  refine wp_loop_rounds 3 ?_
  rw [rounds_succ]
  go_wp2_with (go_at_call 19; refine (rank_any _ _ (by decide) (by decide) _).mono ?_; rintro e w' ⟨rfl, rfl⟩)
  rw [rounds_succ]
  go_wp2_with (go_at_call 19; refine (rank_any _ _ (by decide) (by decide) _).mono ?_; rintro e w' ⟨rfl, rfl⟩)
  rw [rounds_succ]
  go_wp2_with (go_at_call 19; refine (rank_any _ _ (by decide) (by decide) _).mono ?_; rintro e w' ⟨rfl, rfl⟩)
  rw [rounds_succ]
  go_wp2_with (go_at_call 19; refine (rank_any _ _ (by decide) (by decide) _).mono ?_; rintro e w' ⟨rfl, rfl⟩)
  go_ret
  exact ⟨rfl, below_drewN (hb3.out.alloc hb3.out.size _) _⟩

set_option maxHeartbeats 1000000 in
set_option maxRecDepth 100000 in
theorem law_10 (w : World) : Calls Try.prog 6 #[.bool true, .bool false, .bool true, .bool false] w fun e w' => e = .returned (.bool true) ∧ Below w.heap.size w w' := by
  go_enter Try.func6, Try.ntmps6
  go_wp2_with fail
  refine (outs_any _ _ _ _ _).mono ?_
  rintro e w1 ⟨rfl, hb1⟩
  go_wp2_with fail
  refine (rep_any _ _ _ _ _).mono ?_
  rintro e w2 ⟨rfl, hb2⟩
  have hb3 : Hid (Below w.heap.size w w2) := (hb1.alloc hb1.size _).trans (hb2.mono (by have := hb1.size; simp; omega))
  have kc := kept4 hb2
  clear hb1 hb2
  simp only [if_true, Bool.false_eq_true, if_false, Bool.or_true, Bool.true_or, Bool.or_false]
  go_wp2_with fail
  go_quiet (fail)
  go_wp2_with (go_at_call 19; refine (rank_any _ _ (by decide) (by decide) _).mono ?_; rintro e w' ⟨rfl, rfl⟩)
  refine wp_loop_rounds 3 ?_
  rw [rounds_succ]
  go_wp2_with (go_at_call 19; refine (rank_any _ _ (by decide) (by decide) _).mono ?_; rintro e w' ⟨rfl, rfl⟩)
  refine wp_loop_rounds 3 ?_
  rw [rounds_succ]
  go_wp2_with (go_at_call 19; refine (rank_any _ _ (by decide) (by decide) _).mono ?_; rintro e w' ⟨rfl, rfl⟩)
  rw [rounds_succ]
  go_wp2_with (go_at_call 19; refine (rank_any _ _ (by decide) (by decide) _).mono ?_; rintro e w' ⟨rfl, rfl⟩)
  rw [rounds_succ]
  go_wp2_with (go_at_call 19; refine (rank_any _ _ (by decide) (by decide) _).mono ?_; rintro e w' ⟨rfl, rfl⟩)
  rw [rounds_succ]
  go_wp2_with (go_at_call 19; refine (rank_any _ _ (by decide) (by decide) _).mono ?_; rintro e w' ⟨rfl, rfl⟩)
  refine wp_loop_rounds 3 ?_
  rw [rounds_succ]
  go_wp2_with (go_at_call 19; refine (rank_any _ _ (by decide) (by decide) _).mono ?_; rintro e w' ⟨rfl, rfl⟩)
  rw [rounds_succ]
  go_wp2_with (go_at_call 19; refine (rank_any _ _ (by decide) (by decide) _).mono ?_; rintro e w' ⟨rfl, rfl⟩)
  rw [rounds_succ]
  go_wp2_with (go_at_call 19; refine (rank_any _ _ (by decide) (by decide) _).mono ?_; rintro e w' ⟨rfl, rfl⟩)
  rw [rounds_succ]
  go_wp2_with (go_at_call 19; refine (rank_any _ _ (by decide) (by decide) _).mono ?_; rintro e w' ⟨rfl, rfl⟩)
  go_ret
  exact ⟨rfl, below_drewN (hb3.out.alloc hb3.out.size _) _⟩

set_option maxHeartbeats 1000000 in
set_option maxRecDepth 100000 in
theorem law_11 (w : World) : Calls Try.prog 6 #[.bool true, .bool false, .bool true, .bool true] w fun e w' => e = .returned (.bool true) ∧ Below w.heap.size w w' := by
  go_enter Try.func6, Try.ntmps6
  go_wp2_with fail
  refine (outs_any _ _ _ _ _).mono ?_
  rintro e w1 ⟨rfl, hb1⟩
  go_wp2_with fail
  refine (rep_any _ _ _ _ _).mono ?_
  rintro e w2 ⟨rfl, hb2⟩
  have hb3 : Hid (Below w.heap.size w w2) := (hb1.alloc hb1.size _).trans (hb2.mono (by have := hb1.size; simp; omega))
  have kc := kept4 hb2
  clear hb1 hb2
  simp only [if_true, Bool.false_eq_true, if_false, Bool.or_true, Bool.true_or, Bool.or_false]
  go_wp2_with fail
  go_quiet (fail)
  go_wp2_with (go_at_call 19; refine (rank_any _ _ (by decide) (by decide) _).mono ?_; rintro e w' ⟨rfl, rfl⟩)
  refine wp_loop_rounds 3 ?_
  rw [rounds_succ]
  go_wp2_with (go_at_call 19; refine (rank_any _ _ (by decide) (by decide) _).mono ?_; rintro e w' ⟨rfl, rfl⟩)
  refine wp_loop_rounds 3 ?_
  rw [rounds_succ]
  go_wp2_with (go_at_call 19; refine (rank_any _ _ (by decide) (by decide) _).mono ?_; rintro e w' ⟨rfl, rfl⟩)
  rw [rounds_succ]
  go_wp2_with (go_at_call 19; refine (rank_any _ _ (by decide) (by decide) _).mono ?_; rintro e w' ⟨rfl, rfl⟩)
  rw [rounds_succ]
  go_wp2_with (go_at_call 19; refine (rank_any _ _ (by decide) (by decide) _).mono ?_; rintro e w' ⟨rfl, rfl⟩)
  rw [rounds_succ]
  go_wp2_with (go_at_call 19; refine (rank_any _ _ (by decide) (by decide) _).mono ?_; rintro e w' ⟨rfl, rfl⟩)
  refine wp_loop_rounds 3 ?_
  rw [rounds_succ]
  go_wp2_with (go_at_call 19; refine (rank_any _ _ (by decide) (by decide) _).mono ?_; rintro e w' ⟨rfl, rfl⟩)
  rw [rounds_succ]
  go_wp2_with (go_at_call 19; refine (rank_any _ _ (by decide) (by decide) _).mono ?_; rintro e w' ⟨rfl, rfl⟩)
  rw [rounds_succ]
  go_wp2_with (go_at_call 19; refine (rank_any _ _ (by decide) (by decide) _).mono ?_; rintro e w' ⟨rfl, rfl⟩)
  rw [rounds_succ]
  go_wp2_with (go_at_call 19; refine (rank_any _ _ (by decide) (by decide) _).mono ?_; rintro e w' ⟨rfl, rfl⟩)
  go_ret
  exact ⟨rfl, below_drewN (hb3.out.alloc hb3.out.size _) _⟩

set_option maxHeartbeats 1000000 in
set_option maxRecDepth 100000 in
theorem law_12 (w : World) : Calls Try.prog 6 #[.bool true, .bool true, .bool false, .bool false] w fun e w' => e = .returned (.bool true) ∧ Below w.heap.size w w' := by
  go_enter Try.func6, Try.ntmps6
  go_wp2_with fail
  refine (outs_any _ _ _ _ _).mono ?_
  rintro e w1 ⟨rfl, hb1⟩
  go_wp2_with fail
  refine (rep_any _ _ _ _ _).mono ?_
  rintro e w2 ⟨rfl, hb2⟩
  have hb3 : Hid (Below w.heap.size w w2) := (hb1.alloc hb1.size _).trans (hb2.mono (by have := hb1.size; simp; omega))
  have kc := kept4 hb2
  clear hb1 hb2
  simp only [if_true, Bool.false_eq_true, if_false, Bool.or_true, Bool.true_or, Bool.or_false]
  go_wp2_with fail
  go_quiet (fail)
  go_wp2_with (go_at_call 19; refine (rank_any _ _ (by decide) (by decide) _).mono ?_; rintro e w' ⟨rfl, rfl⟩)
  refine wp_loop_rounds 3 ?_
  rw [rounds_succ]
  go_wp2_with (go_at_call 19; refine (rank_any _ _ (by decide) (by decide) _).mono ?_; rintro e w' ⟨rfl, rfl⟩)
  refine wp_loop_rounds 3 ?_
  rw [rounds_succ]
  go_wp2_with (go_at_call 19; refine (rank_any _ _ (by decide) (by decide) _).mono ?_; rintro e w' ⟨rfl, rfl⟩)
  rw [rounds_succ]
  go_wp2_with (go_at_call 19; refine (rank_any _ _ (by decide) (by decide) _).mono ?_; rintro e w' ⟨rfl, rfl⟩)
  rw [rounds_succ]
  go_wp2_with (go_at_call 19; refine (rank_any _ _ (by decide) (by decide) _).mono ?_; rintro e w' ⟨rfl, rfl⟩)
  rw [rounds_succ]
  go_wp2_with (go_at_call 19; refine (rank_any _ _ (by decide) (by decide) _).mono ?_; rintro e w' ⟨rfl, rfl⟩)
  refine wp_loop_rounds 3 ?_
  rw [rounds_succ]
  go_wp2_with (go_at_call 19; refine (rank_any _ _ (by decide) (by decide) _).mono ?_; rintro e w' ⟨rfl, rfl⟩)
  rw [rounds_succ]
  go_wp2_with (go_at_call 19; refine (rank_any _ _ (by decide) (by decide) _).mono ?_; rintro e w' ⟨rfl, rfl⟩)
  rw [rounds_succ]
  go_wp2_with (go_at_call 19; refine (rank_any _ _ (by decide) (by decide) _).mono ?_; rintro e w' ⟨rfl, rfl⟩)
  rw [rounds_succ]
  go_wp2_with (go_at_call 19; refine (rank_any _ _ (by decide) (by decide) _).mono ?_; rintro e w' ⟨rfl, rfl⟩)
  go_ret
  exact ⟨rfl, below_drewN (hb3.out.alloc hb3.out.size _) _⟩

set_option maxHeartbeats 1000000 in
set_option maxRecDepth 100000 in
theorem law_13 (w : World) : Calls Try.prog 6 #[.bool true, .bool true, .bool false, .bool true] w fun e w' => e = .returned (.bool true) ∧ Below w.heap.size w w' := by
  go_enter Try.func6, Try.ntmps6
  go_wp2_with fail
  refine (outs_any _ _ _ _ _).mono ?_
  rintro e w1 ⟨rfl, hb1⟩
  go_wp2_with fail
  refine (rep_any _ _ _ _ _).mono ?_
  rintro e w2 ⟨rfl, hb2⟩
  have hb3 : Hid (Below w.heap.size w w2) := (hb1.alloc hb1.size _).trans (hb2.mono (by have := hb1.size; simp; omega))
  have kc := kept4 hb2
  clear hb1 hb2
  simp only [if_true, Bool.false_eq_true, if_false, Bool.or_true, Bool.true_or, Bool.or_false]
  go_wp2_with fail
  go_quiet (fail)
  go_wp2_with (go_at_call 19; refine (rank_any _ _ (by decide) (by decide) _).mono ?_; rintro e w' ⟨rfl, rfl⟩)
  refine wp_loop_rounds 3 ?_
  rw [rounds_succ]
  go_wp2_with (go_at_call 19; refine (rank_any _ _ (by decide) (by decide) _).mono ?_; rintro e w' ⟨rfl, rfl⟩)
  refine wp_loop_rounds 3 ?_
  rw [rounds_succ]
  go_wp2_with (go_at_call 19; refine (rank_any _ _ (by decide) (by decide) _).mono ?_; rintro e w' ⟨rfl, rfl⟩)
  rw [rounds_succ]
  go_wp2_with (go_at_call 19; refine (rank_any _ _ (by decide) (by decide) _).mono ?_; rintro e w' ⟨rfl, rfl⟩)
  rw [rounds_succ]
  go_wp2_with (go_at_call 19; refine (rank_any _ _ (by decide) (by decide) _).mono ?_; rintro e w' ⟨rfl, rfl⟩)
  rw [rounds_succ]
  go_wp2_with (go_at_call 19; refine (rank_any _ _ (by decide) (by decide) _).mono ?_; rintro e w' ⟨rfl, rfl⟩)
  refine wp_loop_rounds 3 ?_
  rw [rounds_succ]
  go_wp2_with (go_at_call 19; refine (rank_any _ _ (by decide) (by decide) _).mono ?_; rintro e w' ⟨rfl, rfl⟩)
  rw [rounds_succ]
  go_wp2_with (go_at_call 19; refine (rank_any _ _ (by decide) (by decide) _).mono ?_; rintro e w' ⟨rfl, rfl⟩)
  rw [rounds_succ]
  go_wp2_with (go_at_call 19; refine (rank_any _ _ (by decide) (by decide) _).mono ?_; rintro e w' ⟨rfl, rfl⟩)
  rw [rounds_succ]
  go_wp2_with (go_at_call 19; refine (rank_any _ _ (by decide) (by decide) _).mono ?_; rintro e w' ⟨rfl, rfl⟩)
  go_ret
  exact ⟨rfl, below_drewN (hb3.out.alloc hb3.out.size _) _⟩

set_option maxHeartbeats 1000000 in
set_option maxRecDepth 100000 in
theorem law_14 (w : World) : Calls Try.prog 6 #[.bool true, .bool true, .bool true, .bool false] w fun e w' => e = .returned (.bool true) ∧ Below w.heap.size w w' := by
  go_enter Try.func6, Try.ntmps6
  go_wp2_with fail
  refine (outs_any _ _ _ _ _).mono ?_
  rintro e w1 ⟨rfl, hb1⟩
  go_wp2_with fail
  refine (rep_any _ _ _ _ _).mono ?_
  rintro e w2 ⟨rfl, hb2⟩
  have hb3 : Hid (Below w.heap.size w w2) := (hb1.alloc hb1.size _).trans (hb2.mono (by have := hb1.size; simp; omega))
  have kc := kept4 hb2
  clear hb1 hb2
  simp only [if_true, Bool.false_eq_true, if_false, Bool.or_true, Bool.true_or, Bool.or_false]
  go_wp2_with fail
  go_quiet (fail)
  go_wp2_with (go_at_call 19; refine (rank_any _ _ (by decide) (by decide) _).mono ?_; rintro e w' ⟨rfl, rfl⟩)
  refine wp_loop_rounds 3 ?_
  rw [rounds_succ]
  go_wp2_with (go_at_call 19; refine (rank_any _ _ (by decide) (by decide) _).mono ?_; rintro e w' ⟨rfl, rfl⟩)
  refine wp_loop_rounds 3 ?_
  rw [rounds_succ]
  go_wp2_with (go_at_call 19; refine (rank_any _ _ (by decide) (by decide) _).mono ?_; rintro e w' ⟨rfl, rfl⟩)
  rw [rounds_succ]
  go_wp2_with (go_at_call 19; refine (rank_any _ _ (by decide) (by decide) _).mono ?_; rintro e w' ⟨rfl, rfl⟩)
  rw [rounds_succ]
  go_wp2_with (go_at_call 19; refine (rank_any _ _ (by decide) (by decide) _).mono ?_; rintro e w' ⟨rfl, rfl⟩)
  rw [rounds_succ]
  go_wp2_with (go_at_call 19; refine (rank_any _ _ (by decide) (by decide) _).mono ?_; rintro e w' ⟨rfl, rfl⟩)
  refine wp_loop_rounds 3 ?_
  rw [rounds_succ]
  go_wp2_with (go_at_call 19; refine (rank_any _ _ (by decide) (by decide) _).mono ?_; rintro e w' ⟨rfl, rfl⟩)
  rw [rounds_succ]
  go_wp2_with (go_at_call 19; refine (rank_any _ _ (by decide) (by decide) _).mono ?_; rintro e w' ⟨rfl, rfl⟩)
  rw [rounds_succ]
  go_wp2_with (go_at_call 19; refine (rank_any _ _ (by decide) (by decide) _).mono ?_; rintro e w' ⟨rfl, rfl⟩)
  rw [rounds_succ]
  go_wp2_with (go_at_call 19; refine (rank_any _ _ (by decide) (by decide) _).mono ?_; rintro e w' ⟨rfl, rfl⟩)
  go_ret
  exact ⟨rfl, below_drewN (hb3.out.alloc hb3.out.size _) _⟩

set_option maxHeartbeats 1000000 in
set_option maxRecDepth 100000 in
theorem law_15 (w : World) : Calls Try.prog 6 #[.bool true, .bool true, .bool true, .bool true] w fun e w' => e = .returned (.bool true) ∧ Below w.heap.size w w' := by
  go_enter Try.func6, Try.ntmps6
  go_wp2_with fail
  refine (outs_any _ _ _ _ _).mono ?_
  rintro e w1 ⟨rfl, hb1⟩
  go_wp2_with fail
  refine (rep_any _ _ _ _ _).mono ?_
  rintro e w2 ⟨rfl, hb2⟩
  have hb3 : Hid (Below w.heap.size w w2) := (hb1.alloc hb1.size _).trans (hb2.mono (by have := hb1.size; simp; omega))
  have kc := kept4 hb2
  clear hb1 hb2
  simp only [if_true, Bool.false_eq_true, if_false, Bool.or_true, Bool.true_or, Bool.or_false]
  go_wp2_with fail
  go_quiet (fail)
  go_wp2_with (go_at_call 19; refine (rank_any _ _ (by decide) (by decide) _).mono ?_; rintro e w' ⟨rfl, rfl⟩)
  refine wp_loop_rounds 3 ?_
  rw [rounds_succ]
  go_wp2_with (go_at_call 19; refine (rank_any _ _ (by decide) (by decide) _).mono ?_; rintro e w' ⟨rfl, rfl⟩)
  refine wp_loop_rounds 3 ?_
  rw [rounds_succ]
  go_wp2_with (go_at_call 19; refine (rank_any _ _ (by decide) (by decide) _).mono ?_; rintro e w' ⟨rfl, rfl⟩)
  rw [rounds_succ]
  go_wp2_with (go_at_call 19; refine (rank_any _ _ (by decide) (by decide) _).mono ?_; rintro e w' ⟨rfl, rfl⟩)
  rw [rounds_succ]
  go_wp2_with (go_at_call 19; refine (rank_any _ _ (by decide) (by decide) _).mono ?_; rintro e w' ⟨rfl, rfl⟩)
  rw [rounds_succ]
  go_wp2_with (go_at_call 19; refine (rank_any _ _ (by decide) (by decide) _).mono ?_; rintro e w' ⟨rfl, rfl⟩)
  refine wp_loop_rounds 3 ?_
  rw [rounds_succ]
  go_wp2_with (go_at_call 19; refine (rank_any _ _ (by decide) (by decide) _).mono ?_; rintro e w' ⟨rfl, rfl⟩)
  rw [rounds_succ]
  go_wp2_with (go_at_call 19; refine (rank_any _ _ (by decide) (by decide) _).mono ?_; rintro e w' ⟨rfl, rfl⟩)
  rw [rounds_succ]
  go_wp2_with (go_at_call 19; refine (rank_any _ _ (by decide) (by decide) _).mono ?_; rintro e w' ⟨rfl, rfl⟩)
  rw [rounds_succ]
  go_wp2_with (go_at_call 19; refine (rank_any _ _ (by decide) (by decide) _).mono ?_; rintro e w' ⟨rfl, rfl⟩)
  go_ret
  exact ⟨rfl, below_drewN (hb3.out.alloc hb3.out.size _) _⟩

/-- The law, whatever the four bools. -/
theorem rep_law (a b c d : Bool) (w : World) : Calls Try.prog 6 #[.bool a, .bool b, .bool c, .bool d] w fun e w' => e = .returned (.bool true) ∧ Below w.heap.size w w' := by
  cases a <;> cases b <;> cases c <;> cases d
  · exact law_ff_ff w
  · exact law_1 w
  · exact law_2 w
  · exact law_3 w
  · exact law_4 w
  · exact law_5 w
  · exact law_6 w
  · exact law_7 w
  · exact law_8 w
  · exact law_9 w
  · exact law_10 w
  · exact law_11 w
  · exact law_12 w
  · exact law_13 w
  · exact law_14 w
  · exact law_15 w
end Go.Proofs.Qxb6600356a.Rep
