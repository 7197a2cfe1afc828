import Derived.Test.Qxb6001659aCmp
import Derived.Test.Qxb6001659aTab
namespace Go.Proofs.Qxb6001659a.Cand
open Go.RowKit

/-! The functions of one or two candidates that the laws over slices call. -/
def excl (c : Cd) : Int := if c.sd then 1 else if c.dc then 2 else if c.si then 3 else if c.p == 0 then 4 else if c.ld then 5 else 0
def elig (c : Cd) : Bool := excl c == 0
/-- Does the bar r hold of c? -/
def bar (c : Cd) (r : Int) : Bool := if r == 1 then c.sd else if r == 2 then c.dc else if r == 3 then c.si else if r == 4 then c.p == 0 else if r == 5 then c.ld else false

theorem excl_cases (c : Cd) : (excl c = 0 ∨ excl c = 1 ∨ excl c = 2 ∨ excl c = 3 ∨ excl c = 4 ∨ excl c = 5) ∧ (excl c ≠ 0 → bar c (excl c) = true) := by
  unfold excl
  cases h1 : c.sd
  · cases h2 : c.dc
    · cases h3 : c.si
      · cases h4 : c.p == 0
        · cases h5 : c.ld <;> simp [bar, h5]
        · simpa [bar] using h4
      · simp [bar, h3]
    · simp [bar, h2]
  · simp [bar, h1]

set_option maxHeartbeats 400000 in
theorem excl_any (c : Cd) (w : World) : Calls Try.prog 27 #[c.val] w fun e w' => e = .returned (.int .i64 (excl c)) ∧ Below w.heap.size w w' := by
  unfold excl
  cases h1 : c.sd
  · cases h2 : c.dc
    · cases h3 : c.si
      · cases h4 : c.p == 0
        · cases h5 : c.ld
          · go_enter Try.func27, Try.ntmps27
            go_wp2
            go_ret
            exact ⟨rfl, one_box _ _⟩
          · go_enter Try.func27, Try.ntmps27
            go_wp2
            go_ret
            exact ⟨rfl, one_box _ _⟩
        · go_enter Try.func27, Try.ntmps27
          go_wp2
          go_ret
          exact ⟨rfl, one_box _ _⟩
      · go_enter Try.func27, Try.ntmps27
        go_wp2
        go_ret
        exact ⟨rfl, one_box _ _⟩
    · go_enter Try.func27, Try.ntmps27
      go_wp2
      go_ret
      exact ⟨rfl, one_box _ _⟩
  · go_enter Try.func27, Try.ntmps27
    go_wp2
    go_ret
    exact ⟨rfl, one_box _ _⟩

set_option maxHeartbeats 400000 in
theorem elig_any (c : Cd) (w : World) : Calls Try.prog 63 #[c.val] w fun e w' => e = .returned (.bool (elig c)) ∧ Below w.heap.size w w' := by
  go_enter Try.func63, Try.ntmps63
  go_wp2_with fail
  refine (excl_any c _).mono ?_
  rintro e w1 ⟨rfl, hb⟩
  go_wp2
  go_ret
  exact ⟨rfl, (one_box _ _).trans (hb.mono (by simp))⟩

set_option maxHeartbeats 400000 in
theorem spec_any (c : Cd) (w : World) : Calls Try.prog 28 #[c.val] w fun e w' => e = .returned (.bool (elig c)) ∧ Below w.heap.size w w' := by
  unfold elig excl
  cases h1 : c.sd
  · cases h2 : c.dc
    · cases h3 : c.si
      · cases h4 : c.p == 0
        · have h4' : (c.p != 0) = true := by simpa using h4
          cases h5 : c.ld
          · go_enter Try.func28, Try.ntmps28
            go_wp2
            go_ret
            exact ⟨rfl, one_box _ _⟩
          · go_enter Try.func28, Try.ntmps28
            go_wp2
            go_ret
            exact ⟨rfl, one_box _ _⟩
        · have h4' : (c.p != 0) = false := by simpa using h4
          go_enter Try.func28, Try.ntmps28
          go_wp2
          go_ret
          exact ⟨rfl, one_box _ _⟩
      · go_enter Try.func28, Try.ntmps28
        go_wp2
        go_ret
        exact ⟨rfl, one_box _ _⟩
    · go_enter Try.func28, Try.ntmps28
      go_wp2
      go_ret
      exact ⟨rfl, one_box _ _⟩
  · go_enter Try.func28, Try.ntmps28
    go_wp2
    go_ret
    exact ⟨rfl, one_box _ _⟩

set_option maxHeartbeats 400000 in
theorem bar_any (c : Cd) (r : Int) (hr : r = 1 ∨ r = 2 ∨ r = 3 ∨ r = 4 ∨ r = 5) (w : World) : Calls Try.prog 29 #[c.val, .int .i64 r] w fun e w' => e = .returned (.bool (bar c r)) ∧ Below w.heap.size w w' := by
  rcases hr with rfl | rfl | rfl | rfl | rfl
  all_goals
    simp only [bar]
    go_enter Try.func29, Try.ntmps29
    go_wp2
    go_ret
    exact ⟨rfl, one_box _ _⟩

set_option maxHeartbeats 400000 in
theorem strict_any (a b : Cd) (w : World) : Calls Try.prog 30 #[a.val, b.val] w fun e w' => e = .returned (.bool (before a b)) ∧ Below w.heap.size w w' := by
  unfold before
  by_cases hp : a.p = b.p
  · rw [if_pos hp]
    by_cases ho : a.o = b.o
    · rw [if_pos ho]
      go_enter Try.func30, Try.ntmps30
      go_wp2
      go_ret
      exact ⟨rfl, two_boxes0 _ _ _⟩
    · rw [if_neg ho]
      have h1 : (a.o != b.o) = true := by simp [ho]
      go_enter Try.func30, Try.ntmps30
      go_wp2
      go_ret
      exact ⟨rfl, two_boxes0 _ _ _⟩
  · rw [if_neg hp]
    have h1 : (a.p != b.p) = true := by simp [hp]
    go_enter Try.func30, Try.ntmps30
    go_wp2
    go_ret
    exact ⟨rfl, two_boxes0 _ _ _⟩
end Go.Proofs.Qxb6001659a.Cand
