import Derived.Test.Qxb6001659aRows
import Derived.WalkKit
import Derived.WalkSpells
import Derived.WalkLawsBesides
import Derived.Deep.QuietTactic
import Derived.BigQuiet
namespace Go.Proofs.Qxb6001659a.Cand
open Go.RowKit

/-- The seven fields of a candidate. -/
structure Cd where
  r : ByteArray
  p : Int
  o : Int
  sd : Bool
  dc : Bool
  si : Bool
  ld : Bool

/-- The candidate as a value. -/
abbrev Cd.val (c : Cd) : Value := .agg #[.string c.r, .int .i64 c.p, .int .i64 c.o, .bool c.sd, .bool c.dc, .bool c.si, .bool c.ld]

/-- The field on which two candidates differ first: 6, 7 or 8. -/
def reason (a b : Cd) : Int := if a.p = b.p then (if a.o = b.o then 8 else 7) else 6
/-- Does a rank before b? -/
def before (a b : Cd) : Bool := if a.p = b.p then (if a.o = b.o then Op.bytesLess a.r.toList b.r.toList else decide (b.o < a.o)) else decide (a.p < b.p)
def same (a b : Cd) : Bool := a.p == b.p && a.o == b.o && a.r.toList == b.r.toList

theorem two_boxes (w : World) (o1 o2 : Obj) (n : Nat) : Below w.heap.size w (((w.alloc o1).alloc o2).drewN n) :=
  below_drewN (((Below.refl _ _).alloc (Nat.le_refl _) _).alloc (by simp) _) n
theorem two_boxes0 (w : World) (o1 o2 : Obj) : Below w.heap.size w ((w.alloc o1).alloc o2) :=
  ((Below.refl _ _).alloc (Nat.le_refl _) _).alloc (by simp) _
theorem one_box (w : World) (o1 : Obj) : Below w.heap.size w (w.alloc o1) := (Below.refl _ _).alloc (Nat.le_refl _) _

set_option maxHeartbeats 400000 in
theorem compare_any (a b : Cd) (w : World) : Calls Try.prog 65 #[a.val, b.val] w fun e w' => e = .returned (.tuple #[.int .i64 (reason a b), .bool (before a b)]) ∧ Below w.heap.size w w' := by
  unfold reason before
  by_cases hp : a.p = b.p
  · rw [if_pos hp, if_pos hp]
    by_cases ho : a.o = b.o
    · rw [if_pos ho, if_pos ho]
      go_enter Try.func65, Try.ntmps65
      go_wp2
      go_quiet (fail)
      go_wp2
      go_ret2
      exact ⟨rfl, two_boxes _ _ _ _⟩
    · rw [if_neg ho, if_neg ho]
      have h1 : (a.o != b.o) = true := by simp [ho]
      go_enter Try.func65, Try.ntmps65
      go_wp2
      go_quiet (fail)
      go_wp2
      go_ret2
      exact ⟨rfl, two_boxes _ _ _ _⟩
  · rw [if_neg hp, if_neg hp]
    have h1 : (a.p != b.p) = true := by simp [hp]
    go_enter Try.func65, Try.ntmps65
    go_wp2
    go_quiet (fail)
    go_wp2
    go_ret2
    exact ⟨rfl, two_boxes _ _ _ _⟩

set_option maxHeartbeats 400000 in
theorem zzcompare_any (a b : Cd) (w : World) : Calls Try.prog 39 #[a.val, b.val] w fun e w' => e = .returned (.tuple #[.int .i64 (reason a b), .bool (before a b)]) ∧ Below w.heap.size w w' := by
  go_enter Try.func39, Try.ntmps39
  go_wp2_with fail
  refine (compare_any a b _).mono ?_
  rintro e w1 ⟨rfl, hb⟩
  go_wp2
  go_ret2
  exact ⟨rfl, (two_boxes0 _ _ _).trans (hb.mono (by simp; omega))⟩

set_option maxHeartbeats 400000 in
theorem ranks_any (a b : Cd) (w : World) : Calls Try.prog 64 #[a.val, b.val] w fun e w' => e = .returned (.bool (before a b)) ∧ Below w.heap.size w w' := by
  go_enter Try.func64, Try.ntmps64
  go_wp2_with fail
  refine (compare_any a b _).mono ?_
  rintro e w1 ⟨rfl, hb⟩
  go_wp2
  go_ret
  exact ⟨rfl, (two_boxes0 _ _ _).trans (hb.mono (by simp; omega))⟩

set_option maxHeartbeats 400000 in
theorem same_any (a b : Cd) (w : World) : Calls Try.prog 31 #[a.val, b.val] w fun e w' => e = .returned (.bool (same a b)) ∧ Below w.heap.size w w' := by
  unfold same
  cases h1 : a.p == b.p
  · go_enter Try.func31, Try.ntmps31
    go_wp2
    go_ret
    exact ⟨rfl, two_boxes0 _ _ _⟩
  · cases h2 : a.o == b.o
    · go_enter Try.func31, Try.ntmps31
      go_wp2
      go_ret
      exact ⟨rfl, two_boxes0 _ _ _⟩
    · go_enter Try.func31, Try.ntmps31
      go_wp2
      go_ret
      exact ⟨rfl, two_boxes0 _ _ _⟩

set_option maxHeartbeats 400000 in
theorem toSel_any (a : Cd) (w : World) : Calls Try.prog 38 #[a.val] w fun e w' => e = .returned a.val ∧ Below w.heap.size w w' := by
  go_enter Try.func38, Try.ntmps38
  go_wp2
  exact bodyPost_ret (v := a.val) (by simp [results, Try.results38, go_sem]) rfl ⟨rfl, two_boxes0 _ _ _⟩
end Go.Proofs.Qxb6001659a.Cand
