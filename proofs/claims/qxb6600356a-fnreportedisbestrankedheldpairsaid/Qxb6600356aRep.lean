import Derived.Test.Qxb6600356aRows
import Derived.WalkKit
import Derived.WalkSpells
import Derived.WalkLawsBesides
import Derived.Deep.QuietTactic
import Derived.BigQuiet
namespace Go.Proofs.Qxb6600356a.Rep
open Go.RowKit

/-- Four bools as an array of two arrays of two. -/
abbrev out4 (a b c d : Bool) : Value := .agg #[.bool a, .bool b, .bool c, .bool d]

set_option maxHeartbeats 400000 in
theorem outs_any (a b c d : Bool) (w : World) : Calls Try.prog 17 #[.bool a, .bool b, .bool c, .bool d] w fun e w' => e = .returned (out4 a b c d) ∧ Below w.heap.size w w' := by
  go_enter Try.func17, Try.ntmps17
  go_wp2
  refine bodyPost_ret (v := out4 a b c d) (by simp [results, Try.results17, go_sem]) rfl ⟨rfl, ?_⟩
  exact ((Below.refl _ _).alloc (Nat.le_refl _) _).alloc (by simp) _

theorem rank_any (b g : Int) (hb : 0 ≤ b ∧ b ≤ 1) (hg : 0 ≤ g ∧ g ≤ 1) (w : World) : Calls Try.prog 19 #[.int .i64 b, .int .i64 g] w fun e w' => e = .returned (.int .i64 (2 * (1 - g) + b)) ∧ w' = w := by
  obtain ⟨b0, b1⟩ := hb
  obtain ⟨g0, g1⟩ := hg
  go_enter Try.func19, Try.ntmps19
  go_wp2
  go_ret
  exact ⟨rfl, rfl⟩

theorem two (w : World) (o1 o2 : Obj) : Below w.heap.size w ((w.alloc o1).alloc o2) := ((Below.refl _ _).alloc (Nat.le_refl _) _).alloc (by simp) _

set_option maxHeartbeats 1000000 in
theorem rep_any (a b c d : Bool) (w : World) : Calls Try.prog 18 #[out4 a b c d] w fun e w' =>
    e = .returned (.tuple #[.agg #[.int .u8 (if b then 0 else if d then 1 else if a then 0 else if c then 1 else 0), .int .u8 (if b then 1 else if d then 1 else 0)], .bool (a || b || c || d)]) ∧ Below w.heap.size w w' := by
  cases b
  · cases d
    · cases a
      · cases c
        · go_enter Try.func18, Try.ntmps18
          go_wp2
          refine wp_loop_rounds 3 ?_
          rw [rounds_succ]
          go_wp2
          refine wp_loop_rounds 3 ?_
          rw [rounds_succ]
          go_wp2
          rw [rounds_succ]
          go_wp2
          rw [rounds_succ]
          go_wp2
          rw [rounds_succ]
          go_wp2
          refine wp_loop_rounds 3 ?_
          rw [rounds_succ]
          go_wp2
          rw [rounds_succ]
          go_wp2
          rw [rounds_succ]
          go_wp2
          rw [rounds_succ]
          go_wp2
          exact bodyPost_ret (v := .tuple #[.agg #[.int .u8 0, .int .u8 0], .bool false]) (by simp [results, Try.results18, go_sem]) rfl ⟨by simp, two _ _ _⟩
        · go_enter Try.func18, Try.ntmps18
          go_wp2
          refine wp_loop_rounds 3 ?_
          rw [rounds_succ]
          go_wp2
          refine wp_loop_rounds 3 ?_
          rw [rounds_succ]
          go_wp2
          rw [rounds_succ]
          go_wp2
          rw [rounds_succ]
          go_wp2
          rw [rounds_succ]
          go_wp2
          refine wp_loop_rounds 3 ?_
          rw [rounds_succ]
          go_wp2
          rw [rounds_succ]
          go_wp2
          exact bodyPost_ret (v := .tuple #[.agg #[.int .u8 1, .int .u8 0], .bool true]) (by simp [results, Try.results18, go_sem]) rfl ⟨by simp, two _ _ _⟩
      · go_enter Try.func18, Try.ntmps18
        go_wp2
        refine wp_loop_rounds 3 ?_
        rw [rounds_succ]
        go_wp2
        refine wp_loop_rounds 3 ?_
        rw [rounds_succ]
        go_wp2
        rw [rounds_succ]
        go_wp2
        rw [rounds_succ]
        go_wp2
        rw [rounds_succ]
        go_wp2
        refine wp_loop_rounds 3 ?_
        rw [rounds_succ]
        go_wp2
        exact bodyPost_ret (v := .tuple #[.agg #[.int .u8 0, .int .u8 0], .bool true]) (by simp [results, Try.results18, go_sem]) rfl ⟨by simp, two _ _ _⟩
    · go_enter Try.func18, Try.ntmps18
      go_wp2
      refine wp_loop_rounds 3 ?_
      rw [rounds_succ]
      go_wp2
      refine wp_loop_rounds 3 ?_
      rw [rounds_succ]
      go_wp2
      rw [rounds_succ]
      go_wp2
      exact bodyPost_ret (v := .tuple #[.agg #[.int .u8 1, .int .u8 1], .bool true]) (by simp [results, Try.results18, go_sem]) rfl ⟨by simp, two _ _ _⟩
  · go_enter Try.func18, Try.ntmps18
    go_wp2
    refine wp_loop_rounds 3 ?_
    rw [rounds_succ]
    go_wp2
    refine wp_loop_rounds 3 ?_
    rw [rounds_succ]
    go_wp2
    exact bodyPost_ret (v := .tuple #[.agg #[.int .u8 0, .int .u8 1], .bool true]) (by simp [results, Try.results18, go_sem]) rfl ⟨by simp, two _ _ _⟩
end Go.Proofs.Qxb6600356a.Rep
