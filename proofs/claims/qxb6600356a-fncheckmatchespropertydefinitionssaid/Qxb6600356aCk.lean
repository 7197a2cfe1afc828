import Derived.Test.Qxb6600356aTab
import Derived.Deep.QuietTactic
import Derived.BigQuiet
namespace Go.Proofs.Qxb6600356a.Ck
open Go.RowKit Go.Proofs.Qxb6600356a.Tb

/-- Is the bit of weight x set in the mask m? -/
def bt (m x : Int) : Bool := bits BinOp.and IntKind.u8 m x != 0
/-- Does the mask say that the node outputs b with grade g? -/
def hold (m b g : Int) : Bool := if b = 0 then (if g = 0 then bt m 1 else bt m 2) else (if g = 0 then bt m 4 else bt m 8)
def ob (m b : Int) : Bool := hold m b 0 || hold m b 1

/-- Some bool came back. -/
def SomeBool (e : Ending) : Prop := ∃ b, e = .returned (.bool b)

set_option maxHeartbeats 400000 in
theorem zzb20 (a a' : Option Addr) (n c n' c' : Nat) (w : World) : Calls Try.prog 20 #[.slice a n c, .slice a' n' c'] w fun e w' => SomeBool e ∧ w' = w := by
  by_cases h : (1048576 : Int) < n
  · go_enter Try.func20, Try.ntmps20
    go_wp2
    go_ret
    exact ⟨⟨_, rfl⟩, rfl⟩
  by_cases h' : (1048576 : Int) < n'
  · go_enter Try.func20, Try.ntmps20
    go_wp2
    go_ret
    exact ⟨⟨_, rfl⟩, rfl⟩
  · go_enter Try.func20, Try.ntmps20
    go_wp2
    all_goals (go_ret; exact ⟨⟨_, rfl⟩, rfl⟩)

set_option maxHeartbeats 400000 in
theorem hold_any (m b g : Int) (hb : b = 0 ∨ b = 1) (hg : g = 0 ∨ g = 1) (w : World) : Calls Try.prog 26 #[.int .u8 m, .int .i64 b, .int .i64 g] w fun e w' => e = .returned (.bool (hold m b g)) ∧ w' = w := by
  rcases hb with rfl | rfl <;> rcases hg with rfl | rfl
  · go_enter Try.func26, Try.ntmps26
    go_wp2
    go_ret
    exact ⟨rfl, rfl⟩
  · go_enter Try.func26, Try.ntmps26
    go_wp2
    go_ret
    exact ⟨rfl, rfl⟩
  · go_enter Try.func26, Try.ntmps26
    go_wp2
    go_ret
    exact ⟨rfl, rfl⟩
  · go_enter Try.func26, Try.ntmps26
    go_wp2
    go_ret
    exact ⟨rfl, rfl⟩
theorem hold_is (m b g : Int) (q : Bool) (h : hold m b g = q) (hb : b = 0 ∨ b = 1) (hg : g = 0 ∨ g = 1) (w : World) : Calls Try.prog 26 #[.int .u8 m, .int .i64 b, .int .i64 g] w fun e w' => e = .returned (.bool q) ∧ w' = w := by
  rw [← h]
  exact hold_any m b g hb hg w

set_option maxHeartbeats 400000 in
theorem ob_any (m b : Int) (hb : b = 0 ∨ b = 1) (w : World) : Calls Try.prog 25 #[.int .u8 m, .int .i64 b] w fun e w' => e = .returned (.bool (ob m b)) ∧ w' = w := by
  unfold ob
  have HB : Hid (b = 0 ∨ b = 1) := hb
  clear hb
  cases h0 : hold m b 0
  · go_enter Try.func25, Try.ntmps25
    go_wp2_with fail
    refine (hold_is m b 0 false h0 HB.out (.inl rfl) _).mono ?_
    rintro e w1 ⟨rfl, rfl⟩
    go_wp2_with fail
    refine (hold_any m b 1 HB.out (.inr rfl) _).mono ?_
    rintro e w1 ⟨rfl, rfl⟩
    go_wp2_with fail
    go_ret
    exact ⟨by simp, rfl⟩
  · go_enter Try.func25, Try.ntmps25
    go_wp2_with fail
    refine (hold_is m b 0 true h0 HB.out (.inl rfl) _).mono ?_
    rintro e w1 ⟨rfl, rfl⟩
    go_wp2_with fail
    go_ret
    exact ⟨by simp, rfl⟩
theorem ob_is (m b : Int) (q : Bool) (h : ob m b = q) (hb : b = 0 ∨ b = 1) (w : World) : Calls Try.prog 25 #[.int .u8 m, .int .i64 b] w fun e w' => e = .returned (.bool q) ∧ w' = w := by
  rw [← h]
  exact ob_any m b hb w

/-- The four outputs of a node: bit 0 with grade 0, 1; bit 1 with grade 0, 1. -/
structure O4 where
  a : Bool
  b : Bool
  c : Bool
  d : Bool
abbrev O4.val (o : O4) : Value := .agg #[.bool o.a, .bool o.b, .bool o.c, .bool o.d]
def O4.cells (o : O4) : List Value := [.bool o.a, .bool o.b, .bool o.c, .bool o.d]
/-- Is the bit b output with grade 1? with any grade? -/
def O4.one (o : O4) (b : Int) : Bool := if b = 0 then o.b else o.d
def O4.any (o : O4) (b : Int) : Bool := if b = 0 then o.a || o.b else o.c || o.d

set_option maxHeartbeats 400000 in
theorem outputs_any (o : O4) (b : Int) (hb : b = 0 ∨ b = 1) (w : World) : Calls Try.prog 32 #[o.val, .int .i64 b] w fun e w' => e = .returned (.bool (o.any b)) ∧ Below w.heap.size w w' := by
  unfold O4.any
  rcases hb with rfl | rfl
  · rw [if_pos rfl]
    cases h : o.a
    · go_enter Try.func32, Try.ntmps32
      go_wp2
      go_ret
      exact ⟨by simp, (Below.refl _ _).alloc (Nat.le_refl _) _⟩
    · go_enter Try.func32, Try.ntmps32
      go_wp2
      go_ret
      exact ⟨by simp, (Below.refl _ _).alloc (Nat.le_refl _) _⟩
  · rw [if_neg (by decide)]
    cases h : o.c
    · go_enter Try.func32, Try.ntmps32
      go_wp2
      go_ret
      exact ⟨by simp, (Below.refl _ _).alloc (Nat.le_refl _) _⟩
    · go_enter Try.func32, Try.ntmps32
      go_wp2
      go_ret
      exact ⟨by simp, (Below.refl _ _).alloc (Nat.le_refl _) _⟩
theorem outputs_is (o : O4) (b : Int) (q : Bool) (h : o.any b = q) (hb : b = 0 ∨ b = 1) (w : World) : Calls Try.prog 32 #[o.val, .int .i64 b] w fun e w' => e = .returned (.bool q) ∧ Below w.heap.size w w' := by
  rw [← h]
  exact outputs_any o b hb w

/-- The map of the four properties. -/
def km (v0 v1 v2 v3 : Bool) : Obj := .map #[⟨.int .i64 0, .bool v0, 0⟩, ⟨.int .i64 1, .bool v1, 1⟩, ⟨.int .i64 2, .bool v2, 2⟩, ⟨.int .i64 3, .bool v3, 3⟩] 4
def pick4 (v0 v1 v2 v3 : Bool) (k : Int) : Bool := if k = 0 then v0 else if k = 1 then v1 else if k = 2 then v2 else v3

theorem chk (k : Int) (w : World) : (Instr.checkKey false 10000 53 (.int .i64 k)).run Try.prog w = .ok () w := MapKept.run_checkKey (k := .int .i64 k) Try.underlying53 (by simp [MapKept.IsKey]) false 9999
theorem stays (k : Int) (w : World) : (Instr.keyThatStays (.int .i64 k) (.int .i64 k)).run Try.prog w = .ok (.int .i64 k) w := by
  simp [Instr.keyThatStays, Instr.sameBits]

theorem run_look (g : Nat) (v0 v1 v2 v3 : Bool) (k : Int) (hk : k = 0 ∨ k = 1 ∨ k = 2 ∨ k = 3) (w : World) (hg : w.heap[g]? = some (km v0 v1 v2 v3)) :
    (Instr.lookup 46 (.map (some g)) (.int .i64 k) true).run Try.prog w = .ok (.tuple #[.bool (pick4 v0 v1 v2 v3 k), .bool true]) w := by
  unfold km at hg
  rcases hk with rfl | rfl | rfl | rfl
  · have hf := MapKept.run_findKey (P := Try.prog) (w := w) (kt := 53) (k := .int .i64 0) (l := [⟨.int .i64 0, .bool v0, 0⟩, ⟨.int .i64 1, .bool v1, 1⟩, ⟨.int .i64 2, .bool v2, 2⟩, ⟨.int .i64 3, .bool v3, 3⟩]) (a := some (0, .bool v0)) Try.underlying53 rfl
    simp [Instr.lookup, run_underlying Try.underlying46, MapKept.run_getObj_map hg, chk, hf, Result.andThen, pick4]
  · have hf := MapKept.run_findKey (P := Try.prog) (w := w) (kt := 53) (k := .int .i64 1) (l := [⟨.int .i64 0, .bool v0, 0⟩, ⟨.int .i64 1, .bool v1, 1⟩, ⟨.int .i64 2, .bool v2, 2⟩, ⟨.int .i64 3, .bool v3, 3⟩]) (a := some (1, .bool v1)) Try.underlying53 rfl
    simp [Instr.lookup, run_underlying Try.underlying46, MapKept.run_getObj_map hg, chk, hf, Result.andThen, pick4]
  · have hf := MapKept.run_findKey (P := Try.prog) (w := w) (kt := 53) (k := .int .i64 2) (l := [⟨.int .i64 0, .bool v0, 0⟩, ⟨.int .i64 1, .bool v1, 1⟩, ⟨.int .i64 2, .bool v2, 2⟩, ⟨.int .i64 3, .bool v3, 3⟩]) (a := some (2, .bool v2)) Try.underlying53 rfl
    simp [Instr.lookup, run_underlying Try.underlying46, MapKept.run_getObj_map hg, chk, hf, Result.andThen, pick4]
  · have hf := MapKept.run_findKey (P := Try.prog) (w := w) (kt := 53) (k := .int .i64 3) (l := [⟨.int .i64 0, .bool v0, 0⟩, ⟨.int .i64 1, .bool v1, 1⟩, ⟨.int .i64 2, .bool v2, 2⟩, ⟨.int .i64 3, .bool v3, 3⟩]) (a := some (3, .bool v3)) Try.underlying53 rfl
    simp [Instr.lookup, run_underlying Try.underlying46, MapKept.run_getObj_map hg, chk, hf, Result.andThen, pick4]
end Go.Proofs.Qxb6600356a.Ck
