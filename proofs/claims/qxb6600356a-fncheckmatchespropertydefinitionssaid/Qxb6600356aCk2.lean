import Derived.Test.Qxb6600356aCk
namespace Go.Proofs.Qxb6600356a.Ck
open Go.RowKit Go.Proofs.Qxb6600356a.Tb

theorem len_map (g : Nat) (v0 v1 v2 v3 : Bool) (w : World) (hg : w.heap[g]? = some (km v0 v1 v2 v3)) (x : Bool) (k : Int) (hk : k = 0 ∨ k = 1 ∨ k = 2 ∨ k = 3) :
    Calls Try.prog 27 #[.map (some g), .int .i64 k, .bool x] w fun e w' => e = .returned (.bool (pick4 v0 v1 v2 v3 k == x)) ∧ w' = w := by
  have hl := run_look g v0 v1 v2 v3 k hk w hg
  go_enter Try.func27, Try.ntmps27
  go_wp2
  go_ret
  exact ⟨rfl, rfl⟩

/-- The world with another map in its block. -/
def setMap (w : World) (g : Nat) (o : Obj) : World := { w with heap := w.heap.setIfInBounds g o }
theorem setMap_same {w : World} {g : Nat} {o o' : Obj} (h : w.heap[g]? = some o) : (setMap w g o').heap[g]? = some o' := (MapKept.heap_set h).1
theorem setMap_other {w : World} {g : Nat} {o o' : Obj} (h : w.heap[g]? = some o) (j : Nat) (hj : j ≠ g) : (setMap w g o').heap[j]? = w.heap[j]? := (MapKept.heap_set h).2 j hj
theorem setMap_size {w : World} {g : Nat} {o' : Obj} : (setMap w g o').heap.size = w.heap.size := by
  unfold setMap
  simp
theorem setMap_below {B : Nat} {a w : World} {g : Nat} {o o' : Obj} (hb : Below B a w) (h : w.heap[g]? = some o) (hB : B ≤ g) : Below B a (setMap w g o') :=
  ⟨hb.os, hb.tape, hb.output, by rw [setMap_size]; exact hb.size, fun k hk => by rw [setMap_other h k (by omega)]; exact hb.block k hk⟩

/-- The maps on the way to four entries. -/
def k0 : Obj := .map #[] 0
def k1 (v0 : Bool) : Obj := .map #[⟨.int .i64 0, .bool v0, 0⟩] 1
def k2 (v0 v1 : Bool) : Obj := .map #[⟨.int .i64 0, .bool v0, 0⟩, ⟨.int .i64 1, .bool v1, 1⟩] 2
def k3 (v0 v1 v2 : Bool) : Obj := .map #[⟨.int .i64 0, .bool v0, 0⟩, ⟨.int .i64 1, .bool v1, 1⟩, ⟨.int .i64 2, .bool v2, 2⟩] 3

theorem run_new (g : Nat) (l : List MapEntry) (c : Nat) (k : Int) (x : Bool) (w : World) (hg : w.heap[g]? = some (.map l.toArray c)) (hf : Instr.findNow (.int .i64) (.int .i64 k) l 0 = some none) :
    (Instr.mapUpdate 46 (.map (some g)) (.int .i64 k) (.bool x)).run Try.prog w = .ok () (setMap w g (.map (l ++ [(⟨.int .i64 k, .bool x, c⟩ : MapEntry)]).toArray (c + 1))) := by
  have hk := MapKept.run_findKey (P := Try.prog) (w := w) (kt := 53) (k := .int .i64 k) (l := l) (a := none) Try.underlying53 hf
  have hs := MapKept.run_setObj_map (P := Try.prog) (.map (l.toArray.push (⟨.int .i64 k, .bool x, c⟩ : MapEntry)) (c + 1)) hg
  simp [Instr.mapUpdate, run_underlying Try.underlying46, MapKept.run_getObj_map hg, chk, hk, Result.andThen, setMap]
  simpa using hs

theorem new1 (g : Nat) (x : Bool) (w : World) (hg : w.heap[g]? = some k0) : (Instr.mapUpdate 46 (.map (some g)) (.int .i64 0) (.bool x)).run Try.prog w = .ok () (setMap w g (k1 x)) :=
  run_new g [] 0 0 x w hg rfl
theorem new2 (g : Nat) (v0 x : Bool) (w : World) (hg : w.heap[g]? = some (k1 v0)) : (Instr.mapUpdate 46 (.map (some g)) (.int .i64 1) (.bool x)).run Try.prog w = .ok () (setMap w g (k2 v0 x)) :=
  run_new g [⟨.int .i64 0, .bool v0, 0⟩] 1 1 x w hg rfl
theorem new3 (g : Nat) (v0 v1 x : Bool) (w : World) (hg : w.heap[g]? = some (k2 v0 v1)) : (Instr.mapUpdate 46 (.map (some g)) (.int .i64 2) (.bool x)).run Try.prog w = .ok () (setMap w g (k3 v0 v1 x)) :=
  run_new g [⟨.int .i64 0, .bool v0, 0⟩, ⟨.int .i64 1, .bool v1, 1⟩] 2 2 x w hg rfl
theorem new4 (g : Nat) (v0 v1 v2 x : Bool) (w : World) (hg : w.heap[g]? = some (k3 v0 v1 v2)) : (Instr.mapUpdate 46 (.map (some g)) (.int .i64 3) (.bool x)).run Try.prog w = .ok () (setMap w g (km v0 v1 v2 x)) :=
  run_new g [⟨.int .i64 0, .bool v0, 0⟩, ⟨.int .i64 1, .bool v1, 1⟩, ⟨.int .i64 2, .bool v2, 2⟩] 3 3 x w hg rfl

theorem run_old (g : Nat) (l : List MapEntry) (c : Nat) (k : Int) (x : Bool) (w : World) (i : Nat) (v : Value) (e : MapEntry) (hg : w.heap[g]? = some (.map l.toArray c)) (hf : Instr.findNow (.int .i64) (.int .i64 k) l 0 = some (some (i, v))) (he : l[i]? = some e) (hek : e.key = .int .i64 k) :
    (Instr.mapUpdate 46 (.map (some g)) (.int .i64 k) (.bool x)).run Try.prog w = .ok () (setMap w g (.map (l.toArray.modify i fun e => { e with key := .int .i64 k, val := .bool x }) c)) := by
  have hk := MapKept.run_findKey (P := Try.prog) (w := w) (kt := 53) (k := .int .i64 k) (l := l) (a := some (i, v)) Try.underlying53 hf
  have hs := MapKept.run_setObj_map (P := Try.prog) (.map (l.toArray.modify i fun e => { e with key := .int .i64 k, val := .bool x }) c) hg
  simp [Instr.mapUpdate, run_underlying Try.underlying46, MapKept.run_getObj_map hg, chk, hk, Result.andThen, setMap, he, hek, stays]
  simpa using hs

theorem old1 (g : Nat) (v0 v1 v2 v3 x : Bool) (w : World) (hg : w.heap[g]? = some (km v0 v1 v2 v3)) : (Instr.mapUpdate 46 (.map (some g)) (.int .i64 1) (.bool x)).run Try.prog w = .ok () (setMap w g (km v0 x v2 v3)) :=
  run_old g [⟨.int .i64 0, .bool v0, 0⟩, ⟨.int .i64 1, .bool v1, 1⟩, ⟨.int .i64 2, .bool v2, 2⟩, ⟨.int .i64 3, .bool v3, 3⟩] 4 1 x w 1 (.bool v1) _ hg rfl rfl rfl
theorem old0 (g : Nat) (v0 v1 v2 v3 x : Bool) (w : World) (hg : w.heap[g]? = some (km v0 v1 v2 v3)) : (Instr.mapUpdate 46 (.map (some g)) (.int .i64 0) (.bool x)).run Try.prog w = .ok () (setMap w g (km x v1 v2 v3)) :=
  run_old g [⟨.int .i64 0, .bool v0, 0⟩, ⟨.int .i64 1, .bool v1, 1⟩, ⟨.int .i64 2, .bool v2, 2⟩, ⟨.int .i64 3, .bool v3, 3⟩] 4 0 x w 0 (.bool v0) _ hg rfl rfl rfl
theorem old2 (g : Nat) (v0 v1 v2 v3 x : Bool) (w : World) (hg : w.heap[g]? = some (km v0 v1 v2 v3)) : (Instr.mapUpdate 46 (.map (some g)) (.int .i64 2) (.bool x)).run Try.prog w = .ok () (setMap w g (km v0 v1 x v3)) :=
  run_old g [⟨.int .i64 0, .bool v0, 0⟩, ⟨.int .i64 1, .bool v1, 1⟩, ⟨.int .i64 2, .bool v2, 2⟩, ⟨.int .i64 3, .bool v3, 3⟩] 4 2 x w 2 (.bool v2) _ hg rfl rfl rfl

/-- A slice of n bytes: empty, or cells that hold f. -/
def Us (w : World) (a : Option Addr) (f : Nat → Int) (n : Nat) : Prop :=
  n = 0 ∨ ∃ b off, a = some ⟨b, off, none⟩ ∧ b < w.heap.size ∧ ∀ i, i < n → w.cell? ⟨b, off + i, none⟩ = some (.int .u8 (f i))
theorem Us.below {w w' : World} {a : Option Addr} {f : Nat → Int} {n : Nat} (h : Us w a f n) (hb : Below w.heap.size w w') : Us w' a f n := by
  rcases h with h | ⟨b, off, rfl, hlt, hc⟩
  · exact .inl h
  · exact .inr ⟨b, off, rfl, Nat.lt_of_lt_of_le hlt hb.size, fun i hi => by rw [hb.cell hlt]; exact hc i hi⟩

/-- A bool came back; if true, then no number is more than 1. -/
def BitsSaid (f : Nat → Int) (n : Nat) (e : Ending) : Prop := ∃ q, e = .returned (.bool q) ∧ (q = true → ∀ i, i < n → f i ≤ 1)

theorem bits_any (a : Option Addr) (n c : Nat) (f : Nat → Int) (w : World) (hn : n ≤ 1048576) (h : Us w a f n) :
    Calls Try.prog 21 #[.slice a n c] w fun e w' => BitsSaid f n e ∧ w' = w := by
  rcases h with rfl | ⟨b, off, rfl, hlt, hc⟩
  · go_enter Try.func21, Try.ntmps21
    go_wp2
    refine wp_loop_rounds 1 ?_
    rw [rounds_succ]
    go_wp2
    go_ret
    exact ⟨⟨_, rfl, fun _ i hi => absurd hi (Nat.not_lt_zero i)⟩, rfl⟩
  · go_enter Try.func21, Try.ntmps21
    go_wp2
    go_loop [3] (fun i => ∃ k : Nat, k ≤ n ∧ i = .int .i64 k ∧ ∀ i, i < k → f i ≤ 1) (fun i => n - (intOf i).toNat)
    case atStart => exact ⟨0, Nat.zero_le _, rfl, fun i hi => absurd hi (Nat.not_lt_zero i)⟩
    case round =>
      obtain ⟨k, hk, rfl, hall⟩ := hrel
      by_cases hkn : k < n
      · have hck := hc k hkn
        by_cases h1 : (1 : Int) < f k
        · clear hc
          go_wp2
          go_ret
          exact ⟨⟨_, rfl, fun h => by cases h⟩, rfl⟩
        · clear hc
          go_wp2
          go_round
          case rel =>
            refine ⟨k + 1, by omega, by go_num, fun i hi => ?_⟩
            by_cases e : i = k
            · subst e
              omega
            · exact hall i (by omega)
          case measure => simp [intOf]; omega
      · obtain rfl : k = n := by omega
        clear hc
        go_wp2
        go_ret
        exact ⟨⟨_, rfl, fun _ => hall⟩, rfl⟩
end Go.Proofs.Qxb6600356a.Ck
