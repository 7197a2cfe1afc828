import Derived.Test.Qxb6600356aRows
import Derived.WalkKit
import Derived.WalkSpells
import Derived.WalkLawsBesides
import Derived.Deep.MidRow
namespace Go.Proofs.Qxb6600356a.Tb
open Go.RowKit

/-- Block g is a row of N cells of element type t, none frozen; cell j holds f j. -/
def Tab (w : World) (g : Nat) (t : TypeId) (N : Nat) (f : Nat → Value) : Prop :=
  ∃ cs : Array Value, w.heap[g]? = some (.cells cs t (0, 0)) ∧ cs.size = N ∧ ∀ j, j < N → cs[j]? = some (f j)

variable {w w' : World} {g N : Nat} {t : TypeId} {f f' : Nat → Value}

theorem Tab.lt (h : Tab w g t N f) : g < w.heap.size := by
  obtain ⟨cs, h1, _, _⟩ := h
  exact lt_of_block h1
theorem Tab.cell (h : Tab w g t N f) (j : Nat) (hj : j < N) : w.cell? ⟨g, j, none⟩ = some (f j) := by
  obtain ⟨cs, h1, _, h3⟩ := h
  rw [cell_of_row _ _ _ _ _ _ h1, h3 j hj]
theorem Tab.free (h : Tab w g t N f) (j : Nat) : w.frozen? ⟨g, j, none⟩ = false := by
  obtain ⟨cs, h1, _, _⟩ := h
  exact frozen_of_row w g j cs t h1
theorem Tab.congr (h : Tab w g t N f) (e : ∀ j, j < N → f j = f' j) : Tab w g t N f' := by
  obtain ⟨cs, h1, h2, h3⟩ := h
  exact ⟨cs, h1, h2, fun j hj => by rw [h3 j hj, e j hj]⟩
theorem Tab.set (h : Tab w g t N f) (k : Nat) (v : Value) : Tab (w.setCell ⟨g, k, none⟩ v) g t N (fun j => if j = k then v else f j) := by
  obtain ⟨cs, h1, h2, h3⟩ := h
  refine ⟨_, heap_setCell_same w g k cs t v h1, by simpa using h2, fun j hj => ?_⟩
  rw [Array.getElem?_setIfInBounds]
  by_cases e : k = j
  · subst e
    rw [if_pos rfl, if_pos (by omega)]
    show some v = some (if k = k then v else f k)
    rw [if_pos rfl]
  · rw [if_neg e, h3 j hj]
    show some (f j) = some (if j = k then v else f j)
    rw [if_neg (fun x => e x.symm)]
theorem Tab.setCells : ∀ (vs : List Value) (o : Nat) (w : World) (f : Nat → Value), Tab w g t N f → Tab (w.setCells g o vs) g t N (fun j => if o ≤ j ∧ j < o + vs.length then vs.getD (j - o) undef else f j)
  | [], o, w, f, h => h.congr (fun j hj => by rw [if_neg (by simp)])
  | v :: vs, o, w, f, h => by
    refine (Tab.setCells vs (o + 1) _ _ (h.set o v)).congr (fun j hj => ?_)
    by_cases h1 : o + 1 ≤ j ∧ j < o + 1 + vs.length
    · rw [if_pos h1, if_pos (by simp; omega), show j - o = (j - (o + 1)) + 1 by omega, List.getD_cons_succ]
    · rw [if_neg h1]
      by_cases h2 : j = o
      · subst h2
        rw [if_pos rfl, if_pos (by simp)]
        simp
      · rw [if_neg h2, if_neg (by simp; omega)]
theorem Tab.kept (h : Tab w g t N f) (e : w'.heap[g]? = w.heap[g]?) : Tab w' g t N f := by
  obtain ⟨cs, h1, h2, h3⟩ := h
  exact ⟨cs, e.trans h1, h2, h3⟩
theorem Tab.below (h : Tab w g t N f) (hb : Below w.heap.size w w') : Tab w' g t N f := h.kept (hb.block g h.lt)
theorem Tab.alloc (h : Tab w g t N f) (o : Obj) : Tab (w.alloc o) g t N f := h.kept (Below.heap_alloc w o g h.lt)
theorem Tab.setOther (h : Tab w g t N f) (a : Addr) (ha : a.block ≠ g) (v : Value) : Tab (w.setCell a v) g t N f := h.kept (heap_setCell_other w a g v (fun e => ha e.symm))
theorem Tab.fresh (w : World) (cs : Array Value) (t : TypeId) (N : Nat) (hN : cs.size = N) (f : Nat → Value) (e : ∀ j, j < N → cs[j]? = some (f j)) : Tab (w.alloc (.cells cs t)) w.heap.size t N f :=
  ⟨cs, heap_alloc_new w _, hN, e⟩
theorem Tab.there (h : Tab w g t N f) (o n : Nat) (hn : o + n ≤ N) : w.there g o n := fun j hj => ⟨by rw [h.cell (o + j) (by omega)]; rfl, h.free _⟩
theorem Tab.range (h : Tab w g t N f) (o : Nat) (cs : List Value) (hn : o + cs.length ≤ N) (e : ∀ j v, cs[j]? = some v → f (o + j) = v) : w.rangeAt g o cs := fun j v hv => by
  have hj : j < cs.length := (List.getElem?_eq_some_iff.1 hv).1
  rw [h.cell (o + j) (by omega), e j v hv]

/-- A row that 'make' lays. -/
theorem made_get (z : Array Value) (n j : Nat) (hz : 0 < z.size) (hj : j < n) : (madeCells z n)[j]? = some (z.getD (j % z.size) undef) := by
  have hlt := Nat.mod_lt j hz
  simp [madeCells, hj, Array.getD, hlt]

theorem below_setCells {B : Nat} {a : World} : ∀ (vs : List Value) (o g : Nat) (w : World), Below B a w → B ≤ g → Below B a (w.setCells g o vs)
  | [], _, _, _, h, _ => h
  | v :: vs, o, g, _, h, hg => below_setCells vs (o + 1) g _ (h.setCell hg v) hg
theorem size_setCells : ∀ (vs : List Value) (o g : Nat) (w : World), (w.setCells g o vs).heap.size = w.heap.size
  | [], _, _, _ => rfl
  | v :: vs, o, g, w => by
    show ((w.setCell ⟨g, o, none⟩ v).setCells g (o + 1) vs).heap.size = _
    rw [size_setCells vs (o + 1) g]
    simp
end Go.Proofs.Qxb6600356a.Tb
