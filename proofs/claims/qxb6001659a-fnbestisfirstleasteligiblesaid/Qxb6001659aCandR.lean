import Derived.Test.Qxb6001659aCmp
import Derived.Test.Qxb6001659aHead
import Derived.ProofKit
import Derived.OpenShut
import Derived.ChangeOld
namespace Go.Proofs.Qxb6001659a.Cand
open Go.ChangeShapes Go.WideShapes Go.ChangeAt Go.RowKit
set_option linter.unusedVariables false

theorem own : ownKnob Try.prog.godebug = none := by kernel_rfl
theorem laidOut : laidOutB Try.prog = true := by kernel_rfl
theorem cells50 : Try.prog.cellsOf 50 = 7 := by kernel_rfl
theorem cells9 : Try.prog.cellsOf 9 = 1 := by kernel_rfl
theorem cells3 : Try.prog.cellsOf 3 = 1 := by kernel_rfl
theorem cells2 : Try.prog.cellsOf 2 = 1 := by kernel_rfl
theorem cells4 : Try.prog.cellsOf 4 = 1 := by kernel_rfl

theorem list7 (l : List Value) (h : l.length = 7) : ∃ a b c d e f g, l = [a, b, c, d, e, f, g] := by
  match l, h with
  | [a, b, c, d, e, f, g], _ => exact ⟨a, b, c, d, e, f, g, rfl⟩

/-- What the row's reading of a candidate says: its seven cells. -/
theorem cand_read {H : Type} {enc : TypeId × Value → H} {W : World} {base : Nat} {spare : Nat → Bool} {held : Bool} {fuel : Nat} {cs : List Value} {x : DataW H × List MemPlace} (h : DataW.trod enc Try.prog W base spare held fuel 50 cs = some x) :
    ∃ c : Cd, cs = c.arr.toList := by
  obtain ⟨xs, n, _, rfl, hl, hlen, hf⟩ := DataW.trod_struct Try.underlying50 h
  rw [cells50] at hl
  obtain ⟨v0, v1, v2, v3, v4, v5, v6, rfl⟩ := list7 cs hl
  have hl7 : xs.length = 7 := hlen
  have g : ∀ i (hi : i < 7), ∃ y, xs[i]? = some y := fun i hi => ⟨xs[i]'(by omega), List.getElem?_eq_getElem (by omega)⟩
  have f0 := hf 0 _ rfl
  have f1 := hf 1 _ rfl
  have f2 := hf 2 _ rfl
  have f3 := hf 3 _ rfl
  have f4 := hf 4 _ rfl
  have f5 := hf 5 _ rfl
  have f6 := hf 6 _ rfl
  obtain ⟨y0, e0⟩ := g 0 (by omega)
  obtain ⟨y1, e1⟩ := g 1 (by omega)
  obtain ⟨y2, e2⟩ := g 2 (by omega)
  obtain ⟨y3, e3⟩ := g 3 (by omega)
  obtain ⟨y4, e4⟩ := g 4 (by omega)
  obtain ⟨y5, e5⟩ := g 5 (by omega)
  obtain ⟨y6, e6⟩ := g 6 (by omega)
  rw [e0] at f0
  rw [e1] at f1
  rw [e2] at f2
  rw [e3] at f3
  rw [e4] at f4
  rw [e5] at f5
  rw [e6] at f6
  obtain ⟨s, k0, _, _⟩ := DataW.trod_string Try.underlying9 f0
  obtain ⟨p, k1, _, _⟩ := DataW.trod_int Try.underlying3 f1
  obtain ⟨o, k2, _, _⟩ := DataW.trod_int Try.underlying2 f2
  obtain ⟨b3, k3, _⟩ := DataW.trod_bool Try.underlying4 f3
  obtain ⟨b4, k4, _⟩ := DataW.trod_bool Try.underlying4 f4
  obtain ⟨b5, k5, _⟩ := DataW.trod_bool Try.underlying4 f5
  obtain ⟨b6, k6, _⟩ := DataW.trod_bool Try.underlying4 f6
  simp [cells9] at k0
  simp [cells3] at k1
  simp [cells2] at k2
  simp [cells4] at k3 k4 k5 k6
  subst k0 k1 k2 k3 k4 k5 k6
  exact ⟨⟨s, p, o, b3, b4, b5, b6⟩, rfl⟩

/-- A candidate by value. -/
theorem cand_arg {H : Type} {enc : TypeId × Value → H} {W : World} {base : Nat} {v : Value} {d : DataW H} {p : List MemPlace} (hv : Value.okWide Try.prog W .any base 50 v) (h : DataW.Trod enc Try.prog W 0 (fun _ => true) true 50 v d p) : ∃ c : Cd, v = c.val := by
  obtain ⟨cs, rfl, _⟩ := okWide_struct Try.underlying50 hv
  obtain ⟨fuel, hf⟩ := h
  obtain ⟨c, hc⟩ := cand_read hf
  refine ⟨c, ?_⟩
  have : cs = c.arr := Array.ext' (by simpa [Value.cells] using hc)
  rw [this]
end Go.Proofs.Qxb6001659a.Cand
