import Derived.Test.Qxb6001659aSelQ
import Derived.Test.Qxb6001659aCandR
namespace Go.Proofs.Qxb6001659a.Cand
open Go.ChangeShapes Go.WideShapes Go.ChangeAt Go.RowKit

/-- What the row's reading of a slice of candidates says. -/
theorem cs_read {H : Type} {enc : TypeId × Value → H} {W : World} {a0 : Option Addr} {len cap : Nat} {d : DataW H} {p : List MemPlace} (h : DataW.Trod enc Try.prog W 0 (fun _ => true) true 33 (.slice a0 len cap) d p) :
    ∃ cs : List Cd, cs.length = len ∧ Cs W a0 cs ∧ (a0 = none → cs.length = 0 ∧ cap = 0) := by
  obtain ⟨fuel, hf⟩ := h
  rcases DataW.trod_slice Try.underlying33 hf with ⟨hcs, _⟩ | ⟨a, l, c, elems, rest, n, _, hcs, _, _, _, _, hlen, hel, _, _⟩
  · simp [Value.cells] at hcs
    obtain ⟨rfl, rfl, rfl⟩ := hcs
    exact ⟨[], rfl, .inl rfl, fun _ => ⟨rfl, rfl⟩⟩
  · simp [Value.cells] at hcs
    obtain ⟨rfl, rfl, rfl⟩ := hcs
    have each : ∀ i, i < len → ∃ c : Cd, W.cells? 0 (a.add (i * 7)) 7 = some c.cells := by
      intro i hi
      have h1 := hel i hi
      rw [cells50, List.getElem?_eq_getElem (by omega), Option.bind_eq_some_iff] at h1
      obtain ⟨cs, h2, h3⟩ := h1
      obtain ⟨c, hc⟩ := cand_read h3
      refine ⟨c, ?_⟩
      rw [h2, hc]
      rfl
    by_cases h0 : len = 0
    · subst h0
      exact ⟨[], rfl, .inl rfl, fun h => by cases h⟩
    have hch : ∃ f : Nat → Cd, ∀ i, i < len → W.cells? 0 (a.add (i * 7)) 7 = some (f i).cells :=
      ⟨fun i => if hi : i < len then Classical.choose (each i hi) else d0, fun i hi => by
        show _ = some (if hi : i < len then Classical.choose (each i hi) else d0 : Cd).cells
        rw [dif_pos hi]
        exact Classical.choose_spec (each i hi)⟩
    obtain ⟨f, hF⟩ := hch
    have hcell : ∀ i, i < len → ∀ j, j < 7 → W.cell? ((a.add (i * 7)).add j) = (f i).cells[j]? := fun i hi j hj => (World.cells?_some (hF i hi)).2.2 j hj
    obtain ⟨b, off, spot⟩ := a
    have h00 := hcell 0 (by omega) 0 (by omega)
    have hspot : spot = none := by
      have : W.cell? ⟨b, off, spot⟩ = some (Value.string (f 0).r) := by simpa [Addr.add, Cd.cells] using h00
      simpa using World.cell?_spot this
    subst hspot
    have hbb : b < W.heap.size := by
      have : W.cell? ⟨b, off, none⟩ = some (Value.string (f 0).r) := by simpa [Addr.add, Cd.cells] using h00
      exact block_lt_of_cell this
    refine ⟨(List.range len).map f, by simp, .inr ⟨b, off, rfl, hbb, fun i hi => ?_⟩, fun h => by cases h⟩
    have hi' : i < len := by simpa using hi
    have ea : at_ ((List.range len).map f) i = f i := by simp [at_, List.getD, hi']
    rw [ea]
    intro j v hj
    have hj7 : j < 7 := by have := (List.getElem?_eq_some_iff.1 hj).1; simpa [Cd.cells] using this
    have := hcell i hi' j hj7
    rw [add_plain, add_plain] at this
    rw [this, hj]
end Go.Proofs.Qxb6001659a.Cand
