import Derived.Test.Qxb6600356aCk7
namespace Go.Proofs.Qxb6600356a.Ck
open Go.RowKit

theorem inb0 (f : Nat → Int) : ∀ k, inb f k 0 = decide (0 < cz f k)
  | 0 => rfl
  | k + 1 => by
    have ih := inb0 f k
    unfold inb at *
    simp only [anyTo, cz, ih]
    by_cases h : f k = 0
    · simp [h]
    · simp [h]
theorem inb1 (f : Nat → Int) : ∀ k, (∀ i, i < k → f i = 0 ∨ f i = 1) → inb f k 1 = decide (0 < co f k)
  | 0, _ => rfl
  | k + 1, hf => by
    have ih := inb1 f k (fun i hi => hf i (by omega))
    unfold inb at *
    simp only [anyTo, co, ih]
    rcases hf k (by omega) with h | h
    · simp [h]
    · simp [h]

theorem two_iff (p : Nat → Bool) : allTo p 2 = true ↔ p 0 = true ∧ p 1 = true := by
  simp [allTo]
theorem one0 (x : Int) : (om x).one ((0 : Nat) : Int) = hold x ((0 : Nat) : Int) 1 := rfl
theorem one1 (x : Int) : (om x).one ((1 : Nat) : Int) = hold x ((1 : Nat) : Int) 1 := rfl
theorem any0 (x : Int) : (om x).any ((0 : Nat) : Int) = ob x ((0 : Nat) : Int) := rfl
theorem any1 (x : Int) : (om x).any ((1 : Nat) : Int) = ob x ((1 : Nat) : Int) := rfl

theorem plainC (m : Nat → Int) (n : Nat) : gcT (fun i => om (m i)) n 2 = allTo (pC m n) n := by
  rw [Bool.eq_iff_iff]
  unfold gcT pC qC rC pgc sm
  rw [two_iff]
  simp only [allTo_iff _ n, two_iff, any0, any1, Bool.or_eq_true, Bool.not_eq_true', Bool.and_eq_false_imp]
  constructor
  · rintro ⟨h0, h1⟩ i hi j hj
    constructor
    · rcases h0 j hj with h | h
      · intro hh
        have : anyTo (fun i => (om (m i)).at (2 * 0 + 1)) n = true := (anyTo_iff _ _).2 ⟨i, hi, hh⟩
        rw [this] at h
        cases h
      · intro _
        rw [h]
        rfl
    · rcases h1 j hj with h | h
      · intro hh
        have : anyTo (fun i => (om (m i)).at (2 * 1 + 1)) n = true := (anyTo_iff _ _).2 ⟨i, hi, hh⟩
        rw [this] at h
        cases h
      · intro _
        rw [h]
        rfl
  · intro h
    constructor
    · intro j hj
      cases e : anyTo (fun i => (om (m i)).at (2 * 0 + 1)) n
      · exact .inl rfl
      · obtain ⟨i, hi, hh⟩ := (anyTo_iff _ _).1 e
        have := (h i hi j hj).1 hh
        right
        simpa using this
    · intro j hj
      cases e : anyTo (fun i => (om (m i)).at (2 * 1 + 1)) n
      · exact .inl rfl
      · obtain ⟨i, hi, hh⟩ := (anyTo_iff _ _).1 e
        have := (h i hi j hj).2 hh
        right
        simpa using this

theorem plainU (m : Nat → Int) (n : Nat) : unT (fun i => om (m i)) n = allTo (pU m n) n := by
  rw [Bool.eq_iff_iff]
  unfold unT pU qU sm
  simp only [allTo_iff, Bool.or_eq_true, Bool.not_eq_true', Bool.and_eq_false_imp]
  constructor
  · rintro (h | h) i hi j hj hh
    · have : anyTo (fun i => (om (m i)).at 1) n = true := (anyTo_iff _ _).2 ⟨i, hi, hh⟩
      rw [this] at h
      cases h
    · cases e : hold (m j) 1 1
      · rfl
      · have : anyTo (fun i => (om (m i)).at 3) n = true := (anyTo_iff _ _).2 ⟨j, hj, e⟩
        rw [this] at h
        cases h
  · intro h
    cases e1 : anyTo (fun i => (om (m i)).at 1) n
    · exact .inl rfl
    · cases e3 : anyTo (fun i => (om (m i)).at 3) n
      · exact .inr rfl
      · obtain ⟨i, hi, h1⟩ := (anyTo_iff _ _).1 e1
        obtain ⟨j, hj, h3⟩ := (anyTo_iff _ _).1 e3
        have := h i hi j hj h1
        rw [show hold (m j) 1 1 = true from h3] at this
        cases this

theorem any_or (p q : Nat → Bool) : ∀ n, (anyTo p n || anyTo q n) = anyTo (fun i => p i || q i) n
  | 0 => rfl
  | n + 1 => by
    simp only [anyTo]
    rw [← any_or p q n]
    cases anyTo p n <;> cases anyTo q n <;> cases p n <;> cases q n <;> rfl

theorem plainI (f m : Nat → Int) (k n : Nat) (hf : ∀ i, i < k → f i = 0 ∨ f i = 1) : inT f k (fun i => om (m i)) n 2 = allTo (pI m (decide (0 < cz f k)) (decide (0 < co f k))) n := by
  rw [Bool.eq_iff_iff]
  unfold inT pI qI pin
  rw [← inb0 f k, ← inb1 f k hf]
  have a0 : (SO (fun i => om (m i)) n).any ((0 : Nat) : Int) = anyTo (fun i => ob (m i) ((0 : Nat) : Int)) n := any_or _ _ n
  have a1 : (SO (fun i => om (m i)) n).any ((1 : Nat) : Int) = anyTo (fun i => ob (m i) ((1 : Nat) : Int)) n := any_or _ _ n
  rw [two_iff]
  simp only [allTo_iff _ n, two_iff, a0, a1, Bool.or_eq_true, Bool.not_eq_true', show sel (inb f k 0) (inb f k 1) 0 = inb f k 0 from rfl, show sel (inb f k 0) (inb f k 1) 1 = inb f k 1 from rfl]
  have key : ∀ (p : Nat → Bool) (s : Bool), (anyTo p n = false ∨ s = true) ↔ ∀ i, i < n → p i = false ∨ s = true := by
    intro p s
    constructor
    · rintro (h | h) i hi
      · left
        cases e : p i
        · rfl
        · rw [(anyTo_iff p n).2 ⟨i, hi, e⟩] at h
          cases h
      · exact .inr h
    · intro h
      cases e : anyTo p n
      · exact .inl rfl
      · obtain ⟨i, hi, hp⟩ := (anyTo_iff p n).1 e
        rcases h i hi with h | h
        · rw [hp] at h
          cases h
        · exact .inr h
  rw [key, key]
  constructor
  · rintro ⟨h0, h1⟩ i hi
    exact ⟨h0 i hi, h1 i hi⟩
  · intro h
    exact ⟨fun i hi => (h i hi).1, fun i hi => (h i hi).2⟩

theorem all_or (s : Bool) (q : Nat → Bool) : ∀ n, allTo (fun i => !s || q i) n = (!s || allTo q n)
  | 0 => by cases s <;> rfl
  | n + 1 => by
    simp only [allTo]
    rw [all_or s q n]
    cases s <;> simp

theorem plainV (f m : Nat → Int) (k n : Nat) (hf : ∀ i, i < k → f i = 0 ∨ f i = 1) : vaT f k (fun i => om (m i)) n 2 = allTo (pV m n (decide (0 < cz f k)) (decide (0 < co f k))) 2 := by
  rw [← inb0 f k, ← inb1 f k hf]
  have h0 : allTo (pva f k (fun i => om (m i)) 0) n = pV m n (inb f k 0) (inb f k 1) 0 := all_or (inb f k 0 && !inb f k 1) (qV m 0) n
  have h1 : allTo (pva f k (fun i => om (m i)) 1) n = pV m n (inb f k 0) (inb f k 1) 1 := all_or (inb f k 1 && !inb f k 0) (qV m 1) n
  unfold vaT
  simp only [allTo, h0, h1]

/-- One question of the law, answered as it expects. -/
theorem is_true (g : Nat) (v0 v1 v2 v3 : Bool) (w : World) (hg : w.heap[g]? = some (km v0 v1 v2 v3)) (x : Bool) (k : Int) (hk : k = 0 ∨ k = 1 ∨ k = 2 ∨ k = 3) (h : pick4 v0 v1 v2 v3 k = x) :
    Calls Try.prog 27 #[.map (some g), .int .i64 k, .bool x] w fun e w' => e = .returned (.bool true) ∧ w' = w := by
  have := len_map g v0 v1 v2 v3 w hg x k hk
  rw [h, beq_self_eq_true] at this
  exact this
theorem run_len4 (g : Nat) (v0 v1 v2 v3 : Bool) (w : World) (hg : w.heap[g]? = some (km v0 v1 v2 v3)) : (Builtin.len_ #[46] 3 #[.map (some g)]).run Try.prog w = .ok (.int .i64 4) w := by
  unfold km at hg
  simp [Builtin.len_, run_underlying Try.underlying46, MapKept.run_getObj_map hg, goInt]
end Go.Proofs.Qxb6600356a.Ck
