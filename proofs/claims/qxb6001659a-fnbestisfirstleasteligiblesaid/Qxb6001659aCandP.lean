import Derived.Test.Qxb6001659aCand
namespace Go.Proofs.Qxb6001659a.Cand

/-! The plain side: the ranking is a strict order. -/
theorem bl_irrefl : ∀ x : List UInt8, Op.bytesLess x x = false
  | [] => rfl
  | a :: x => by
    rw [Op.bytesLess, bl_irrefl x]
    simp
theorem bl_total : ∀ x y : List UInt8, x ≠ y → Op.bytesLess x y = !Op.bytesLess y x
  | [], [], h => absurd rfl h
  | [], _ :: _, _ => rfl
  | _ :: _, [], _ => rfl
  | a :: x, b :: y, h => by
    rw [Op.bytesLess, Op.bytesLess]
    by_cases e : a = b
    · subst e
      have hx : x ≠ y := fun e => h (by rw [e])
      rw [bl_total x y hx]
      simp
    · have e' : b ≠ a := fun x => e x.symm
      have h1 : (a == b) = false := by simp [e]
      have h2 : (b == a) = false := by simp [e']
      rw [h1, h2]
      simp only [Bool.false_and, Bool.or_false]
      have : ¬ a.toNat = b.toNat := fun x => e (UInt8.toNat_inj.1 x)
      rw [Bool.eq_iff_iff]
      simp [UInt8.lt_iff_toNat_lt]
      omega
theorem bl_trans : ∀ x y z : List UInt8, Op.bytesLess x y = true → Op.bytesLess y z = true → Op.bytesLess x z = true
  | _, [], _, h, _ => by simp [Op.bytesLess] at h
  | _, _ :: _, [], _, h => by simp [Op.bytesLess] at h
  | [], _ :: _, _ :: _, _, _ => rfl
  | a :: x, b :: y, c :: z, h, k => by
    rw [Op.bytesLess] at h k ⊢
    simp only [Bool.or_eq_true, Bool.and_eq_true, beq_iff_eq, decide_eq_true_eq, UInt8.lt_iff_toNat_lt] at h k ⊢
    rcases h with h | ⟨rfl, h⟩
    · rcases k with k | ⟨rfl, k⟩
      · left; omega
      · left; exact h
    · rcases k with k | ⟨rfl, k⟩
      · left; exact k
      · right; exact ⟨rfl, bl_trans x y z h k⟩

theorem reason_symm (a b : Cd) : reason a b = reason b a := by
  unfold reason
  by_cases hp : a.p = b.p
  · rw [if_pos hp, if_pos hp.symm]
    by_cases ho : a.o = b.o
    · rw [if_pos ho, if_pos ho.symm]
    · rw [if_neg ho, if_neg (fun h => ho h.symm)]
  · rw [if_neg hp, if_neg (fun h => hp h.symm)]
theorem same_iff (a b : Cd) : same a b = true ↔ a.p = b.p ∧ a.o = b.o ∧ a.r.toList = b.r.toList := by
  unfold same
  simp [and_assoc]
theorem same_yes (a b : Cd) (h : same a b = true) : before a b = false ∧ before b a = false ∧ reason a b = 8 := by
  obtain ⟨hp, ho, hr⟩ := (same_iff a b).1 h
  unfold before reason
  rw [if_pos hp, if_pos hp.symm, if_pos ho, if_pos ho.symm, if_pos hp, if_pos ho, hr, bl_irrefl]
  exact ⟨rfl, rfl, rfl⟩
theorem same_no (a b : Cd) (h : same a b = false) : before a b = !before b a := by
  unfold before
  by_cases hp : a.p = b.p
  · rw [if_pos hp, if_pos hp.symm]
    by_cases ho : a.o = b.o
    · rw [if_pos ho, if_pos ho.symm]
      refine bl_total _ _ fun hr => ?_
      rw [(same_iff a b).2 ⟨hp, ho, hr⟩] at h
      cases h
    · rw [if_neg ho, if_neg (fun h => ho h.symm), Bool.eq_iff_iff]
      simp
      omega
  · rw [if_neg hp, if_neg (fun h => hp h.symm), Bool.eq_iff_iff]
    simp
    omega
theorem before_trans (a b c : Cd) (h : before a b = true) (k : before b c = true) : before a c = true := by
  unfold before at *
  by_cases h1 : a.p = b.p
  · rw [if_pos h1] at h
    by_cases h2 : b.p = c.p
    · rw [if_pos h2] at k
      rw [if_pos (h1.trans h2)]
      by_cases o1 : a.o = b.o
      · rw [if_pos o1] at h
        by_cases o2 : b.o = c.o
        · rw [if_pos o2] at k
          rw [if_pos (o1.trans o2)]
          exact bl_trans _ _ _ h k
        · rw [if_neg o2] at k
          rw [if_neg (by omega)]
          simp at k ⊢
          omega
      · rw [if_neg o1] at h
        by_cases o2 : b.o = c.o
        · rw [if_neg (by omega)]
          simp at h ⊢
          omega
        · rw [if_neg o2] at k
          simp at h k
          rw [if_neg (by omega)]
          simp
          omega
    · rw [if_neg h2] at k
      rw [if_neg (by omega)]
      simp at k ⊢
      omega
  · rw [if_neg h1] at h
    by_cases h2 : b.p = c.p
    · rw [if_neg (by omega)]
      simp at h ⊢
      omega
    · rw [if_neg h2] at k
      simp at h k
      rw [if_neg (by omega)]
      simp
      omega
end Go.Proofs.Qxb6001659a.Cand
