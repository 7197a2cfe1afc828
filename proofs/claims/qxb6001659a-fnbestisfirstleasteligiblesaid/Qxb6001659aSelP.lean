import Derived.Test.Qxb6001659aSel
namespace Go.Proofs.Qxb6001659a.Cand

/-! The plain side of Best: the first least eligible one. -/
def d0 : Cd := ⟨ByteArray.empty, 0, 0, false, false, false, false⟩
/-- The i-th candidate. -/
def at_ (cs : List Cd) (i : Nat) : Cd := cs.getD i d0
/-- What Best holds after the first k. -/
def bestTo (cs : List Cd) : Nat → Int
  | 0 => -1
  | k + 1 => if elig (at_ cs k) && (decide (bestTo cs k < 0) || before (at_ cs k) (at_ cs (bestTo cs k).toNat)) then (k : Int) else bestTo cs k

theorem before_same (a b c : Cd) (h : before a b = true) (k : same b c = true) : before a c = true := by
  obtain ⟨h1, h2, h3⟩ := (same_iff b c).1 k
  unfold before at *
  rw [h1, h2, h3] at h
  exact h

/-- Nothing eligible among the first k; or the one at m is, and ranks before every other, or ties and comes first. -/
def BestIs (cs : List Cd) (k : Nat) (v : Int) : Prop :=
  (v = -1 ∧ ∀ j, j < k → elig (at_ cs j) = false) ∨
  ∃ m : Nat, v = m ∧ m < k ∧ elig (at_ cs m) = true ∧ ∀ j, j < k → elig (at_ cs j) = true → j ≠ m → before (at_ cs m) (at_ cs j) = true ∨ (same (at_ cs m) (at_ cs j) = true ∧ m < j)

theorem best_is (cs : List Cd) : ∀ k, BestIs cs k (bestTo cs k)
  | 0 => .inl ⟨rfl, fun j hj => by omega⟩
  | k + 1 => by
    have ih := best_is cs k
    rw [bestTo]
    cases he : elig (at_ cs k)
    · simp only [Bool.false_and, Bool.false_eq_true, if_false]
      rcases ih with ⟨h1, h2⟩ | ⟨m, h1, h2, h3, h4⟩
      · refine .inl ⟨h1, fun j hj => ?_⟩
        by_cases e : j = k
        · rw [e]; exact he
        · exact h2 j (by omega)
      · refine .inr ⟨m, h1, by omega, h3, fun j hj hej hne => ?_⟩
        by_cases e : j = k
        · rw [e, he] at hej; cases hej
        · exact h4 j (by omega) hej hne
    · rcases ih with ⟨h1, h2⟩ | ⟨m, h1, h2, h3, h4⟩
      · rw [h1]
        rw [if_pos (by simp)]
        refine .inr ⟨k, rfl, by omega, he, fun j hj hej hne => ?_⟩
        rw [h2 j (by omega)] at hej
        cases hej
      · have hm : (bestTo cs k).toNat = m := by rw [h1]; omega
        have hd : decide (bestTo cs k < 0) = false := decide_eq_false (by rw [h1]; omega)
        rw [hm, hd, Bool.true_and, Bool.false_or]
        cases hb : before (at_ cs k) (at_ cs m)
        · simp only [Bool.false_eq_true, if_false]
          refine .inr ⟨m, h1, by omega, h3, fun j hj hej hne => ?_⟩
          by_cases e : j = k
          · rw [e]
            cases hs : same (at_ cs m) (at_ cs k)
            · left
              rw [same_no _ _ hs, hb]
              rfl
            · right
              exact ⟨rfl, h2⟩
          · exact h4 j (by omega) hej hne
        · simp only [if_true]
          refine .inr ⟨k, rfl, by omega, he, fun j hj hej hne => ?_⟩
          left
          by_cases e : j = m
          · rw [e]; exact hb
          · rcases h4 j (by omega) hej e with h | ⟨h, _⟩
            · exact before_trans _ _ _ hb h
            · exact before_same _ _ _ hb h
end Go.Proofs.Qxb6001659a.Cand
