import Derived.Test.Qxb6001659aSelF
namespace Go.Proofs.Qxb6001659a.Cand
open Go.RowKit Go.Proofs.Qxb6001659a.Tb

/-- What the reason says of one that is outranked. -/
theorem reason_true (a b : Cd) (h : before a b = true ∨ same a b = true) :
    (reason a b = 6 ∧ a.p < b.p) ∨ (reason a b = 7 ∧ a.p = b.p ∧ b.o < a.o) ∨ (reason a b = 8 ∧ a.p = b.p ∧ a.o = b.o ∧ (Op.bytesLess a.r.toList b.r.toList || a.r.toList == b.r.toList) = true) := by
  unfold reason
  by_cases hp : a.p = b.p
  · rw [if_pos hp]
    by_cases ho : a.o = b.o
    · rw [if_pos ho]
      refine .inr (.inr ⟨rfl, hp, ho, ?_⟩)
      rcases h with h | h
      · unfold before at h
        rw [if_pos hp, if_pos ho] at h
        rw [h]
        rfl
      · have := ((same_iff a b).1 h).2.2
        simp [this]
    · rw [if_neg ho]
      refine .inr (.inl ⟨rfl, hp, ?_⟩)
      rcases h with h | h
      · unfold before at h
        rw [if_pos hp, if_neg ho] at h
        simpa using h
      · exact absurd ((same_iff a b).1 h).2.1 ho
  · rw [if_neg hp]
    refine .inl ⟨rfl, ?_⟩
    rcases h with h | h
    · unfold before at h
      rw [if_neg hp] at h
      simpa using h
    · exact absurd ((same_iff a b).1 h).1 hp

theorem elig_of (c : Cd) (h : excl c = 0) : elig c = true := by simp [elig, h]
/-- What is known of an eligible one, v being Best's answer. -/
theorem best_of (cs : List Cd) (v : Int) (hv : BestIs cs cs.length v) (k : Nat) (hk : k < cs.length) (he : excl (at_ cs k) = 0) :
    ∃ m : Nat, v = m ∧ m < cs.length ∧ (k ≠ m → before (at_ cs m) (at_ cs k) = true ∨ same (at_ cs m) (at_ cs k) = true) := by
  rcases hv with ⟨_, h⟩ | ⟨m, h1, h2, _, h4⟩
  · have := h k hk
    rw [elig_of _ he] at this
    cases this
  · refine ⟨m, h1, h2, fun hne => ?_⟩
    rcases h4 k hk (elig_of _ he) hne with h | ⟨h, _⟩
    · exact .inl h
    · exact .inr h

set_option maxHeartbeats 4000000 in
set_option maxRecDepth 100000 in
theorem passed_law (a : Option Addr) (cap : Nat) (cs : List Cd) (w : World) (ha : Cs w a cs) (ha0 : a = none → cs.length = 0 ∧ cap = 0) :
    Calls Try.prog 6 #[.slice a cs.length cap] w fun e w' => e = .returned (.bool true) ∧ Below w.heap.size w w' := by
  go_enter Try.func6, Try.ntmps6
  go_wp2_with fail
  refine (zzb32 a cap cs _ ha).mono ?_
  rintro e w' ⟨⟨q, rfl⟩, rfl⟩
  cases q
  · go_wp2_with fail
    go_ret
    exact ⟨rfl, Below.refl _ _⟩
  go_wp2_with fail
  refine (fit23 a cap cs _ ha).mono ?_
  rintro e w' ⟨⟨q, rfl, hq⟩, rfl⟩
  cases q
  · go_wp2_with fail
    go_ret
    exact ⟨rfl, Below.refl _ _⟩
  have hl : cs.length ≤ 4096 := hq rfl
  clear hq
  go_wp2_with fail
  refine (cloneC_any a _ cap cs _ rfl hl ha ha0).mono ?_
  rintro e w1 ⟨a1, c1, rfl, hs1, hn1, hb1⟩
  clear ha ha0
  go_wp2_with fail
  refine (sels_any a1 _ c1 cs _ rfl hl hs1 hn1).mono ?_
  rintro e w2 ⟨a2, c2, rfl, hs2, hb2⟩
  have hb2' : Hid (Below w'.heap.size w' w2) := hb1.trans (hb2.mono hb1.size)
  clear hs1 hn1 hb1 hb2
  go_wp2_with fail
  refine (best_any a2 _ c2 cs _ rfl hl hs2).mono ?_
  rintro e w3 ⟨rfl, hb3⟩
  have hs3 := hs2.below hb3
  have hb3' : Hid (Below w'.heap.size w' w3) := hb2'.out.trans (hb3.mono hb2'.out.size)
  have hv := best_is cs cs.length
  clear hs2 hb2' hb3
  generalize bestTo cs cs.length = v at *
  go_wp2_with fail
  refine (passed_any a2 _ c2 cs v hv _ rfl hl hs3).mono ?_
  rintro e w4 ⟨g, rfl, ht4, hb4⟩
  have hs4 := hs3.below hb4
  have hb4' : Hid (Below w'.heap.size w' w4) := hb3'.out.trans (hb4.mono hb3'.out.size)
  clear hs3 hb3' hb4
  go_wp2_with fail
  generalize hokd : decide ((0 : Int) ≤ v) = okb
  have HOK : Hid (decide ((0 : Int) ≤ v) = okb) := hokd
  clear hokd
  go_loopw [7] (fun i wr => ∃ k : Nat, k ≤ cs.length ∧ i = .int .i64 k ∧ Cs wr a2 cs ∧ Tab wr g 40 cs.length (whyRow cs v cs.length) ∧ Below w'.heap.size w' wr) (fun i _ => cs.length - (intOf i).toNat)
  case atStart => exact ⟨0, Nat.zero_le _, rfl, hs4, ht4, hb4'.out⟩
  case round =>
    clear hs4 ht4 hb4'
    obtain ⟨k, hk, rfl, hs, ht, hb⟩ := hrel
    by_cases hlt : k < cs.length
    · have HS := hs
      rcases hs with rfl | ⟨b, off, rfl, hbb, hc⟩
      · simp at hlt
      have hr := hc k hlt
      by_cases he : excl (at_ cs k) = 0
      · obtain ⟨m, rfl, hm, hout⟩ := best_of cs v hv k hlt he
        obtain rfl : okb = true := HOK.out.symm.trans (decide_eq_true (by omega))
        clear HOK
        by_cases hkm : k = m
        · have HW : Hid ((0 : Int) = why cs m k) := why_best cs m k he (by omega)
          have heq : ((k : Int) == (m : Int)) = true := beq_iff_eq.2 (by omega)
          clear hv hc hout hkm
          generalize at_ cs k = c at *
          go_wp2_with (refine ld42 b (off + k * 7) c rfl hr ?_)
          refine (excl_any c _).mono ?_
          rintro e w5 ⟨rfl, hb5⟩
          have T5 := ht.below hb5
          have S5 := HS.below hb5
          have hb6 : Hid (Below w'.heap.size w' w5) := hb.trans (hb5.mono hb.size)
          rw [he]
          have g1 : w5.cell? ⟨g, k, none⟩ = some (.int .i64 0) := by
            rw [T5.cell k hlt, HW.out]
            simp [whyRow, hlt]
          clear ht hr hb hb5 HS hbb
          go_wp2
          go_roundw
          case rel => exact ⟨k + 1, by omega, by go_num, S5, T5, hb6.out⟩
          case measure => simp [intOf]; omega
        · have HW : Hid (reason (at_ cs m) (at_ cs k) = why cs m k) := why_out cs m k he hkm
          have heq : ((k : Int) == (m : Int)) = false := beq_eq_false_iff_ne.2 (by omega)
          have HR := reason_true _ _ (hout hkm)
          have hrm := hc m hm
          have hm1 : (m : Int) < (cs.length : Int) := by omega
          have hm2 : (0 : Int) ≤ (m : Int) := by omega
          clear hv hc hout hkm
          generalize at_ cs k = c at *
          generalize at_ cs m = cm at *
          go_wp2_with (refine ld42 b (off + k * 7) c rfl hr ?_)
          refine (excl_any c _).mono ?_
          rintro e w5 ⟨rfl, hb5⟩
          have T5 := ht.below hb5
          have S5 := HS.below hb5
          have hb6 : Hid (Below w'.heap.size w' w5) := hb.trans (hb5.mono hb.size)
          rw [he]
          have hr5 := fun o => World.rangeAt_alloc (range_below hb5 hbb hr) o
          have hrm5 := range_below hb5 hbb hrm
          have T7 := fun o1 o2 => (T5.alloc o1).alloc o2
          have S7 := fun o1 o2 => (S5.below (one_box w5 o1)).below (one_box _ o2)
          have hb7 : Hid (∀ o1 o2, Below w'.heap.size w' ((w5.alloc o1).alloc o2)) := fun o1 o2 => (hb6.out.alloc hb6.out.size o1).alloc (by have := hb6.out.size; simp; omega) o2
          have g1 : ∀ o1 o2, ((w5.alloc o1).alloc o2).cell? ⟨g, k, none⟩ = some (.int .i64 (reason cm c)) := fun o1 o2 => by
            rw [(T7 o1 o2).cell k hlt, HW.out]
            simp [whyRow, hlt]
          clear ht hr hb hb5 HS hbb hb6 T5 S5 hrm
          rcases HR with ⟨r1, r2⟩ | ⟨r1, r2, r3⟩ | ⟨r1, r2, r3, r4⟩
          · rw [r1] at g1
            clear r1
            have tok1 : True := trivial
            have tok2 : True := trivial
            go_wp2_with (first | (have _t := tok1; refine ld42 b (off + m * 7) cm rfl hrm5 ?_; clear tok1) | (have _t := tok2; refine ld42 b (off + k * 7) c rfl (hr5 _) ?_; clear tok2))
            go_roundw
            case rel => exact ⟨k + 1, by omega, by go_num, S7 _ _, T7 _ _, hb7.out _ _⟩
            case measure => simp [intOf]; omega
          · rw [r1] at g1
            have r2' : (cm.p == c.p) = true := beq_iff_eq.2 r2
            clear r1 r2
            have tok1 : True := trivial
            have tok2 : True := trivial
            go_wp2_with (first | (have _t := tok1; refine ld42 b (off + m * 7) cm rfl hrm5 ?_; clear tok1) | (have _t := tok2; refine ld42 b (off + k * 7) c rfl (hr5 _) ?_; clear tok2))
            go_roundw
            case rel => exact ⟨k + 1, by omega, by go_num, S7 _ _, T7 _ _, hb7.out _ _⟩
            case measure => simp [intOf]; omega
          · rw [r1] at g1
            have r2' : (cm.p == c.p) = true := beq_iff_eq.2 r2
            have r3' : (cm.o == c.o) = true := beq_iff_eq.2 r3
            clear r1 r2 r3
            have tok1 : True := trivial
            have tok2 : True := trivial
            go_wp2_with (first | (have _t := tok1; refine ld42 b (off + m * 7) cm rfl hrm5 ?_; clear tok1) | (have _t := tok2; refine ld42 b (off + k * 7) c rfl (hr5 _) ?_; clear tok2))
            go_roundw
            case rel => exact ⟨k + 1, by omega, by go_num, S7 _ _, T7 _ _, hb7.out _ _⟩
            case measure => simp [intOf]; omega
      · have HW : Hid (excl (at_ cs k) = why cs v k) := why_no cs v k he
        have hne : (excl (at_ cs k) != 0) = true := bne_iff_ne.2 he
        clear hv hc he
        generalize at_ cs k = c at *
        go_wp2_with (refine ld42 b (off + k * 7) c rfl hr ?_)
        refine (excl_any c _).mono ?_
        rintro e w5 ⟨rfl, hb5⟩
        have T5 := ht.below hb5
        have S5 := HS.below hb5
        have hb6 : Hid (Below w'.heap.size w' w5) := hb.trans (hb5.mono hb.size)
        have g1 : w5.cell? ⟨g, k, none⟩ = some (.int .i64 (excl c)) := by
          rw [T5.cell k hlt, HW.out]
          simp [whyRow, hlt]
        clear ht hr hb hb5 HS hbb
        go_wp2
        go_roundw
        case rel => exact ⟨k + 1, by omega, by go_num, S5, T5, hb6.out⟩
        case measure => simp [intOf]; omega
    · go_wp2
      go_ret
      exact ⟨rfl, hb⟩
end Go.Proofs.Qxb6001659a.Cand
