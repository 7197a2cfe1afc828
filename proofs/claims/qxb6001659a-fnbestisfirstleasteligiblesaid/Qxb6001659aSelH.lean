import Derived.Test.Qxb6001659aSelF
namespace Go.Proofs.Qxb6001659a.Cand
open Go.RowKit Go.Proofs.Qxb6001659a.Tb
attribute [local go_sem ↓] Go.wp_at_zero Go.wp_at_succ

/-- Is one of the first k eligible? -/
def anyTo (cs : List Cd) (k : Nat) : Bool := (List.range k).any fun j => elig (at_ cs j)
theorem anyTo_succ (cs : List Cd) (k : Nat) : anyTo cs (k + 1) = (anyTo cs k || elig (at_ cs k)) := by
  simp [anyTo, List.range_succ]
theorem anyTo_no (cs : List Cd) (n : Nat) (h : ∀ j, j < n → elig (at_ cs j) = false) : anyTo cs n = false := by
  unfold anyTo
  rw [List.any_eq_false]
  intro j hj
  rw [h j (by simpa using hj)]
  simp
theorem anyTo_yes (cs : List Cd) (n m : Nat) (hm : m < n) (h : elig (at_ cs m) = true) : anyTo cs n = true := by
  unfold anyTo
  rw [List.any_eq_true]
  exact ⟨m, by simpa using hm, h⟩

theorem undrew {w w1 : World} (h : Below w.drew.heap.size w.drew w1) : Below w.heap.size w w1 := ⟨h.os, h.tape, h.output, h.size, h.block⟩
theorem spec_is (c : Cd) (q : Bool) (h : elig c = q) (w : World) : Calls Try.prog 28 #[c.val] w fun e w' => e = .returned (.bool q) ∧ Below w.heap.size w w' := by
  rw [← h]
  exact spec_any c w
theorem excl_is (c : Cd) (z : Int) (h : excl c = z) (w : World) : Calls Try.prog 27 #[c.val] w fun e w' => e = .returned (.int .i64 z) ∧ Below w.heap.size w w' := by
  rw [← h]
  exact excl_any c w
theorem bar_is (c : Cd) (r : Int) (hr : r = 1 ∨ r = 2 ∨ r = 3 ∨ r = 4 ∨ r = 5) (h : bar c r = true) (w : World) : Calls Try.prog 29 #[c.val, .int .i64 r] w fun e w' => e = .returned (.bool true) ∧ Below w.heap.size w w' := by
  rw [← h]
  exact bar_any c r hr w
theorem strict_is (a b : Cd) (q : Bool) (h : before a b = q) (w : World) : Calls Try.prog 30 #[a.val, b.val] w fun e w' => e = .returned (.bool q) ∧ Below w.heap.size w w' := by
  rw [← h]
  exact strict_any a b w
theorem same_is (a b : Cd) (q : Bool) (h : same a b = q) (w : World) : Calls Try.prog 31 #[a.val, b.val] w fun e w' => e = .returned (.bool q) ∧ Below w.heap.size w w' := by
  rw [← h]
  exact same_any a b w

set_option maxHeartbeats 4000000 in
set_option maxRecDepth 100000 in
theorem best_law (a : Option Addr) (cap : Nat) (cs : List Cd) (w : World) (ha : Cs w a cs) (ha0 : a = none → cs.length = 0 ∧ cap = 0) :
    Calls Try.prog 5 #[.slice a cs.length cap] w fun e w' => e = .returned (.bool true) ∧ Below w.heap.size w w' := by
  go_enter Try.func5, Try.ntmps5
  go_wp2_with fail
  refine (zzb22 a cap cs _ ha).mono ?_
  rintro e w' ⟨⟨q, rfl⟩, rfl⟩
  cases q
  · go_wp2_with fail
    go_ret
    exact ⟨rfl, Below.refl _ _⟩
  go_wp2_with fail
  refine (fit23 a cap cs _ ha).mono ?_
  rintro e w' ⟨⟨q, rfl, hq⟩, rfl⟩
  cases q
  · go_wp2_with fail
    go_ret
    exact ⟨rfl, Below.refl _ _⟩
  have hl : cs.length ≤ 4096 := hq rfl
  clear hq
  go_wp2_with fail
  refine (cloneC_any a _ cap cs _ rfl hl ha ha0).mono ?_
  rintro e w1 ⟨a1, c1, rfl, hs1, hn1, hb1⟩
  clear ha ha0
  go_wp2_with fail
  refine (sels_any a1 _ c1 cs _ rfl hl hs1 hn1).mono ?_
  rintro e w2 ⟨a2, c2, rfl, hs2, hb2⟩
  have hb2' : Hid (Below w'.heap.size w' w2) := hb1.trans (hb2.mono hb1.size)
  clear hs1 hn1 hb1 hb2
  go_wp2_with fail
  refine (best_any a2 _ c2 cs _ rfl hl hs2).mono ?_
  rintro e w3 ⟨rfl, hb3⟩
  have hs3 := hs2.below hb3
  have hb3' : Hid (Below w'.heap.size w' w3) := hb2'.out.trans (hb3.mono hb2'.out.size)
  have hv := best_is cs cs.length
  clear hs2 hb2' hb3
  generalize bestTo cs cs.length = v at *
  generalize hokd : decide ((0 : Int) ≤ v) = okb
  have HOK : Hid (decide ((0 : Int) ≤ v) = okb) := hokd
  clear hokd
  go_wp2_with fail
  go_loopw [6, 7] (fun s i wr => ∃ k : Nat, k ≤ cs.length ∧ i = .int .i64 k ∧ s = .bool (anyTo cs k) ∧ Cs wr a2 cs ∧ Below w'.heap.size w' wr) (fun _ i _ => cs.length - (intOf i).toNat)
  case atStart => exact ⟨0, Nat.zero_le _, rfl, rfl, hs3, hb3'.out⟩
  case round =>
    clear hs3 hb3'
    obtain ⟨k, hk, rfl, rfl, hs, hb⟩ := hrel
    by_cases hlt : k < cs.length
    · have HA := anyTo_succ cs k
      have HS := hs
      rcases hs with rfl | ⟨b, off, rfl, hbb, hc⟩
      · simp at hlt
      have hr := hc k hlt
      obtain ⟨hcases, hbar⟩ := excl_cases (at_ cs k)
      by_cases he : excl (at_ cs k) = 0
      · have hel : elig (at_ cs k) = true := by simp [elig, he]
        have HB : Hid (anyTo cs (k + 1) = true) := by
          have h : anyTo cs (k + 1) = true := by rw [HA, hel]; simp
          exact h
        clear hv hc HA hcases hbar
        generalize at_ cs k = c at *
        go_wp2_with (refine ld42 b (off + k * 7) c rfl hr ?_)
        refine (excl_is c 0 he _).mono ?_
        rintro e w5 ⟨rfl, hb5⟩
        have S5 := HS.below hb5
        have hr5 := range_below hb5 hbb hr
        have hbb5 : b < w5.heap.size := Nat.lt_of_lt_of_le hbb hb5.size
        have hb5' : Hid (Below w'.heap.size w' w5) := hb.trans (hb5.mono hb.size)
        clear HS hr hbb hb hb5
        go_wp2_with (refine ld42 b (off + k * 7) c rfl hr5 ?_)
        refine (spec_is c true hel _).mono ?_
        rintro e w6 ⟨rfl, hb6⟩
        have S6 := S5.below hb6
        have hb6' : Hid (Below w'.heap.size w' w6) := hb5'.out.trans (hb6.mono hb5'.out.size)
        clear S5 hr5 hbb5 hb5' hb6
        go_wp2_with fail
        go_roundw
        case rel => exact ⟨k + 1, by omega, by go_num, by rw [HB.out], S6, hb6'.out⟩
        case measure => simp [intOf]; omega
      · have hel : elig (at_ cs k) = false := by simp [elig, he]
        have HB : Hid (anyTo cs (k + 1) = anyTo cs k) := by
          have h : anyTo cs (k + 1) = anyTo cs k := by rw [HA, hel]; simp
          exact h
        have hbar' := hbar he
        have hz : excl (at_ cs k) = 1 ∨ excl (at_ cs k) = 2 ∨ excl (at_ cs k) = 3 ∨ excl (at_ cs k) = 4 ∨ excl (at_ cs k) = 5 := by
          rcases hcases with h | h
          · exact absurd h he
          · exact h
        clear hv hc HA hcases hbar
        generalize at_ cs k = c at *
        generalize hzz : excl c = z at *
        have HZ : Hid (excl c = z) := hzz
        have hz1 : (z == 0) = false := beq_eq_false_iff_ne.2 he
        have hz2 : (z != 0) = true := bne_iff_ne.2 he
        have HZ' : Hid (z = 1 ∨ z = 2 ∨ z = 3 ∨ z = 4 ∨ z = 5) := hz
        have HBR : Hid (bar c z = true) := hbar'
        clear hzz hz he hbar'
        go_wp2_with (refine ld42 b (off + k * 7) c rfl hr ?_)
        refine (excl_is c z HZ.out _).mono ?_
        rintro e w5 ⟨rfl, hb5⟩
        have S5 := HS.below hb5
        have hr5 := range_below hb5 hbb hr
        have hbb5 : b < w5.heap.size := Nat.lt_of_lt_of_le hbb hb5.size
        have hb5' : Hid (Below w'.heap.size w' w5) := hb.trans (hb5.mono hb.size)
        clear HS hr hbb hb hb5
        go_wp2_with (refine ld42 b (off + k * 7) c rfl hr5 ?_)
        refine (spec_is c false hel _).mono ?_
        rintro e w6 ⟨rfl, hb6⟩
        have S6 := S5.below hb6
        have hr6 := range_below hb6 hbb5 hr5
        have hb6' : Hid (Below w'.heap.size w' w6) := hb5'.out.trans (hb6.mono hb5'.out.size)
        clear S5 hr5 hbb5 hb5' hb6
        obtain ⟨q0, q1, q2, q3, q4, q5, q6⟩ := cells7 hr6
        clear hr6
        go_wp2_with fail
        refine (bar_is c z HZ'.out HBR.out _).mono ?_
        rintro e w7 ⟨rfl, hb7⟩
        have S7 := S6.below hb7
        have hb7' : Hid (Below w'.heap.size w' w7) := hb6'.out.trans (hb7.mono hb6'.out.size)
        clear S6 hb6' hb7 q0 q1 q2 q3 q4 q5 q6
        go_wp2_with fail
        go_roundw
        case rel => exact ⟨k + 1, by omega, by go_num, by rw [HB.out], S7, hb7'.out⟩
        case measure => simp [intOf]; omega
    · have hk' : k = cs.length := by omega
      subst hk'
      clear hk hlt
      rcases hv with ⟨rfl, hv⟩ | ⟨m, rfl, hm, hme, hmo⟩
      · have hany := anyTo_no cs cs.length hv
        generalize anyTo cs cs.length = sb at *
        subst hany
        obtain rfl : okb = false := HOK.out.symm.trans (decide_eq_false (by omega))
        clear HOK
        go_wp2_with fail
        go_ret
        exact ⟨rfl, hb⟩
      · have hany := anyTo_yes cs cs.length m hm hme
        generalize anyTo cs cs.length = sb at *
        subst hany
        obtain rfl : okb = true := HOK.out.symm.trans (decide_eq_true (by omega))
        clear HOK
        have HS := hs
        rcases hs with rfl | ⟨b, off, rfl, hbb, hc⟩
        · simp at hm
        have hrm := hc m hm
        have hm1 : (m : Int) < (cs.length : Int) := by omega
        have hm2 : (0 : Int) ≤ (m : Int) := by omega
        have hm3 : decide ((m : Int) < 0) = false := decide_eq_false (by omega)
        have hm4 : decide ((cs.length : Int) ≤ (m : Int)) = false := decide_eq_false (by omega)
        go_wp2_with (refine ld42 b (off + m * 7) (at_ cs m) rfl hrm ?_)
        refine (spec_is (at_ cs m) true hme _).mono ?_
        rintro e w4 ⟨rfl, hb4⟩
        obtain ⟨wo, rfl⟩ : ∃ wo : World, wo = wr := ⟨_, rfl⟩
        have hbo : Hid (Below w'.heap.size w' wo) := hb
        clear hb HS
        go_wp2_with fail
        go_loopw [9] (fun i wr => ∃ k : Nat, k ≤ cs.length ∧ i = .int .i64 k ∧ Below wo.heap.size wo wr) (fun i _ => cs.length - (intOf i).toNat)
        case atStart => exact ⟨0, Nat.zero_le _, rfl, hb4⟩
        case round =>
          clear hb4
          obtain ⟨k, hk, rfl, hb⟩ := hrel
          by_cases hlt : k < cs.length
          · have hr := range_below hb hbb (hc k hlt)
            have hrm' := range_below hb hbb hrm
            have hbr : b < wr.heap.size := Nat.lt_of_lt_of_le hbb hb.size
            by_cases hkm : k = m
            · have heq : ((k : Int) == (m : Int)) = true := beq_iff_eq.2 (by omega)
              clear hc hmo hr hrm' hkm hrm
              go_wp2_with fail
              go_roundw
              case rel => exact ⟨k + 1, by omega, by go_num, hb⟩
              case measure => simp [intOf]; omega
            · have heq : ((k : Int) == (m : Int)) = false := beq_eq_false_iff_ne.2 (by omega)
              have hmk := hmo k hlt
              have hk1 : (k : Int) < (cs.length : Int) := by omega
              have hk2 : (0 : Int) ≤ (k : Int) := by omega
              clear hc hmo hrm
              cases hek : elig (at_ cs k)
              · clear hmk
                generalize at_ cs k = c at *
                obtain ⟨p0, p1, p2, p3, p4, p5, p6⟩ := cells7 hr
                clear hr hrm'
                go_wp2_with fail
                refine (spec_is c false hek _).mono ?_
                rintro e w5 ⟨rfl, hb5⟩
                have hb5' : Below wo.heap.size wo w5 := hb.trans (hb5.mono hb.size)
                clear hb hb5 p0 p1 p2 p3 p4 p5 p6
                go_wp2_with fail
                go_roundw
                case rel => exact ⟨k + 1, by omega, by go_num, hb5'⟩
                case measure => simp [intOf]; omega
              · have hmk' := hmk hek hkm
                clear hmk hkm
                generalize at_ cs k = c at *
                generalize at_ cs m = cm at *
                obtain ⟨p0, p1, p2, p3, p4, p5, p6⟩ := cells7 hr
                go_wp2_with fail
                refine (spec_is c true hek _).mono ?_
                rintro e w5 ⟨rfl, hb5⟩
                have hr5 := range_below hb5 hbr hr
                have hrm5 := range_below hb5 hbr hrm'
                have hbr5 : b < w5.heap.size := Nat.lt_of_lt_of_le hbr hb5.size
                have hb5' : Hid (Below wo.heap.size wo w5) := hb.trans (hb5.mono hb.size)
                clear hb hb5 p0 p1 p2 p3 p4 p5 p6 hr hrm' hbr
                obtain ⟨p0, p1, p2, p3, p4, p5, p6⟩ := cells7 hr5
                obtain ⟨q0, q1, q2, q3, q4, q5, q6⟩ := cells7 hrm5
                rcases hmk' with hbe | ⟨hsa, hmk⟩
                · clear hr5 hrm5
                  go_wp2_with fail
                  first | (go_region_with (go_at_call 30; refine (strict_is cm c true hbe _).mono ?_; rintro e w6 ⟨rfl, hb6⟩)) | fail
                  all_goals
                    have hb6' : Below wo.heap.size wo w6 := hb5'.out.trans ((undrew hb6).mono hb5'.out.size)
                    clear hb6 hb5' p0 p1 p2 p3 p4 p5 p6 q0 q1 q2 q3 q4 q5 q6 hbe
                    go_wp2_with fail
                    go_roundw
                    case rel => exact ⟨k + 1, by omega, by go_num, hb6'⟩
                    case measure => simp [intOf]; omega
                · have hbe := (same_yes cm c hsa).1
                  have hlt2 : decide ((m : Int) < (k : Int)) = true := decide_eq_true (by omega)
                  have hlt3 : (m : Int) < (k : Int) := by omega
                  go_wp2_with fail
                  first | (go_region_with (go_at_call 30; refine (strict_is cm c false hbe _).mono ?_; rintro e w6 ⟨rfl, hb6⟩)) | fail
                  all_goals
                    have hb6' : Hid (Below wo.heap.size wo w6) := hb5'.out.trans ((undrew hb6).mono hb5'.out.size)
                    have hr6 := range_below (undrew hb6) hbr5 hr5
                    have hrm6 := range_below (undrew hb6) hbr5 hrm5
                    clear hb6 hb5' p0 p1 p2 p3 p4 p5 p6 q0 q1 q2 q3 q4 q5 q6 hbe hr5 hrm5
                    obtain ⟨p0, p1, p2, p3, p4, p5, p6⟩ := cells7 hr6
                    obtain ⟨q0, q1, q2, q3, q4, q5, q6⟩ := cells7 hrm6
                    clear hr6 hrm6
                    go_wp2_with fail
                    first | (go_region_with (go_at_call 31; refine (same_is cm c true hsa _).mono ?_; rintro e w7 ⟨rfl, hb7⟩)) | fail
                    all_goals
                      have hb7' : Below wo.heap.size wo w7 := hb6'.out.trans ((undrew hb7).mono hb6'.out.size)
                      clear hb7 hb6' p0 p1 p2 p3 p4 p5 p6 q0 q1 q2 q3 q4 q5 q6 hsa
                      go_wp2_with fail
                      go_roundw
                      case rel => exact ⟨k + 1, by omega, by go_num, hb7'⟩
                      case measure => simp [intOf]; omega
          · go_wp2_with fail
            go_ret
            exact ⟨rfl, hbo.out.trans (hb.mono hbo.out.size)⟩
end Go.Proofs.Qxb6001659a.Cand
