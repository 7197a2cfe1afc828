import Derived.Test.Qxb6600356aCkL
namespace Go.Proofs.Qxb6600356a.Ck
open Go.RowKit Go.Proofs.Qxb6600356a.Tb

theorem allTo_no {p : Nat → Bool} {k : Nat} (x : Bool) (h : p k = true) : (x && allTo p k) = (x && allTo p (k + 1)) := by
  simp only [allTo]
  rw [h, Bool.and_true]
theorem allTo_yes {p : Nat → Bool} {k : Nat} (x : Bool) (h : p k = false) : false = (x && allTo p (k + 1)) := by
  simp only [allTo]
  rw [h, Bool.and_false, Bool.and_false]

set_option maxRecDepth 100000 in
set_option maxHeartbeats 2000000 in
theorem law_main (a0 a1 : Option Addr) (n0 c0 n1 c1 : Nat) (f m : Nat → Int) (w : World) (h0 : ¬ (1048576 : Int) < n0) (h1 : ¬ (1048576 : Int) < n1) (h2 : ¬ (1048576 : Int) < n0 + n1) (h3 : ¬ (4096 : Int) < n1)
    (u0 : Us w a0 f n0) (u1 : Us w a1 m n1) (k0 : a0 = none → n0 = 0 ∧ c0 = 0) (k1 : a1 = none → n1 = 0 ∧ c1 = 0) (hf : ∀ i, i < n0 → 0 ≤ f i) : Calls Try.prog 8 #[.slice a0 n0 c0, .slice a1 n1 c1] w fun e w' => Fine w e w' := by
  go_enter Try.func8, Try.ntmps8
  go_wp2_with fail
  refine (zzb20 a0 a1 n0 c0 n1 c1 _).mono ?_
  rintro e w1 ⟨⟨q, rfl⟩, hw⟩
  obtain rfl := hw.symm
  cases q
  · go_wp2
    go_ret
    exact ⟨rfl, Below.refl _ _⟩
  go_wp2_with fail
  refine (bits_any a0 n0 c0 f _ (by omega) u0).mono ?_
  rintro e w1 ⟨⟨q, rfl, hq⟩, hw⟩
  obtain rfl := hw.symm
  cases q
  · clear hq
    go_wp2
    go_ret
    exact ⟨rfl, Below.refl _ _⟩
  have hf01 : ∀ i, i < n0 → f i = 0 ∨ f i = 1 := fun i hi => by
    have := hq rfl i hi
    have := hf i hi
    omega
  have KK : Hid ((a0 = none → n0 = 0 ∧ c0 = 0) ∧ (a1 = none → n1 = 0 ∧ c1 = 0)) := ⟨k0, k1⟩
  clear hq hf k0 k1
  go_wp2_with fail
  refine (clone_any a0 n0 c0 f _ (by omega) KK.out.1 u0).mono ?_
  rintro e w1 ⟨⟨a2, c2, rfl, u2⟩, hb1⟩
  have u1' := u1.below hb1
  clear u0 u1
  go_wp2_with fail
  refine (clone_any a1 n1 c1 m _ (by omega) KK.out.2 u1').mono ?_
  rintro e w2 ⟨⟨a3, c3, rfl, u3⟩, hb2⟩
  have u2' := u2.below hb2
  have hb2 := hb1.trans (hb2.mono hb1.size)
  clear u1' u2 hb1 KK
  go_wp2_with fail
  refine (outs_any a3 n1 c3 m _ (by omega) u3).mono ?_
  rintro e w3 ⟨⟨a4, c4, rfl, g, rfl, hg, hos⟩, hb3⟩
  have u2 := u2'.below hb3
  have u3' := u3.below hb3
  have hb3 := hb2.trans (hb3.mono hb2.size)
  clear u3 u2' hb2
  go_wp2_with fail
  refine (check_any a2 n0 c2 f g n1 c4 (fun i => om (m i)) _ (by omega) (by omega) u2 hf01 hg hos).mono ?_
  rintro e w4 ⟨M, rfl, hM, hb4⟩
  rw [plainC, plainI f m n0 n1 hf01, plainV f m n0 n1 hf01, plainU] at hM
  have u2' := u2.below hb4
  have u3 := u3'.below hb4
  have hb4 := hb3.trans (hb4.mono hb3.size)
  clear u3' u2 hb3 hos hg hf01
  go_wp2_with fail
  go_loop [6, 7, 8] (fun x y i => ∃ k : Nat, k ≤ n0 ∧ i = .int .i64 k ∧ x = .int .i64 (cz f k) ∧ y = .int .i64 (co f k)) (fun _ _ i => n0 - (intOf i).toNat)
  case atStart => exact ⟨0, Nat.zero_le _, rfl, rfl, rfl⟩
  case round =>
    obtain ⟨k, hk, rfl, rfl, rfl⟩ := hrel
    have hz := cz_le f k
    have ho := co_le f k
    by_cases hkn : k < n0
    · rcases u2' with e0 | ⟨b, off, rfl, hlt, hc⟩
      · omega
      have hck := hc k hkn
      clear hc
      by_cases hfk : f k = 0
      · have HZ : Hid (cz f (k + 1) = cz f k + 1 ∧ co f (k + 1) = co f k) := by
          constructor <;> simp [cz, co, hfk]
        rw [hfk] at hck
        clear hfk
        go_wp2
        go_round
        case rel => exact ⟨k + 1, by omega, by go_num, by rw [HZ.out.1]; go_num, by rw [HZ.out.2]⟩
        case measure => simp [intOf]; omega
      · have HZ : Hid (cz f (k + 1) = cz f k ∧ co f (k + 1) = co f k + 1) := by
          constructor <;> simp [cz, co, hfk]
        have hne : (f k == 0) = false := by simp [hfk]
        clear hfk
        go_wp2
        go_round
        case rel => exact ⟨k + 1, by omega, by go_num, by rw [HZ.out.1], by rw [HZ.out.2]; go_num⟩
        case measure => simp [intOf]; omega
    · obtain rfl : n0 = k := by omega
      go_upto_region 21 with fail
      go_cut [10] from 22 (fun v wc => v = .pointer (some ⟨w4.heap.size + 1, 0, none⟩) ∧ Hall w a3 m n1 M w4.heap.size (w4.heap.size + 1) (decide (0 < cz f n0)) (decide (0 < co f n0)) (km (allTo (pC m n1) n1) (allTo (pI m (decide (0 < cz f n0)) (decide (0 < co f n0))) n1) (allTo (pV m n1 (decide (0 < cz f n0)) (decide (0 < co f n0))) 2) (allTo (pU m n1) n1)) wc)
      case first =>
        by_cases hz0 : 0 < cz f n0
        · by_cases ho0 : 0 < co f n0
          · have hH := Hall.made true true false false rfl rfl u3 hM hb4
            have ez : ((cz f n0 : Int) == 0) = false := by simp; omega
            have eo : ((co f n0 : Int) == 0) = false := by simp; omega
            go_wp2_with fail
            go_meet
            exact ⟨rfl, by rw [decide_eq_true hz0, decide_eq_true ho0] at *; exact hH⟩
          · have hH := Hall.made true false true false rfl rfl u3 hM hb4
            have ez : ((cz f n0 : Int) == 0) = false := by simp; omega
            have eo : ((co f n0 : Int) == 0) = true := by simp; omega
            go_wp2_with fail
            go_meet
            exact ⟨rfl, by rw [decide_eq_true hz0, decide_eq_false ho0] at *; exact hH⟩
        · by_cases ho0 : 0 < co f n0
          · have hH := Hall.made false true false true rfl rfl u3 hM hb4
            have ez : ((cz f n0 : Int) == 0) = true := by simp; omega
            have eo : ((co f n0 : Int) == 0) = false := by simp; omega
            go_wp2_with fail
            go_meet
            exact ⟨rfl, by rw [decide_eq_false hz0, decide_eq_true ho0] at *; exact hH⟩
          · have hH := Hall.made false false false false rfl rfl u3 hM hb4
            have ez : ((cz f n0 : Int) == 0) = true := by simp; omega
            have eo : ((co f n0 : Int) == 0) = true := by simp; omega
            go_wp2_with fail
            go_meet
            exact ⟨rfl, by rw [decide_eq_false hz0, decide_eq_false ho0] at *; exact hH⟩
      case rest =>
        obtain ⟨rfl, hH⟩ := hcut
        obtain ⟨W, hWc⟩ : ∃ W, W = wc := ⟨_, rfl⟩
        subst hWc
        generalize decide (0 < cz f n0) = z at *
        generalize decide (0 < co f n0) = o at *
        generalize w4.heap.size + 1 = Q at *
        generalize w4.heap.size = P at *
        clear u2' u3 hM hb4 hz ho
        go_wp2_with fail
        go_loop [11, 12] (fun x i => ∃ k : Nat, k ≤ n1 ∧ i = .int .i64 k ∧ x = .bool (allTo (pI m z o) k)) (fun _ i => n1 - (intOf i).toNat)
        case atStart => exact ⟨0, Nat.zero_le _, rfl, rfl⟩
        case round =>
          obtain ⟨k, hk, rfl, rfl⟩ := hrel
          by_cases hkn : k < n1
          · rcases hH.us with e0 | ⟨b', off, rfl, hlt, hc⟩
            · omega
            have hck := hc k hkn
            clear hc
            go_wp2_with fail
            go_loop [11, 13] (fun x i => ∃ b : Nat, b ≤ 2 ∧ i = .int .i64 b ∧ x = .bool (allTo (pI m z o) k && allTo (qI m z o k) b)) (fun _ i => 2 - (intOf i).toNat)
            case atStart => exact ⟨0, Nat.zero_le _, rfl, by simp [allTo]⟩
            case round =>
              obtain ⟨b, hb, rfl, rfl⟩ := hrel
              by_cases hb2 : b < 2
              · have HB : Hid ((b : Int) = 0 ∨ (b : Int) = 1) := (by omega : (b : Int) = 0 ∨ (b : Int) = 1)
                have hp := hH.p b hb2
                generalize hs : sel z o b = s at hp
                generalize hq : ob (m k) b = q
                have HS : Hid (sel z o b = s) := hs
                have HQ : Hid (ob (m k) b = q) := hq
                clear hs hq
                cases q
                · have HP : Hid (qI m z o k b = true) := by show qI m z o k b = true; unfold qI; rw [HQ.out]; rfl
                  go_wp2_with fail
                  refine (ob_is (m k) b false HQ.out HB.out _).mono ?_
                  rintro e w9 ⟨rfl, hw⟩
                  obtain rfl := hw.symm
                  clear hw
                  go_wp2
                  go_round
                  case rel => exact ⟨b + 1, by omega, by go_num, by rw [allTo_no _ HP.out]⟩
                  case measure => simp [intOf]; omega
                · cases s
                  · have HP : Hid (qI m z o k b = false) := by show qI m z o k b = false; unfold qI; rw [HQ.out, HS.out]; rfl
                    go_wp2_with fail
                    refine (ob_is (m k) b true HQ.out HB.out _).mono ?_
                    rintro e w9 ⟨rfl, hw⟩
                    obtain rfl := hw.symm
                    clear hw
                    go_wp2
                    go_round
                    case rel => exact ⟨b + 1, by omega, by go_num, by rw [← allTo_yes _ HP.out]⟩
                    case measure => simp [intOf]; omega
                  · have HP : Hid (qI m z o k b = true) := by show qI m z o k b = true; unfold qI; rw [HQ.out, HS.out]; rfl
                    go_wp2_with fail
                    refine (ob_is (m k) b true HQ.out HB.out _).mono ?_
                    rintro e w9 ⟨rfl, hw⟩
                    obtain rfl := hw.symm
                    clear hw
                    go_wp2
                    go_round
                    case rel => exact ⟨b + 1, by omega, by go_num, by rw [allTo_no _ HP.out]⟩
                    case measure => simp [intOf]; omega
              · obtain rfl : b = 2 := by omega
                go_wp2
                go_round
                case rel => exact ⟨k + 1, by omega, by go_num, rfl⟩
                case measure => simp [intOf]; omega
          · obtain rfl : n1 = k := by omega
            go_wp2_with fail
            go_loop [14, 15] (fun x i => ∃ b : Nat, b ≤ 2 ∧ i = .int .i64 b ∧ x = .bool (allTo (pV m n1 z o) b)) (fun _ i => 2 - (intOf i).toNat)
            case atStart => exact ⟨0, Nat.zero_le _, rfl, rfl⟩
            case round =>
              obtain ⟨b, hb, rfl, rfl⟩ := hrel
              by_cases hb2 : b < 2
              · have HB : Hid ((b : Int) = 0 ∨ (b : Int) = 1) := (by omega : (b : Int) = 0 ∨ (b : Int) = 1)
                have hp := hH.q b hb2
                generalize hs : sel (z && !o) (o && !z) b = s at hp
                have HS : Hid (sel (z && !o) (o && !z) b = s) := hs
                clear hs
                cases s
                · have HP : Hid (pV m n1 z o b = true) := by show pV m n1 z o b = true; unfold pV; rw [HS.out]; rfl
                  go_wp2
                  go_round
                  case rel => exact ⟨b + 1, by omega, by go_num, by simp only [allTo]; rw [HP.out, Bool.and_true]⟩
                  case measure => simp [intOf]; omega
                · have HP : Hid (pV m n1 z o b = allTo (qV m b) n1) := by show pV m n1 z o b = allTo (qV m b) n1; unfold pV; rw [HS.out]; rfl
                  go_wp2_with fail
                  go_loop [14, 16] (fun x i => ∃ k : Nat, k ≤ n1 ∧ i = .int .i64 k ∧ x = .bool (allTo (pV m n1 z o) b && allTo (qV m b) k)) (fun _ i => n1 - (intOf i).toNat)
                  case atStart => exact ⟨0, Nat.zero_le _, rfl, by simp [allTo]⟩
                  case round =>
                    obtain ⟨k, hk, rfl, rfl⟩ := hrel
                    by_cases hkn : k < n1
                    · rcases hH.us with e0 | ⟨b', off, rfl, hlt, hc⟩
                      · omega
                      have hck := hc k hkn
                      clear hc
                      generalize hq : hold (m k) b 1 = q
                      have HQ : Hid (hold (m k) b 1 = q) := hq
                      clear hq
                      cases q
                      · have HP : Hid (qV m b k = false) := HQ
                        go_wp2_with fail
                        refine (hold_is (m k) b 1 false HQ.out HB.out (.inr rfl) _).mono ?_
                        rintro e w9 ⟨rfl, hw⟩
                        obtain rfl := hw.symm
                        clear hw
                        go_wp2
                        go_round
                        case rel => exact ⟨k + 1, by omega, by go_num, by rw [← allTo_yes _ HP.out]⟩
                        case measure => simp [intOf]; omega
                      · have HP : Hid (qV m b k = true) := HQ
                        go_wp2_with fail
                        refine (hold_is (m k) b 1 true HQ.out HB.out (.inr rfl) _).mono ?_
                        rintro e w9 ⟨rfl, hw⟩
                        obtain rfl := hw.symm
                        clear hw
                        go_wp2
                        go_round
                        case rel => exact ⟨k + 1, by omega, by go_num, by rw [allTo_no _ HP.out]⟩
                        case measure => simp [intOf]; omega
                    · obtain rfl : n1 = k := by omega
                      go_wp2
                      go_round
                      case rel => exact ⟨b + 1, by omega, by go_num, by simp only [allTo]; rw [HP.out]⟩
                      case measure => simp [intOf]; omega
              · obtain rfl : b = 2 := by omega
                go_wp2_with fail
                go_loop [17, 18, 19] (fun x y i => ∃ k : Nat, k ≤ n1 ∧ i = .int .i64 k ∧ x = .bool (allTo (pU m n1) k) ∧ y = .bool (allTo (pC m n1) k)) (fun _ _ i => n1 - (intOf i).toNat)
                case atStart => exact ⟨0, Nat.zero_le _, rfl, rfl, rfl⟩
                case round =>
                  obtain ⟨k, hk, rfl, rfl, rfl⟩ := hrel
                  by_cases hkn : k < n1
                  · rcases hH.us with e0 | ⟨b', off, rfl, hlt, hc⟩
                    · omega
                    have hck := hc k hkn
                    go_wp2_with fail
                    go_loop [17, 18, 20] (fun x y i => ∃ j : Nat, j ≤ n1 ∧ i = .int .i64 j ∧ x = .bool (allTo (pU m n1) k && allTo (qU m k) j) ∧ y = .bool (allTo (pC m n1) k && allTo (qC m k) j)) (fun _ _ i => n1 - (intOf i).toNat)
                    case atStart => exact ⟨0, Nat.zero_le _, rfl, by simp [allTo], by simp [allTo]⟩
                    case round =>
                      obtain ⟨j, hj, rfl, rfl, rfl⟩ := hrel
                      by_cases hjn : j < n1
                      · have hcj := hc j hjn
                        clear hc
                        go_upto_region 49 with fail
                        go_cut [154] from 137 to 173 (fun v wx => v = .bool (hold (m k) 0 1 && hold (m j) 1 1) ∧ wx = W)
                        case first =>
                          generalize hq : hold (m k) 0 1 = q
                          have HQ : Hid (hold (m k) 0 1 = q) := hq
                          clear hq
                          cases q
                          · go_wp2_with fail
                            refine (hold_is (m k) 0 1 false HQ.out (.inl rfl) (.inr rfl) _).mono ?_
                            rintro e w9 ⟨rfl, hw⟩
                            obtain rfl := hw.symm
                            clear hw
                            go_wp2_with fail
                            go_meet
                            exact ⟨by rw [HQ.out]; rfl, rfl⟩
                          · go_wp2_with fail
                            refine (hold_is (m k) 0 1 true HQ.out (.inl rfl) (.inr rfl) _).mono ?_
                            rintro e w9 ⟨rfl, hw⟩
                            obtain rfl := hw.symm
                            clear hw
                            go_wp2_with fail
                            refine (hold_any (m j) 1 1 (.inr rfl) (.inr rfl) _).mono ?_
                            rintro e w9 ⟨rfl, hw⟩
                            obtain rfl := hw.symm
                            clear hw
                            go_wp2_with fail
                            go_meet
                            exact ⟨by rw [HQ.out]; rfl, rfl⟩
                        case rest =>
                          obtain ⟨rfl, hw⟩ := hcut
                          obtain rfl := hw.symm
                          clear hw
                          go_upto_if 154 with fail
                          go_cut [17] from 137 to 173 (fun v wx => v = .bool (allTo (pU m n1) k && allTo (qU m k) (j + 1)) ∧ wx = W)
                          case first =>
                            generalize hq : (hold (m k) 0 1 && hold (m j) 1 1) = q
                            have HQ : Hid ((hold (m k) 0 1 && hold (m j) 1 1) = q) := hq
                            clear hq
                            cases q
                            · have HP : Hid (qU m k j = true) := by show qU m k j = true; unfold qU; rw [HQ.out]; rfl
                              go_wp2_with fail
                              go_meet
                              exact ⟨by rw [allTo_no _ HP.out], rfl⟩
                            · have HP : Hid (qU m k j = false) := by show qU m k j = false; unfold qU; rw [HQ.out]; rfl
                              go_wp2_with fail
                              go_meet
                              exact ⟨by rw [← allTo_yes _ HP.out], rfl⟩
                          case rest =>
                            obtain ⟨rfl, hw⟩ := hcut
                            obtain rfl := hw.symm
                            clear hw
                            go_wp2_with fail
                            go_loop [18, 21] (fun y i => ∃ b : Nat, b ≤ 2 ∧ i = .int .i64 b ∧ y = .bool (allTo (pC m n1) k && allTo (qC m k) j && allTo (rC m k j) b)) (fun _ i => 2 - (intOf i).toNat)
                            case atStart => exact ⟨0, Nat.zero_le _, rfl, by simp [allTo]⟩
                            case round =>
                              obtain ⟨b, hb, rfl, rfl⟩ := hrel
                              by_cases hb2 : b < 2
                              · have HB : Hid ((b : Int) = 0 ∨ (b : Int) = 1) := (by omega : (b : Int) = 0 ∨ (b : Int) = 1)
                                generalize hq : hold (m k) b 1 = q
                                generalize hr : ob (m j) b = r
                                have HQ : Hid (hold (m k) b 1 = q) := hq
                                have HR : Hid (ob (m j) b = r) := hr
                                clear hq hr
                                cases q
                                · have HP : Hid (rC m k j b = true) := by show rC m k j b = true; unfold rC; rw [HQ.out]; rfl
                                  go_wp2_with fail
                                  refine (hold_is (m k) b 1 false HQ.out HB.out (.inr rfl) _).mono ?_
                                  rintro e w9 ⟨rfl, hw⟩
                                  obtain rfl := hw.symm
                                  clear hw
                                  go_wp2
                                  go_round
                                  case rel => exact ⟨b + 1, by omega, by go_num, by rw [allTo_no _ HP.out]⟩
                                  case measure => simp [intOf]; omega
                                · cases r
                                  · have HP : Hid (rC m k j b = false) := by show rC m k j b = false; unfold rC; rw [HQ.out, HR.out]; rfl
                                    go_wp2_with fail
                                    refine (hold_is (m k) b 1 true HQ.out HB.out (.inr rfl) _).mono ?_
                                    rintro e w9 ⟨rfl, hw⟩
                                    obtain rfl := hw.symm
                                    clear hw
                                    go_wp2_with fail
                                    refine (ob_is (m j) b false HR.out HB.out _).mono ?_
                                    rintro e w9 ⟨rfl, hw⟩
                                    obtain rfl := hw.symm
                                    clear hw
                                    go_wp2
                                    go_round
                                    case rel => exact ⟨b + 1, by omega, by go_num, by rw [← allTo_yes _ HP.out]⟩
                                    case measure => simp [intOf]; omega
                                  · have HP : Hid (rC m k j b = true) := by show rC m k j b = true; unfold rC; rw [HQ.out, HR.out]; rfl
                                    go_wp2_with fail
                                    refine (hold_is (m k) b 1 true HQ.out HB.out (.inr rfl) _).mono ?_
                                    rintro e w9 ⟨rfl, hw⟩
                                    obtain rfl := hw.symm
                                    clear hw
                                    go_wp2_with fail
                                    refine (ob_is (m j) b true HR.out HB.out _).mono ?_
                                    rintro e w9 ⟨rfl, hw⟩
                                    obtain rfl := hw.symm
                                    clear hw
                                    go_wp2
                                    go_round
                                    case rel => exact ⟨b + 1, by omega, by go_num, by rw [allTo_no _ HP.out]⟩
                                    case measure => simp [intOf]; omega
                              · obtain rfl : b = 2 := by omega
                                go_wp2
                                go_round
                                case rel => exact ⟨j + 1, by omega, by go_num, rfl, congrArg Value.bool (Bool.and_assoc _ _ _)⟩
                                case measure => simp [intOf]; omega
                      · obtain rfl : n1 = j := by omega
                        go_wp2
                        go_round
                        case rel => exact ⟨k + 1, by omega, by go_num, rfl, rfl⟩
                        case measure => simp [intOf]; omega
                  · obtain rfl : n1 = k := by omega
                    have hl := run_len4 M _ _ _ _ W hH.m
                    go_wp2_with fail
                    refine (is_true M _ _ _ _ _ hH.m _ 0 (.inl rfl) (by simp [pick4])).mono ?_
                    rintro e w9 ⟨rfl, hw⟩
                    obtain rfl := hw.symm
                    clear hw
                    go_wp2_with fail
                    refine (is_true M _ _ _ _ _ hH.m _ 1 (.inr (.inl rfl)) (by simp [pick4])).mono ?_
                    rintro e w9 ⟨rfl, hw⟩
                    obtain rfl := hw.symm
                    clear hw
                    go_wp2_with fail
                    refine (is_true M _ _ _ _ _ hH.m _ 2 (.inr (.inr (.inl rfl))) (by simp [pick4])).mono ?_
                    rintro e w9 ⟨rfl, hw⟩
                    obtain rfl := hw.symm
                    clear hw
                    go_wp2_with fail
                    refine (is_true M _ _ _ _ _ hH.m _ 3 (.inr (.inr (.inr rfl))) (by simp [pick4])).mono ?_
                    rintro e w9 ⟨rfl, hw⟩
                    obtain rfl := hw.symm
                    clear hw
                    go_wp2_with fail
                    go_ret
                    exact ⟨rfl, hH.b⟩
end Go.Proofs.Qxb6600356a.Ck
