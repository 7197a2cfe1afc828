import Derived.Test.Qxb6600356aCk5
namespace Go.Proofs.Qxb6600356a.Ck
open Go.RowKit Go.Proofs.Qxb6600356a.Tb

/-- A map of four properties came back, in a new block. -/
def Kmap (v0 v1 v2 v3 : Bool) (w : World) (e : Ending) (w' : World) : Prop := ∃ M, e = .returned (.map (some M)) ∧ w'.heap[M]? = some (km v0 v1 v2 v3) ∧ Below w.heap.size w w'

set_option linter.unusedSimpArgs false in
set_option maxRecDepth 100000 in
set_option maxHeartbeats 1000000 in
theorem check_any (a : Option Addr) (ni c : Nat) (f : Nat → Int) (g n c' : Nat) (o : Nat → O4) (w : World) (hni : ni ≤ 1048576) (hn : n ≤ 4096) (hu : Us w a f ni) (hf : ∀ i, i < ni → f i = 0 ∨ f i = 1)
    (hg : g < w.heap.size) (ho : ∀ i, i < n → w.rangeAt g (i * 4) (o i).cells) :
    Calls Try.prog 23 #[.slice a ni c, .slice (some ⟨g, 0, none⟩) n c'] w fun e w' => Kmap (gcT o n 2) (inT f ni o n 2) (vaT f ni o n 2) (unT o n) w e w' := by
  go_enter Try.func23, Try.ntmps23
  go_wp2_with fail
  go_loopw [19] (fun i wr => ∃ k : Nat, k ≤ ni ∧ i = .int .i64 k ∧ Tab wr w.heap.size 31 2 (irow f k) ∧ Below w.heap.size w wr) (fun i _ => ni - (intOf i).toNat)
  case atStart =>
    refine ⟨0, Nat.zero_le _, rfl, Tab.fresh w _ 31 2 rfl _ (fun j hj => ?_), (Below.refl _ _).alloc (Nat.le_refl _) _⟩
    match j, hj with
    | 0, _ => rfl
    | 1, _ => rfl
  case round =>
    obtain ⟨k, hk, rfl, ht, hb⟩ := hrel
    by_cases hkn : k < ni
    · rcases hu with h0 | ⟨b, off, rfl, hlt, hc⟩
      · omega
      have hck : wr.cell? ⟨b, off + k, none⟩ = some (.int .u8 (f k)) := by rw [hb.cell hlt]; exact hc k hkn
      rcases hf k hkn with h0 | h1
      · rw [h0] at hck
        have H0 : Hid (f k = 0) := h0
        clear hc ho h0 hf
        go_wp2_with (refine st4t w.heap.size 0 rfl ht (by omega) ?_)
        intro w1 hw1
        have T1 := irow_done ht hw1 H0.out
        have hb1 : Below w.heap.size w w1 := by rw [hw1]; exact hb.setCell (Nat.le_refl _) _
        clear hw1 ht hck hb
        go_wp2
        go_roundw
        case rel => exact ⟨k + 1, by omega, by go_num, T1, hb1⟩
        case measure => simp [intOf]; omega
      · rw [h1] at hck
        have H1 : Hid (f k = 1) := h1
        clear hc ho h1 hf
        go_wp2_with (refine st4t w.heap.size 1 rfl ht (by omega) ?_)
        intro w1 hw1
        have T1 := irow_done ht hw1 H1.out
        have hb1 : Below w.heap.size w w1 := by rw [hw1]; exact hb.setCell (Nat.le_refl _) _
        clear hw1 ht hck hb
        go_wp2
        go_roundw
        case rel => exact ⟨k + 1, by omega, by go_num, T1, hb1⟩
        case measure => simp [intOf]; omega
    · obtain rfl : ni = k := by omega
      clear hf hu
      have hSl := ht.lt
      have ht1 := fun o => ht.alloc o
      have hb1 := fun o => hb.alloc hb.size o
      have hS1 := Tab.fresh wr #[.bool false, .bool false, .bool false, .bool false] 33 4 rfl (srow o 0 0) (fun j hj => by
        match j, hj with
        | 0, _ => rfl
        | 1, _ => rfl
        | 2, _ => rfl
        | 3, _ => rfl)
      clear ht hb
      go_wp2_with fail
      have hsz : w.heap.size ≤ wr.heap.size := by omega
      generalize wr.heap.size = S at *
      go_loopw [28] (fun i wr => ∃ k : Nat, k ≤ n ∧ i = .int .i64 k ∧ Tab wr w.heap.size 31 2 (irow f ni) ∧ Tab wr S 33 4 (srow o k 0) ∧ Below w.heap.size w wr) (fun i _ => n - (intOf i).toNat)
      case atStart => exact ⟨0, Nat.zero_le _, rfl, ht1 _, hS1, hb1 _⟩
      case round =>
        obtain ⟨k, hk, rfl, hi, hs, hb⟩ := hrel
        by_cases hkn : k < n
        · have hr : wr.rangeAt g (k * 4) (o k).cells := fun j v hv => by rw [hb.cell hg]; exact ho k hkn j v hv
          clear ho ht1 hb1 hS1
          go_wp2_with (refine ld33 g (k * 4) (o k) rfl hr ?_)
          have hi1 := hi.alloc (.cells #[.bool (o k).a, .bool (o k).b, .bool (o k).c, .bool (o k).d] 33)
          have hs1 := hs.alloc (.cells #[.bool (o k).a, .bool (o k).b, .bool (o k).c, .bool (o k).d] 33)
          have hb1 := hb.alloc hb.size (.cells #[.bool (o k).a, .bool (o k).b, .bool (o k).c, .bool (o k).d] 33)
          have hT1 := Tab.fresh wr #[.bool (o k).a, .bool (o k).b, .bool (o k).c, .bool (o k).d] 33 4 rfl (fun j => .bool ((o k).at j)) (fun j hj => by
            match j, hj with
            | 0, _ => rfl
            | 1, _ => rfl
            | 2, _ => rfl
            | 3, _ => rfl)
          have hST := hs.lt
          clear hi hs hb hr
          generalize wr.heap.size = T at *
          generalize (o k).val = oval
          go_loopw [32] (fun i wq => ∃ b : Nat, b ≤ 2 ∧ i = .int .i64 b ∧ Tab wq w.heap.size 31 2 (irow f ni) ∧ Tab wq S 33 4 (srow o k (2 * b)) ∧ Tab wq T 33 4 (fun j => .bool ((o k).at j)) ∧ Below w.heap.size w wq) (fun i _ => 2 - (intOf i).toNat)
          case atStart => exact ⟨0, Nat.zero_le _, rfl, hi1, hs1, hT1, hb1⟩
          case round =>
            obtain ⟨b, hb2, rfl, hi, hs, hT, hb⟩ := hrel
            clear hi1 hs1 hb1 hT1
            by_cases hb2' : b < 2
            · go_wp2_with fail
              go_loopw [35] (fun i wq => ∃ q : Nat, q ≤ 2 ∧ i = .int .i64 q ∧ Tab wq w.heap.size 31 2 (irow f ni) ∧ Tab wq S 33 4 (srow o k (2 * b + q)) ∧ Tab wq T 33 4 (fun j => .bool ((o k).at j)) ∧ Below w.heap.size w wq) (fun i _ => 2 - (intOf i).toNat)
              case atStart => exact ⟨0, Nat.zero_le _, rfl, hi, hs, hT, hb⟩
              case round =>
                obtain ⟨q, hq2, rfl, hi, hs, hT, hb⟩ := hrel
                by_cases hq2' : q < 2
                · have hs0 := hs.cell (2 * b + q) (by omega)
                  rw [srow_at] at hs0
                  generalize hse : sm o k (2 * b + q) = s at hs0
                  have HS : Hid (sm o k (2 * b + q) = s) := hse
                  have hx := hT.cell (2 * b + q) (by omega)
                  generalize hxe : (o k).at (2 * b + q) = x at hx
                  have HX : Hid ((o k).at (2 * b + q) = x) := hxe
                  have hfr := hs.free (2 * b + q)
                  obtain rfl | rfl : b = 0 ∨ b = 1 := by omega
                  · obtain rfl | rfl : q = 0 ∨ q = 1 := by omega
                    · simp only [Nat.mul_zero, Nat.mul_one, Nat.zero_add, Nat.add_zero] at hs0 hx hfr HS HX hs
                      clear hse hxe
                      have hsfr := hfr
                      cases s
                      · go_wp2_with fail
                        go_region
                        have hs2 := srow_done hs rfl (show x = (sm o k 0 || (o k).at 0) by rw [HS.out, HX.out]; simp)
                        have hi2 := hi.setOther ⟨S, 0, none⟩ (by show S ≠ w.heap.size; omega) (.bool x)
                        have hT2 := hT.setOther ⟨S, 0, none⟩ (by show S ≠ T; omega) (.bool x)
                        have hb2 := (hb.setCell (p := ⟨S, 0, none⟩) (by show w.heap.size ≤ S; omega) (.bool x)).drew
                        clear hs hi hT hb
                        go_wp2
                        go_roundw
                        case rel => exact ⟨1, by omega, by go_num, hi2.kept rfl, hs2.kept rfl, hT2.kept rfl, hb2⟩
                        case measure => simp [intOf]
                      · go_wp2_with fail
                        go_region
                        have hs2 := srow_done hs rfl (show true = (sm o k 0 || (o k).at 0) by rw [HS.out, HX.out]; simp)
                        have hi2 := hi.setOther ⟨S, 0, none⟩ (by show S ≠ w.heap.size; omega) (.bool true)
                        have hT2 := hT.setOther ⟨S, 0, none⟩ (by show S ≠ T; omega) (.bool true)
                        have hb2 := (hb.setCell (p := ⟨S, 0, none⟩) (by show w.heap.size ≤ S; omega) (.bool true)).drew
                        clear hs hi hT hb
                        go_wp2
                        go_roundw
                        case rel => exact ⟨1, by omega, by go_num, hi2.kept rfl, hs2.kept rfl, hT2.kept rfl, hb2⟩
                        case measure => simp [intOf]
                    · simp only [Nat.mul_zero, Nat.mul_one, Nat.zero_add, Nat.add_zero] at hs0 hx hfr HS HX hs
                      clear hse hxe
                      have hsfr := hfr
                      cases s
                      · go_wp2_with fail
                        go_region
                        have hs2 := srow_done hs rfl (show x = (sm o k 1 || (o k).at 1) by rw [HS.out, HX.out]; simp)
                        have hi2 := hi.setOther ⟨S, 1, none⟩ (by show S ≠ w.heap.size; omega) (.bool x)
                        have hT2 := hT.setOther ⟨S, 1, none⟩ (by show S ≠ T; omega) (.bool x)
                        have hb2 := (hb.setCell (p := ⟨S, 1, none⟩) (by show w.heap.size ≤ S; omega) (.bool x)).drew
                        clear hs hi hT hb
                        go_wp2
                        go_roundw
                        case rel => exact ⟨2, by omega, by go_num, hi2.kept rfl, hs2.kept rfl, hT2.kept rfl, hb2⟩
                        case measure => simp [intOf]
                      · go_wp2_with fail
                        go_region
                        have hs2 := srow_done hs rfl (show true = (sm o k 1 || (o k).at 1) by rw [HS.out, HX.out]; simp)
                        have hi2 := hi.setOther ⟨S, 1, none⟩ (by show S ≠ w.heap.size; omega) (.bool true)
                        have hT2 := hT.setOther ⟨S, 1, none⟩ (by show S ≠ T; omega) (.bool true)
                        have hb2 := (hb.setCell (p := ⟨S, 1, none⟩) (by show w.heap.size ≤ S; omega) (.bool true)).drew
                        clear hs hi hT hb
                        go_wp2
                        go_roundw
                        case rel => exact ⟨2, by omega, by go_num, hi2.kept rfl, hs2.kept rfl, hT2.kept rfl, hb2⟩
                        case measure => simp [intOf]
                  · obtain rfl | rfl : q = 0 ∨ q = 1 := by omega
                    · simp only [Nat.mul_zero, Nat.mul_one, Nat.zero_add, Nat.add_zero] at hs0 hx hfr HS HX hs
                      clear hse hxe
                      have hsfr := hfr
                      cases s
                      · go_wp2_with fail
                        go_region
                        have hs2 := srow_done hs rfl (show x = (sm o k 2 || (o k).at 2) by rw [HS.out, HX.out]; simp)
                        have hi2 := hi.setOther ⟨S, 2, none⟩ (by show S ≠ w.heap.size; omega) (.bool x)
                        have hT2 := hT.setOther ⟨S, 2, none⟩ (by show S ≠ T; omega) (.bool x)
                        have hb2 := (hb.setCell (p := ⟨S, 2, none⟩) (by show w.heap.size ≤ S; omega) (.bool x)).drew
                        clear hs hi hT hb
                        go_wp2
                        go_roundw
                        case rel => exact ⟨1, by omega, by go_num, hi2.kept rfl, hs2.kept rfl, hT2.kept rfl, hb2⟩
                        case measure => simp [intOf]
                      · go_wp2_with fail
                        go_region
                        have hs2 := srow_done hs rfl (show true = (sm o k 2 || (o k).at 2) by rw [HS.out, HX.out]; simp)
                        have hi2 := hi.setOther ⟨S, 2, none⟩ (by show S ≠ w.heap.size; omega) (.bool true)
                        have hT2 := hT.setOther ⟨S, 2, none⟩ (by show S ≠ T; omega) (.bool true)
                        have hb2 := (hb.setCell (p := ⟨S, 2, none⟩) (by show w.heap.size ≤ S; omega) (.bool true)).drew
                        clear hs hi hT hb
                        go_wp2
                        go_roundw
                        case rel => exact ⟨1, by omega, by go_num, hi2.kept rfl, hs2.kept rfl, hT2.kept rfl, hb2⟩
                        case measure => simp [intOf]
                    · simp only [Nat.mul_zero, Nat.mul_one, Nat.zero_add, Nat.add_zero] at hs0 hx hfr HS HX hs
                      clear hse hxe
                      have hsfr := hfr
                      cases s
                      · go_wp2_with fail
                        go_region
                        have hs2 := srow_done hs rfl (show x = (sm o k 3 || (o k).at 3) by rw [HS.out, HX.out]; simp)
                        have hi2 := hi.setOther ⟨S, 3, none⟩ (by show S ≠ w.heap.size; omega) (.bool x)
                        have hT2 := hT.setOther ⟨S, 3, none⟩ (by show S ≠ T; omega) (.bool x)
                        have hb2 := (hb.setCell (p := ⟨S, 3, none⟩) (by show w.heap.size ≤ S; omega) (.bool x)).drew
                        clear hs hi hT hb
                        go_wp2
                        go_roundw
                        case rel => exact ⟨2, by omega, by go_num, hi2.kept rfl, hs2.kept rfl, hT2.kept rfl, hb2⟩
                        case measure => simp [intOf]
                      · go_wp2_with fail
                        go_region
                        have hs2 := srow_done hs rfl (show true = (sm o k 3 || (o k).at 3) by rw [HS.out, HX.out]; simp)
                        have hi2 := hi.setOther ⟨S, 3, none⟩ (by show S ≠ w.heap.size; omega) (.bool true)
                        have hT2 := hT.setOther ⟨S, 3, none⟩ (by show S ≠ T; omega) (.bool true)
                        have hb2 := (hb.setCell (p := ⟨S, 3, none⟩) (by show w.heap.size ≤ S; omega) (.bool true)).drew
                        clear hs hi hT hb
                        go_wp2
                        go_roundw
                        case rel => exact ⟨2, by omega, by go_num, hi2.kept rfl, hs2.kept rfl, hT2.kept rfl, hb2⟩
                        case measure => simp [intOf]
                · obtain rfl : q = 2 := by omega
                  go_wp2
                  go_roundw
                  case rel => exact ⟨b + 1, by omega, by go_num, hi, hs, hT, hb⟩
                  case measure => simp [intOf]; omega
            · obtain rfl : b = 2 := by omega
              have hs2 := srow_next hs
              clear hs hT
              go_wp2
              go_roundw
              case rel => exact ⟨k + 1, by omega, by go_num, hi, hs2, hb⟩
              case measure => simp [intOf]; omega
        · obtain rfl : n = k := by omega
          clear ht1 hb1 hS1
          have hK0 : Kept w f ni o n S wr.heap.size k0 (wr.alloc k0) := ⟨hi.alloc _, hs.alloc _, hb.alloc hb.size _, heap_alloc_new wr _⟩
          have hSM := hs.lt
          have hmk := run_mk wr
          clear hi hs hb
          go_upto_region 21 with fail
          generalize wr.heap.size = M at *
          go_cut [13] from 57 (fun v wc => v = .map (some M) ∧ Kept w f ni o n S M (km true true true (unT o n)) wc)
          case first =>
            go_wp2_with (refine ins46 M true (k1 true) rfl rfl (new1 M true _ hK0.m) ?_)
            intro w1 hw1
            have hK1 := hK0.set hw1 (by omega) (by omega)
            clear hw1 hK0 hmk
            go_wp2_with (refine ins46 M true (k2 true true) rfl rfl (new2 M true true _ hK1.m) ?_)
            intro w2 hw2
            have hK2 := hK1.set hw2 (by omega) (by omega)
            clear hw2 hK1
            go_wp2_with (refine ins46 M true (k3 true true true) rfl rfl (new3 M true true true _ hK2.m) ?_)
            intro w3 hw3
            have hK3 := hK2.set hw3 (by omega) (by omega)
            clear hw3 hK2
            have c1 := hK3.s.cell 1 (by omega)
            have c3 := hK3.s.cell 3 (by omega)
            simp only [srow, Nat.not_lt_zero, decide_false, Bool.false_and, Bool.or_false] at c1 c3
            generalize hs1 : sm o n 1 = s1 at c1
            generalize hs3 : sm o n 3 = s3 at c3
            have H1 : Hid (sm o n 1 = s1) := hs1
            have H3 : Hid (sm o n 3 = s3) := hs3
            clear hs1 hs3
            cases s1
            · have hn4 := new4 M true true true true _ hK3.m
              have hK4 := hK3.set (m' := km true true true true) rfl (by omega) (by omega)
              clear hK3
              go_wp2_with fail
              go_meet
              exact ⟨rfl, by rw [show unT o n = true by unfold unT; rw [H1.out]; rfl]; exact hK4⟩
            · have hn4 := new4 M true true true (!s3) _ hK3.m
              have hK4 := hK3.set (m' := km true true true (!s3)) rfl (by omega) (by omega)
              clear hK3
              go_wp2_with fail
              go_meet
              exact ⟨rfl, by rw [show unT o n = !s3 by unfold unT; rw [H1.out, H3.out]; rfl]; exact hK4⟩
          case rest =>
            obtain ⟨rfl, hK⟩ := hcut
            clear hK0 hmk
            go_wp2_with fail
            go_loopw [69] (fun i wq => ∃ b : Nat, b ≤ 2 ∧ i = .int .i64 b ∧ Kept w f ni o n S M (km (gcT o n b) (inT f ni o n b) (vaT f ni o n b) (unT o n)) wq) (fun i _ => 2 - (intOf i).toNat)
            case atStart => exact ⟨0, Nat.zero_le _, rfl, hK⟩
            case round =>
              obtain ⟨b, hb2, rfl, hK⟩ := hrel
              by_cases hb2' : b < 2
              · have HB : Hid ((b : Int) = 0 ∨ (b : Int) = 1) := (by omega : (b : Int) = 0 ∨ (b : Int) = 1)
                go_upto_region 25 with fail
                go_cut [69, 80] from 69 to 118 (fun i v wc => i = .int .i64 b ∧ v = .bool ((SO o n).any b && !inb f ni b) ∧ Kept w f ni o n S M (km (gcT o n b) (inT f ni o n b) (vaT f ni o n b) (unT o n)) wc)
                case first =>
                  have hr := hK.range
                  generalize hq : (SO o n).any b = q
                  have HQ : Hid ((SO o n).any b = q) := hq
                  clear hq
                  cases q
                  · go_wp2_with (refine ld33 S 0 (SO o n) rfl hr ?_)
                    refine (outputs_is (SO o n) b false HQ.out HB.out _).mono ?_
                    rintro e w1 ⟨rfl, hb1⟩
                    have hK1 := hK.below hb1
                    clear hr hb1 hK
                    go_wp2_with fail
                    go_meet
                    exact ⟨rfl, by rw [HQ.out]; rfl, hK1⟩
                  · go_wp2_with (refine ld33 S 0 (SO o n) rfl hr ?_)
                    refine (outputs_is (SO o n) b true HQ.out HB.out _).mono ?_
                    rintro e w1 ⟨rfl, hb1⟩
                    have hK1 := hK.below hb1
                    have ci : w1.cell? ⟨w.heap.size, b, none⟩ = some (.bool (inb f ni b)) := hK1.i.cell b hb2'
                    clear hr hb1 hK
                    go_wp2_with fail
                    go_meet
                    exact ⟨rfl, by rw [HQ.out]; rfl, hK1⟩
                case rest =>
                  obtain ⟨rfl, rfl, hK1⟩ := hcut
                  clear hK
                  go_upto_if 80 with fail
                  go_cut [69] from 69 to 118 (fun i wc => i = .int .i64 b ∧ Kept w f ni o n S M (km (gcT o n b) (inT f ni o n (b + 1)) (vaT f ni o n b) (unT o n)) wc)
                  case first =>
                    generalize hq : ((SO o n).any b && !inb f ni b) = q
                    have HQ : Hid (((SO o n).any b && !inb f ni b) = q) := hq
                    clear hq
                    cases q
                    · go_wp2_with fail
                      go_meet
                      exact ⟨rfl, by rw [inT_no HQ.out]; exact hK1⟩
                    · have ho1 := old1 M _ _ _ _ false _ hK1.m
                      have hK2 := hK1.set (m' := km (gcT o n b) false (vaT f ni o n b) (unT o n)) rfl (by omega) (by omega)
                      clear hK1
                      go_wp2_with fail
                      go_meet
                      exact ⟨rfl, by rw [inT_yes HQ.out]; exact hK2⟩
                  case rest =>
                    obtain ⟨rfl, hK2⟩ := hcut
                    clear hK1
                    go_wp2_with fail
                    go_loopw [84] (fun i wq => ∃ k : Nat, k ≤ n ∧ i = .int .i64 k ∧ Kept w f ni o n S M (km (gcT o n b && allTo (pgc o n b) k) (inT f ni o n (b + 1)) (vaT f ni o n b && allTo (pva f ni o b) k) (unT o n)) wq) (fun i _ => n - (intOf i).toNat)
                    case atStart => exact ⟨0, Nat.zero_le _, rfl, by simpa [allTo] using hK2⟩
                    case round =>
                      obtain ⟨k, hk, rfl, hK⟩ := hrel
                      clear hK2
                      by_cases hkn : k < n
                      · have hr : wr.rangeAt g (k * 4) (o k).cells := fun j v hv => by rw [hK.b.cell hg]; exact ho k hkn j v hv
                        clear ho
                        go_upto_region 30 with (refine ld33 g (k * 4) (o k) rfl hr ?_)
                        have hK3 := hK.alloc (.cells #[.bool (o k).a, .bool (o k).b, .bool (o k).c, .bool (o k).d] 33)
                        have hT := Tab.fresh wr #[.bool (o k).a, .bool (o k).b, .bool (o k).c, .bool (o k).d] 33 4 rfl (fun j => .bool ((o k).at j)) (fun j hj => by
                          match j, hj with
                          | 0, _ => rfl
                          | 1, _ => rfl
                          | 2, _ => rfl
                          | 3, _ => rfl)
                        have hMT := lt_of_block hK.m
                        clear hK hr
                        generalize wr.alloc (.cells #[.bool (o k).a, .bool (o k).b, .bool (o k).c, .bool (o k).d] 33) = wa at *
                        generalize wr.heap.size = T at *
                        go_cut [84, 97] from 84 to 117 (fun i v wc => i = .int .i64 k ∧ v = .bool (sm o n (2 * b + 1) && !(o k).any b) ∧ Kept w f ni o n S M (km (gcT o n b && allTo (pgc o n b) k) (inT f ni o n (b + 1)) (vaT f ni o n b && allTo (pva f ni o b) k) (unT o n)) wc ∧ Tab wc T 33 4 (fun j => .bool ((o k).at j)))
                        case first =>
                          have c1 : wa.cell? ⟨S, b * 2 + 1, none⟩ = some (.bool (sm o n (2 * b + 1))) := by
                            rw [hK3.s.cell (b * 2 + 1) (by omega), show b * 2 + 1 = 2 * b + 1 by omega]
                            simp [srow]
                          generalize hs : sm o n (2 * b + 1) = q at c1
                          have HS : Hid (sm o n (2 * b + 1) = q) := hs
                          clear hs
                          cases q
                          · go_wp2_with fail
                            go_meet
                            exact ⟨rfl, by rw [HS.out]; rfl, hK3, hT⟩
                          · have t0 : wa.cell? ⟨T, 0, none⟩ = some (.bool (o k).a) := hT.cell 0 (by omega)
                            have t1 : wa.cell? ⟨T, 1, none⟩ = some (.bool (o k).b) := hT.cell 1 (by omega)
                            have t2 : wa.cell? ⟨T, 2, none⟩ = some (.bool (o k).c) := hT.cell 2 (by omega)
                            have t3 : wa.cell? ⟨T, 3, none⟩ = some (.bool (o k).d) := hT.cell 3 (by omega)
                            go_wp2_with fail
                            refine (outputs_any (o k) b HB.out _).mono ?_
                            rintro e w1 ⟨rfl, hb1⟩
                            have hK4 := hK3.below hb1
                            have hT4 := hT.below hb1
                            clear hK3 hT hb1 c1 t0 t1 t2 t3
                            go_wp2_with fail
                            go_meet
                            exact ⟨rfl, by rw [HS.out]; rfl, hK4, hT4⟩
                        case rest =>
                          obtain ⟨rfl, rfl, hK4, hT4⟩ := hcut
                          clear hK3 hT
                          go_upto_if 97 with fail
                          go_cut [84] from 84 to 117 (fun i wc => i = .int .i64 k ∧ Kept w f ni o n S M (km (gcT o n b && allTo (pgc o n b) (k + 1)) (inT f ni o n (b + 1)) (vaT f ni o n b && allTo (pva f ni o b) k) (unT o n)) wc ∧ Tab wc T 33 4 (fun j => .bool ((o k).at j)))
                          case first =>
                            generalize hq : (sm o n (2 * b + 1) && !(o k).any b) = q
                            have HQ : Hid ((sm o n (2 * b + 1) && !(o k).any b) = q) := hq
                            clear hq
                            cases q
                            · go_wp2_with fail
                              go_meet
                              exact ⟨rfl, by rw [gc_no HQ.out]; exact hK4, hT4⟩
                            · have ho0 := old0 M _ _ _ _ false _ hK4.m
                              have hK5 := hK4.set (m' := km false (inT f ni o n (b + 1)) (vaT f ni o n b && allTo (pva f ni o b) k) (unT o n)) rfl (by omega) (by omega)
                              have hT5 := hT4.kept (setMap_other (o' := km false (inT f ni o n (b + 1)) (vaT f ni o n b && allTo (pva f ni o b) k) (unT o n)) hK4.m T (by omega))
                              clear hK4 hT4
                              go_wp2_with fail
                              go_meet
                              exact ⟨rfl, by rw [gc_yes HQ.out]; exact hK5, hT5⟩
                          case rest =>
                            obtain ⟨rfl, hK5, hT5⟩ := hcut
                            clear hK4 hT4
                            go_upto_region 32 with fail
                            go_cut [84, 115] from 84 to 117 (fun i v wc => i = .int .i64 k ∧ v = .bool (inb f ni b && !inb f ni (1 - b) && !(o k).one b) ∧ Kept w f ni o n S M (km (gcT o n b && allTo (pgc o n b) (k + 1)) (inT f ni o n (b + 1)) (vaT f ni o n b && allTo (pva f ni o b) k) (unT o n)) wc)
                            case first =>
                              obtain ⟨hKi, hKs, hKb, hKm⟩ := hK5
                              have hK5 : Hid (Kept w f ni o n S M (km (gcT o n b && allTo (pgc o n b) (k + 1)) (inT f ni o n (b + 1)) (vaT f ni o n b && allTo (pva f ni o b) k) (unT o n)) wc) := ⟨hKi, hKs, hKb, hKm⟩
                              have i0 : wc.cell? ⟨w.heap.size, 0, none⟩ = some (.bool (inb f ni 0)) := hKi.cell 0 (by omega)
                              have i1 : wc.cell? ⟨w.heap.size, 1, none⟩ = some (.bool (inb f ni 1)) := hKi.cell 1 (by omega)
                              have t1 : wc.cell? ⟨T, 1, none⟩ = some (.bool ((o k).one 0)) := hT5.cell 1 (by omega)
                              have t3 : wc.cell? ⟨T, 3, none⟩ = some (.bool ((o k).one 1)) := hT5.cell 3 (by omega)
                              clear hKi hKs hKb hKm hT5
                              generalize h0 : inb f ni 0 = q0 at i0
                              generalize h1 : inb f ni 1 = q1 at i1
                              have H0 : Hid (inb f ni 0 = q0) := h0
                              have H1 : Hid (inb f ni 1 = q1) := h1
                              clear h0 h1
                              obtain rfl | rfl : b = 0 ∨ b = 1 := by omega
                              · cases q0
                                · go_wp2_with fail
                                  go_meet
                                  exact ⟨rfl, by rw [H0.out]; rfl, hK5.out⟩
                                · cases q1
                                  · go_wp2_with fail
                                    go_meet
                                    exact ⟨rfl, by rw [H0.out, H1.out]; rfl, hK5.out⟩
                                  · go_wp2_with fail
                                    go_meet
                                    exact ⟨rfl, by rw [H0.out, H1.out]; rfl, hK5.out⟩
                              · cases q1
                                · go_wp2_with fail
                                  go_meet
                                  exact ⟨rfl, by rw [H1.out]; rfl, hK5.out⟩
                                · cases q0
                                  · go_wp2_with fail
                                    go_meet
                                    exact ⟨rfl, by rw [H0.out, H1.out]; rfl, hK5.out⟩
                                  · go_wp2_with fail
                                    go_meet
                                    exact ⟨rfl, by rw [H0.out, H1.out]; rfl, hK5.out⟩
                            case rest =>
                              obtain ⟨rfl, rfl, hK6⟩ := hcut
                              clear hK5 hT5
                              generalize hq : (inb f ni b && !inb f ni (1 - b) && !(o k).one b) = q
                              have HQ : Hid ((inb f ni b && !inb f ni (1 - b) && !(o k).one b) = q) := hq
                              clear hq
                              cases q
                              · have hK7 : Kept w f ni o n S M (km (gcT o n b && allTo (pgc o n b) (k + 1)) (inT f ni o n (b + 1)) (vaT f ni o n b && allTo (pva f ni o b) (k + 1)) (unT o n)) wc := by rw [va_no HQ.out]; exact hK6
                                clear hK6
                                go_wp2
                                go_roundw
                                case rel => exact ⟨k + 1, by omega, by go_num, hK7⟩
                                case measure => simp [intOf]; omega
                              · have ho0 := old2 M _ _ _ _ false _ hK6.m
                                have hK7 := hK6.set (m' := km (gcT o n b && allTo (pgc o n b) (k + 1)) (inT f ni o n (b + 1)) false (unT o n)) rfl (by omega) (by omega)
                                clear hK6
                                go_wp2
                                go_roundw
                                case rel => exact ⟨k + 1, by omega, by go_num, by rw [va_yes HQ.out]; exact hK7⟩
                                case measure => simp [intOf]; omega
                      · obtain rfl : n = k := by omega
                        go_wp2
                        go_roundw
                        case rel => exact ⟨b + 1, by omega, by go_num, hK⟩
                        case measure => simp [intOf]; omega
              · obtain rfl : b = 2 := by omega
                go_wp2
                go_ret
                exact ⟨M, rfl, hK.m, hK.b⟩
end Go.Proofs.Qxb6600356a.Ck
