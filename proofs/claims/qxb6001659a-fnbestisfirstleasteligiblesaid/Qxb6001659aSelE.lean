import Derived.Test.Qxb6001659aSelD
import Derived.Deep.RegionWith
import Derived.Deep.DrawnRows
namespace Go.Proofs.Qxb6001659a.Cand
open Go.RowKit Go.Proofs.Qxb6001659a.Tb
attribute [local go_sem ↓] Go.wp_at_zero Go.wp_at_succ

theorem cells7 {w : World} {b o : Nat} {c : Cd} (h : w.rangeAt b o c.cells) :
    w.cell? ⟨b, o, none⟩ = some (.string c.r) ∧ w.cell? ⟨b, o + 1, none⟩ = some (.int .i64 c.p) ∧ w.cell? ⟨b, o + 2, none⟩ = some (.int .i64 c.o) ∧ w.cell? ⟨b, o + 3, none⟩ = some (.bool c.sd) ∧
    w.cell? ⟨b, o + 4, none⟩ = some (.bool c.dc) ∧ w.cell? ⟨b, o + 5, none⟩ = some (.bool c.si) ∧ w.cell? ⟨b, o + 6, none⟩ = some (.bool c.ld) :=
  ⟨h 0 _ rfl, h 1 _ rfl, h 2 _ rfl, h 3 _ rfl, h 4 _ rfl, h 5 _ rfl, h 6 _ rfl⟩

/-- The world behind a call, and what lies in it still. -/
theorem after_call {wr w1 : World} {c : Cd} (hb : Below (wr.alloc (.cells c.arr 42)).drew.heap.size (wr.alloc (.cells c.arr 42)).drew w1) : Box w1 wr.heap.size c ∧ Below wr.heap.size wr w1 := by
  have hb' : Below (wr.alloc (.cells c.arr 42)).heap.size (wr.alloc (.cells c.arr 42)) w1 := ⟨hb.os, hb.tape, hb.output, hb.size, hb.block⟩
  exact ⟨(Box.fresh wr c 42).below hb', (one_box wr _).trans (hb'.mono (by simp))⟩

theorem elig_is (c : Cd) (q : Bool) (h : elig c = q) (w : World) : Calls Try.prog 63 #[c.val] w fun e w' => e = .returned (.bool q) ∧ Below w.heap.size w w' := by
  rw [← h]
  exact elig_any c w
theorem ranks_is (a b : Cd) (q : Bool) (h : before a b = q) (w : World) : Calls Try.prog 64 #[a.val, b.val] w fun e w' => e = .returned (.bool q) ∧ Below w.heap.size w w' := by
  rw [← h]
  exact ranks_any a b w

theorem best_no (cs : List Cd) (k : Nat) (h : elig (at_ cs k) = false) : bestTo cs (k + 1) = bestTo cs k := by
  rw [bestTo, h]
  simp
theorem best_first (cs : List Cd) (k : Nat) (h : elig (at_ cs k) = true) (hb : bestTo cs k < 0) : bestTo cs (k + 1) = k := by
  rw [bestTo, h]
  simp [hb]
theorem best_next (cs : List Cd) (k m : Nat) (h : elig (at_ cs k) = true) (hm : bestTo cs k = m) : bestTo cs (k + 1) = if before (at_ cs k) (at_ cs m) then (k : Int) else (m : Int) := by
  rw [bestTo, h, hm]
  have : decide ((m : Int) < 0) = false := decide_eq_false (by omega)
  simp [this]
theorem best_range (cs : List Cd) (k : Nat) : bestTo cs k = -1 ∨ ∃ m : Nat, bestTo cs k = m ∧ m < k := by
  rcases best_is cs k with ⟨h, _⟩ | ⟨m, h, hm, _⟩
  · exact .inl h
  · exact .inr ⟨m, h, hm⟩

set_option maxHeartbeats 1000000 in
set_option maxRecDepth 100000 in
theorem best_some (b off cap : Nat) (cs : List Cd) (w : World) (hl : cs.length ≤ 4096) (hbb : b < w.heap.size) (hc : ∀ i, i < cs.length → w.rangeAt b (off + i * 7) (at_ cs i).cells) :
    Calls Try.prog 26 #[.slice (some ⟨b, off, none⟩) cs.length cap] w fun e w' => e = .returned (.tuple #[.int .i64 (bestTo cs cs.length), .bool (decide (0 ≤ bestTo cs cs.length))]) ∧ Below w.heap.size w w' := by
  go_enter Try.func26, Try.ntmps26
  go_wp2
  go_loopw [4, 9] (fun v i wr => ∃ k : Nat, k ≤ cs.length ∧ i = .int .i64 k ∧ v = .int .i64 (bestTo cs k) ∧ Below w.heap.size w wr) (fun _ i _ => cs.length - (intOf i).toNat)
  case atStart => exact ⟨0, Nat.zero_le _, rfl, rfl, Below.refl _ _⟩
  case round =>
    obtain ⟨k, hk, rfl, rfl, hb⟩ := hrel
    by_cases hlt : k < cs.length
    · have hr := range_below hb hbb (hc k hlt)
      have hn := best_no cs k
      have hf := best_first cs k
      have hx := best_next cs k
      have hrg := best_range cs k
      cases he : elig (at_ cs k)
      · have HB : Hid (bestTo cs (k + 1) = bestTo cs k) := hn he
        clear hn hf hx hrg hc
        generalize at_ cs k = c at *
        generalize bestTo cs k = v at *
        go_wp2_with (refine ld42 b (off + k * 7) c rfl hr ?_)
        refine wp_region_any (by kernel_rfl) ?_
        change wpAny _ _ _ _ _ _ _ (World.drew _)
        refine wpAny_ready (rs := [0]) (by kernel_rfl) (by simp) ?_
        refine AllReady.cons rfl (fun K hK => ?_) AllReady.nil
        go_simp
        refine hK _ _ ?_
        clear hK K
        refine wpAny_ready (rs := [1]) (by kernel_rfl) (by simp) ?_
        refine AllReady.cons rfl (fun K hK => ?_) AllReady.nil
        go_simp
        go_wp2_with (go_at_call 63; refine (elig_is c false he _).mono ?_; rintro e w1 ⟨rfl, hb1⟩)
        refine wpAny_take (i := 2) (v := .bool false) rfl (by kernel_rfl) (by kernel_rfl) (by kernel_rfl) (fun _ _ _ h => h) (Or.inl ⟨by kernel_rfl, fun w => by kernel_rfl⟩) ?_
        refine wpAny_take (i := 3) (v := undef) rfl (by kernel_rfl) (by kernel_rfl) (by kernel_rfl) (fun _ _ _ h => h) (Or.inr ⟨by kernel_rfl, rfl⟩) ?_
        refine wpAny_take (i := 4) (v := undef) rfl (by kernel_rfl) (by kernel_rfl) (by kernel_rfl) (fun _ _ _ h => h) (Or.inr ⟨by kernel_rfl, rfl⟩) ?_
        refine wpAny_take (i := 5) (v := undef) rfl (by kernel_rfl) (by kernel_rfl) (by kernel_rfl) (fun _ _ _ h => h) (Or.inr ⟨by kernel_rfl, rfl⟩) ?_
        refine wpAny_take (i := 6) (v := undef) rfl (by kernel_rfl) (by kernel_rfl) (by kernel_rfl) (fun _ _ _ h => h) (Or.inr ⟨by kernel_rfl, rfl⟩) ?_
        refine wpAny_take (i := 7) (v := undef) rfl (by kernel_rfl) (by kernel_rfl) (by kernel_rfl) (fun _ _ _ h => h) (Or.inr ⟨by kernel_rfl, rfl⟩) ?_
        refine wpAny_take (i := 8) (v := undef) rfl (by kernel_rfl) (by kernel_rfl) (by kernel_rfl) (fun _ _ _ h => h) (Or.inr ⟨by kernel_rfl, rfl⟩) ?_
        refine wpAny_take (i := 9) (v := undef) rfl (by kernel_rfl) (by kernel_rfl) (by kernel_rfl) (fun _ _ _ h => h) (Or.inr ⟨by kernel_rfl, rfl⟩) ?_
        refine wpAny_take (i := 10) (v := undef) rfl (by kernel_rfl) (by kernel_rfl) (by kernel_rfl) (fun _ _ _ h => h) (Or.inr ⟨by kernel_rfl, rfl⟩) ?_
        refine wpAny_take (i := 11) (v := undef) rfl (by kernel_rfl) (by kernel_rfl) (by kernel_rfl) (fun _ _ _ h => h) (Or.inr ⟨by kernel_rfl, rfl⟩) ?_
        refine wpAny_take (i := 12) (v := undef) rfl (by kernel_rfl) (by kernel_rfl) (by kernel_rfl) (fun _ _ _ h => h) (Or.inr ⟨by kernel_rfl, rfl⟩) ?_
        refine wpAny_ready (rs := [13]) (by kernel_rfl) (by simp) ?_
        refine AllReady.cons rfl (fun K hK => ?_) AllReady.nil
        go_simp
        refine hK _ _ ?_
        clear hK K
        refine wpAny_done (by kernel_rfl) ?_ _
        have hb2 : Below w.heap.size w w1 := hb.trans ((after_call hb1).2.mono hb.size)
        clear hb1 hb hr
        go_wp2
        go_roundw
        case rel => exact ⟨k + 1, by omega, by go_num, by rw [HB.out], hb2⟩
        case measure => simp [intOf]; omega
      · rcases hrg with hv | ⟨m, hv, hm⟩
        · have HB : Hid (bestTo cs (k + 1) = (k : Int)) := hf he (by rw [hv]; decide)
          clear hn hf hx hc
          rw [hv]
          clear hv
          generalize at_ cs k = c at *
          go_wp2_with (refine ld42 b (off + k * 7) c rfl hr ?_)
          refine wp_region_any (by kernel_rfl) ?_
          change wpAny _ _ _ _ _ _ _ (World.drew _)
          refine wpAny_ready (rs := [0]) (by kernel_rfl) (by simp) ?_
          refine AllReady.cons rfl (fun K hK => ?_) AllReady.nil
          go_simp
          refine hK _ _ ?_
          clear hK K
          refine wpAny_ready (rs := [1]) (by kernel_rfl) (by simp) ?_
          refine AllReady.cons rfl (fun K hK => ?_) AllReady.nil
          go_simp
          go_wp2_with (go_at_call 63; refine (elig_is c true he _).mono ?_; rintro e w1 ⟨rfl, hb1⟩)
          refine wpAny_take (i := 2) (v := .bool true) rfl (by kernel_rfl) (by kernel_rfl) (by kernel_rfl) (fun _ _ _ h => h) (Or.inl ⟨by kernel_rfl, fun w => by kernel_rfl⟩) ?_
          refine wpAny_take (i := 3) (v := .int .i64 (-1)) rfl (by kernel_rfl) (by kernel_rfl) (by kernel_rfl) (fun _ _ _ h => h) (Or.inl ⟨by kernel_rfl, fun w => by kernel_rfl⟩) ?_
          refine wpAny_take (i := 4) (v := .bool true) rfl (by kernel_rfl) (by kernel_rfl) (by kernel_rfl) (fun _ _ _ h => h) (Or.inl ⟨by kernel_rfl, fun w => by kernel_rfl⟩) ?_
          refine wpAny_take (i := 5) (v := .bool true) rfl (by kernel_rfl) (by kernel_rfl) (by kernel_rfl) (fun _ _ _ h => h) (Or.inl ⟨by kernel_rfl, fun w => by kernel_rfl⟩) ?_
          refine wpAny_take (i := 6) (v := undef) rfl (by kernel_rfl) (by kernel_rfl) (by kernel_rfl) (fun _ _ _ h => h) (Or.inr ⟨by kernel_rfl, rfl⟩) ?_
          refine wpAny_take (i := 7) (v := undef) rfl (by kernel_rfl) (by kernel_rfl) (by kernel_rfl) (fun _ _ _ h => h) (Or.inr ⟨by kernel_rfl, rfl⟩) ?_
          refine wpAny_take (i := 8) (v := undef) rfl (by kernel_rfl) (by kernel_rfl) (by kernel_rfl) (fun _ _ _ h => h) (Or.inr ⟨by kernel_rfl, rfl⟩) ?_
          refine wpAny_take (i := 9) (v := undef) rfl (by kernel_rfl) (by kernel_rfl) (by kernel_rfl) (fun _ _ _ h => h) (Or.inr ⟨by kernel_rfl, rfl⟩) ?_
          refine wpAny_take (i := 10) (v := undef) rfl (by kernel_rfl) (by kernel_rfl) (by kernel_rfl) (fun _ _ _ h => h) (Or.inr ⟨by kernel_rfl, rfl⟩) ?_
          refine wpAny_take (i := 11) (v := undef) rfl (by kernel_rfl) (by kernel_rfl) (by kernel_rfl) (fun _ _ _ h => h) (Or.inr ⟨by kernel_rfl, rfl⟩) ?_
          refine wpAny_take (i := 12) (v := .bool true) rfl (by kernel_rfl) (by kernel_rfl) (by kernel_rfl) (fun _ _ _ h => h) (Or.inl ⟨by kernel_rfl, fun w => by kernel_rfl⟩) ?_
          refine wpAny_ready (rs := [13]) (by kernel_rfl) (by simp) ?_
          refine AllReady.cons rfl (fun K hK => ?_) AllReady.nil
          go_simp
          refine hK _ _ ?_
          clear hK K
          refine wpAny_done (by kernel_rfl) ?_ _
          have hb2 : Below w.heap.size w w1 := hb.trans ((after_call hb1).2.mono hb.size)
          clear hb1 hb hr
          go_wp2
          go_roundw
          case rel => exact ⟨k + 1, by omega, by go_num, by rw [HB.out], hb2⟩
          case measure => simp [intOf]; omega
        · have HB : Hid (bestTo cs (k + 1) = if before (at_ cs k) (at_ cs m) then (k : Int) else (m : Int)) := hx m he hv
          have hrm := range_below hb hbb (hc m (by omega))
          have hm0 : decide ((m : Int) < 0) = false := decide_eq_false (by omega)
          have hm1 : (m : Int) < (cs.length : Int) := by omega
          have hm2 : (0 : Int) ≤ (m : Int) := by omega
          have hbr : b < wr.heap.size := Nat.lt_of_lt_of_le hbb hb.size
          clear hn hf hx hc
          rw [hv]
          clear hv
          generalize at_ cs k = c at *
          generalize at_ cs m = cm at *
          cases hq : before c cm
          · go_wp2_with (refine ld42 b (off + k * 7) c rfl hr ?_)
            refine wp_region_any (by kernel_rfl) ?_
            change wpAny _ _ _ _ _ _ _ (World.drew _)
            refine wpAny_ready (rs := [0]) (by kernel_rfl) (by simp) ?_
            refine AllReady.cons rfl (fun K hK => ?_) AllReady.nil
            go_simp
            refine hK _ _ ?_
            clear hK K
            refine wpAny_ready (rs := [1]) (by kernel_rfl) (by simp) ?_
            refine AllReady.cons rfl (fun K hK => ?_) AllReady.nil
            go_simp
            go_wp2_with (go_at_call 63; refine (elig_is c true he _).mono ?_; rintro e w1 ⟨rfl, hb1⟩)
            obtain ⟨bx, hb1'⟩ := after_call hb1
            have bx2 := bx.2
            obtain ⟨q0, q1, q2, q3, q4, q5, q6⟩ := cells7 (range_below hb1' hbr hrm)
            have hb2 : Hid (Below w.heap.size w w1) := hb.trans (hb1'.mono hb.size)
            clear hb1 hb1' bx hb hr hrm
            refine wpAny_take (i := 2) (v := .bool true) rfl (by kernel_rfl) (by kernel_rfl) (by kernel_rfl) (fun _ _ _ h => h) (Or.inl ⟨by kernel_rfl, fun w => by kernel_rfl⟩) ?_
            refine wpAny_take (i := 3) (v := .int .i64 m) rfl (by kernel_rfl) (by kernel_rfl) (by kernel_rfl) (fun _ _ _ h => h) (Or.inl ⟨by kernel_rfl, fun w => by kernel_rfl⟩) ?_
            refine wpAny_ready (rs := [4]) (by kernel_rfl) (by simp) ?_
            refine AllReady.cons rfl (fun K hK => ?_) AllReady.nil
            go_simp
            refine hK _ _ ?_
            clear hK K
            refine wpAny_take (i := 5) (v := .bool false) rfl (by kernel_rfl) (by kernel_rfl) (by kernel_rfl) (fun _ _ _ h => h) (Or.inl ⟨by kernel_rfl, fun w => by kernel_rfl⟩) ?_
            refine wpAny_take (i := 7) (v := .slice (some ⟨b, off, none⟩) cs.length cap) rfl (by kernel_rfl) (by kernel_rfl) (by kernel_rfl) (fun _ _ _ h => h) (Or.inl ⟨by kernel_rfl, fun w => by kernel_rfl⟩) ?_
            refine wpAny_take (i := 8) (v := .int .i64 m) rfl (by kernel_rfl) (by kernel_rfl) (by kernel_rfl) (fun _ _ _ h => h) (Or.inl ⟨by kernel_rfl, fun w => by kernel_rfl⟩) ?_
            refine wpAny_take (i := 9) (v := .pointer (some ⟨b, off + m * 7, none⟩)) rfl (by kernel_rfl) (by kernel_rfl) (by kernel_rfl) (fun _ _ _ h => h) (Or.inl ⟨by kernel_rfl, fun w => by go_simp⟩) ?_
            refine wpAny_ready (rs := [6, 10]) (by kernel_rfl) (by simp) ?_
            refine AllReady.cons rfl (fun K hK => ?_) (AllReady.cons rfl (fun K hK => ?_) AllReady.nil)
            · go_simp
              refine hK _ _ ?_
              clear hK K
              refine wpAny_ready (rs := [10]) (by kernel_rfl) (by simp) ?_
              refine AllReady.cons rfl (fun K hK => ?_) AllReady.nil
              go_simp
              refine hK _ _ ?_
              clear hK K
              refine wpAny_ready (rs := [11]) (by kernel_rfl) (by simp) ?_
              refine AllReady.cons rfl (fun K hK => ?_) AllReady.nil
              go_simp
              go_wp2_with (go_at_call 64; refine (ranks_is c cm false hq _).mono ?_; rintro e w2 ⟨rfl, hb3⟩)
              refine wpAny_take (i := 12) (v := .bool false) rfl (by kernel_rfl) (by kernel_rfl) (by kernel_rfl) (fun _ _ _ h => h) (Or.inl ⟨by kernel_rfl, fun w => by kernel_rfl⟩) ?_
              refine wpAny_ready (rs := [13]) (by kernel_rfl) (by simp) ?_
              refine AllReady.cons rfl (fun K hK => ?_) AllReady.nil
              go_simp
              refine hK _ _ ?_
              clear hK K
              refine wpAny_done (by kernel_rfl) ?_ _
              have hb4 : Below w.heap.size w w2 := hb2.out.trans (hb3.mono hb2.out.size)
              clear hb3 hb2 bx2 q0 q1 q2 q3 q4 q5 q6
              go_wp2
              go_roundw
              case rel => exact ⟨k + 1, by omega, by go_num, by rw [HB.out, hq]; rfl, hb4⟩
              case measure => simp [intOf]; omega
            · go_simp
              refine hK _ _ ?_
              clear hK K
              refine wpAny_ready (rs := [6]) (by kernel_rfl) (by simp) ?_
              refine AllReady.cons rfl (fun K hK => ?_) AllReady.nil
              go_simp
              refine hK _ _ ?_
              clear hK K
              refine wpAny_ready (rs := [11]) (by kernel_rfl) (by simp) ?_
              refine AllReady.cons rfl (fun K hK => ?_) AllReady.nil
              go_simp
              go_wp2_with (go_at_call 64; refine (ranks_is c cm false hq _).mono ?_; rintro e w2 ⟨rfl, hb3⟩)
              refine wpAny_take (i := 12) (v := .bool false) rfl (by kernel_rfl) (by kernel_rfl) (by kernel_rfl) (fun _ _ _ h => h) (Or.inl ⟨by kernel_rfl, fun w => by kernel_rfl⟩) ?_
              refine wpAny_ready (rs := [13]) (by kernel_rfl) (by simp) ?_
              refine AllReady.cons rfl (fun K hK => ?_) AllReady.nil
              go_simp
              refine hK _ _ ?_
              clear hK K
              refine wpAny_done (by kernel_rfl) ?_ _
              have hb4 : Below w.heap.size w w2 := hb2.out.trans (hb3.mono hb2.out.size)
              clear hb3 hb2 bx2 q0 q1 q2 q3 q4 q5 q6
              go_wp2
              go_roundw
              case rel => exact ⟨k + 1, by omega, by go_num, by rw [HB.out, hq]; rfl, hb4⟩
              case measure => simp [intOf]; omega
          · go_wp2_with (refine ld42 b (off + k * 7) c rfl hr ?_)
            refine wp_region_any (by kernel_rfl) ?_
            change wpAny _ _ _ _ _ _ _ (World.drew _)
            refine wpAny_ready (rs := [0]) (by kernel_rfl) (by simp) ?_
            refine AllReady.cons rfl (fun K hK => ?_) AllReady.nil
            go_simp
            refine hK _ _ ?_
            clear hK K
            refine wpAny_ready (rs := [1]) (by kernel_rfl) (by simp) ?_
            refine AllReady.cons rfl (fun K hK => ?_) AllReady.nil
            go_simp
            go_wp2_with (go_at_call 63; refine (elig_is c true he _).mono ?_; rintro e w1 ⟨rfl, hb1⟩)
            obtain ⟨bx, hb1'⟩ := after_call hb1
            have bx2 := bx.2
            obtain ⟨q0, q1, q2, q3, q4, q5, q6⟩ := cells7 (range_below hb1' hbr hrm)
            have hb2 : Hid (Below w.heap.size w w1) := hb.trans (hb1'.mono hb.size)
            clear hb1 hb1' bx hb hr hrm
            refine wpAny_take (i := 2) (v := .bool true) rfl (by kernel_rfl) (by kernel_rfl) (by kernel_rfl) (fun _ _ _ h => h) (Or.inl ⟨by kernel_rfl, fun w => by kernel_rfl⟩) ?_
            refine wpAny_take (i := 3) (v := .int .i64 m) rfl (by kernel_rfl) (by kernel_rfl) (by kernel_rfl) (fun _ _ _ h => h) (Or.inl ⟨by kernel_rfl, fun w => by kernel_rfl⟩) ?_
            refine wpAny_ready (rs := [4]) (by kernel_rfl) (by simp) ?_
            refine AllReady.cons rfl (fun K hK => ?_) AllReady.nil
            go_simp
            refine hK _ _ ?_
            clear hK K
            refine wpAny_take (i := 5) (v := .bool false) rfl (by kernel_rfl) (by kernel_rfl) (by kernel_rfl) (fun _ _ _ h => h) (Or.inl ⟨by kernel_rfl, fun w => by kernel_rfl⟩) ?_
            refine wpAny_take (i := 7) (v := .slice (some ⟨b, off, none⟩) cs.length cap) rfl (by kernel_rfl) (by kernel_rfl) (by kernel_rfl) (fun _ _ _ h => h) (Or.inl ⟨by kernel_rfl, fun w => by kernel_rfl⟩) ?_
            refine wpAny_take (i := 8) (v := .int .i64 m) rfl (by kernel_rfl) (by kernel_rfl) (by kernel_rfl) (fun _ _ _ h => h) (Or.inl ⟨by kernel_rfl, fun w => by kernel_rfl⟩) ?_
            refine wpAny_take (i := 9) (v := .pointer (some ⟨b, off + m * 7, none⟩)) rfl (by kernel_rfl) (by kernel_rfl) (by kernel_rfl) (fun _ _ _ h => h) (Or.inl ⟨by kernel_rfl, fun w => by go_simp⟩) ?_
            refine wpAny_ready (rs := [6, 10]) (by kernel_rfl) (by simp) ?_
            refine AllReady.cons rfl (fun K hK => ?_) (AllReady.cons rfl (fun K hK => ?_) AllReady.nil)
            · go_simp
              refine hK _ _ ?_
              clear hK K
              refine wpAny_ready (rs := [10]) (by kernel_rfl) (by simp) ?_
              refine AllReady.cons rfl (fun K hK => ?_) AllReady.nil
              go_simp
              refine hK _ _ ?_
              clear hK K
              refine wpAny_ready (rs := [11]) (by kernel_rfl) (by simp) ?_
              refine AllReady.cons rfl (fun K hK => ?_) AllReady.nil
              go_simp
              go_wp2_with (go_at_call 64; refine (ranks_is c cm true hq _).mono ?_; rintro e w2 ⟨rfl, hb3⟩)
              refine wpAny_take (i := 12) (v := .bool true) rfl (by kernel_rfl) (by kernel_rfl) (by kernel_rfl) (fun _ _ _ h => h) (Or.inl ⟨by kernel_rfl, fun w => by kernel_rfl⟩) ?_
              refine wpAny_ready (rs := [13]) (by kernel_rfl) (by simp) ?_
              refine AllReady.cons rfl (fun K hK => ?_) AllReady.nil
              go_simp
              refine hK _ _ ?_
              clear hK K
              refine wpAny_done (by kernel_rfl) ?_ _
              have hb4 : Below w.heap.size w w2 := hb2.out.trans (hb3.mono hb2.out.size)
              clear hb3 hb2 bx2 q0 q1 q2 q3 q4 q5 q6
              go_wp2
              go_roundw
              case rel => exact ⟨k + 1, by omega, by go_num, by rw [HB.out, hq]; rfl, hb4⟩
              case measure => simp [intOf]; omega
            · go_simp
              refine hK _ _ ?_
              clear hK K
              refine wpAny_ready (rs := [6]) (by kernel_rfl) (by simp) ?_
              refine AllReady.cons rfl (fun K hK => ?_) AllReady.nil
              go_simp
              refine hK _ _ ?_
              clear hK K
              refine wpAny_ready (rs := [11]) (by kernel_rfl) (by simp) ?_
              refine AllReady.cons rfl (fun K hK => ?_) AllReady.nil
              go_simp
              go_wp2_with (go_at_call 64; refine (ranks_is c cm true hq _).mono ?_; rintro e w2 ⟨rfl, hb3⟩)
              refine wpAny_take (i := 12) (v := .bool true) rfl (by kernel_rfl) (by kernel_rfl) (by kernel_rfl) (fun _ _ _ h => h) (Or.inl ⟨by kernel_rfl, fun w => by kernel_rfl⟩) ?_
              refine wpAny_ready (rs := [13]) (by kernel_rfl) (by simp) ?_
              refine AllReady.cons rfl (fun K hK => ?_) AllReady.nil
              go_simp
              refine hK _ _ ?_
              clear hK K
              refine wpAny_done (by kernel_rfl) ?_ _
              have hb4 : Below w.heap.size w w2 := hb2.out.trans (hb3.mono hb2.out.size)
              clear hb3 hb2 bx2 q0 q1 q2 q3 q4 q5 q6
              go_wp2
              go_roundw
              case rel => exact ⟨k + 1, by omega, by go_num, by rw [HB.out, hq]; rfl, hb4⟩
              case measure => simp [intOf]; omega
    · have hk' : k = cs.length := by omega
      subst hk'
      clear hc hk hlt
      go_wp2
      go_ret2
      exact ⟨rfl, hb⟩
end Go.Proofs.Qxb6001659a.Cand
