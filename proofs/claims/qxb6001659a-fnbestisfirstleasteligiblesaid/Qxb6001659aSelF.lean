import Derived.Test.Qxb6001659aSelE
namespace Go.Proofs.Qxb6001659a.Cand
open Go.RowKit Go.Proofs.Qxb6001659a.Tb
attribute [local go_sem ↓] Go.wp_at_zero Go.wp_at_succ

theorem best_zero (a : Option Addr) (cap : Nat) (w : World) :
    Calls Try.prog 26 #[.slice a 0 cap] w fun e w' => e = .returned (.tuple #[.int .i64 (bestTo [] 0), .bool (decide (0 ≤ bestTo [] 0))]) ∧ Below w.heap.size w w' := by
  go_enter Try.func26, Try.ntmps26
  go_wp2
  refine wp_loop_rounds 1 ?_
  rw [rounds_succ]
  go_wp2
  go_ret2
  exact ⟨rfl, Below.refl _ _⟩

theorem best_any (a : Option Addr) (n cap : Nat) (cs : List Cd) (w : World) (hn : n = cs.length) (hl : cs.length ≤ 4096) (h : Cs w a cs) :
    Calls Try.prog 26 #[.slice a n cap] w fun e w' => e = .returned (.tuple #[.int .i64 (bestTo cs cs.length), .bool (decide (0 ≤ bestTo cs cs.length))]) ∧ Below w.heap.size w w' := by
  subst hn
  rcases h with rfl | ⟨b, off, rfl, hbb, hc⟩
  · exact best_zero a cap w
  · exact best_some b off cap cs w hl hbb hc

/-- Why the i-th one is passed over, v being Best's answer. -/
def why (cs : List Cd) (v : Int) (i : Nat) : Int := if excl (at_ cs i) = 0 then (if (i : Int) = v then 0 else reason (at_ cs v.toNat) (at_ cs i)) else excl (at_ cs i)
def whyRow (cs : List Cd) (v : Int) (k j : Nat) : Value := .int .i64 (if j < k then why cs v j else 0)

theorem info40 : (Try.prog.info? 40).map (fun i => (i.zero, i.size, i.bytes)) = some (some (.int .i64 0), 1, 8) := by kernel_rfl

/-- The store of a number into a row, as the walk meets it. -/
theorem st40 {ops : Array Oper} {rest : List Oper} {a : Act} {w : World} {Q : Exit → Act → World → Prop} {X Y : Tmp} {d : Option Tmp} {ty : TypeId} {pos : String} {af : Array Edge} (g k : Nat) (z : Int) {N : Nat} {f : Nat → Value}
    (hx : a.eval (.tmp X) = .pointer (some ⟨g, k, none⟩)) (hy : a.eval (.tmp Y) = .int .i64 z) (ht : Tab w g 40 N f) (hk : k < N)
    (h : ∀ w', w' = w.setCell ⟨g, k, none⟩ (.int .i64 z) → wpList Try.prog ops Q rest (a.put d undef) w') :
    wpList Try.prog ops Q ({ dst := d, op := .store 40 (.tmp X) (.tmp Y), type := ty, pos := pos, after := af, guard := none } :: rest) a w := by
  have hc := ht.cell k hk
  have hf := ht.free k
  have H := h _ rfl
  clear h ht
  refine wpList_plain rfl fun K hK => ?_
  unfold Oper.wp execOp
  simp only [hx, hy]
  go_simp
  exact hK _ _ H

theorem row_done {w : World} {g N : Nat} {cs : List Cd} {v : Int} {k : Nat} {z : Int} {w1 : World} (ht : Tab w g 40 N (whyRow cs v k)) (hw : w1 = w.setCell ⟨g, k, none⟩ (.int .i64 z)) (hz : z = why cs v k) : Tab w1 g 40 N (whyRow cs v (k + 1)) := by
  subst hw hz
  refine (ht.set k _).congr fun j _ => ?_
  unfold whyRow
  by_cases e : j = k
  · subst e
    rw [if_pos rfl, if_pos (by omega)]
  · rw [if_neg e]
    by_cases h : j < k
    · rw [if_pos h, if_pos (by omega)]
    · rw [if_neg h, if_neg (by omega)]

theorem why_no (cs : List Cd) (v : Int) (k : Nat) (h : ¬ excl (at_ cs k) = 0) : excl (at_ cs k) = why cs v k := by
  unfold why
  rw [if_neg h]
theorem why_best (cs : List Cd) (v : Int) (k : Nat) (h : excl (at_ cs k) = 0) (hv : (k : Int) = v) : (0 : Int) = why cs v k := by
  unfold why
  rw [if_pos h, if_pos hv]
theorem why_out (cs : List Cd) (m k : Nat) (h : excl (at_ cs k) = 0) (hv : k ≠ m) : reason (at_ cs m) (at_ cs k) = why cs m k := by
  unfold why
  rw [if_pos h, if_neg (by omega)]
  simp

set_option maxHeartbeats 1000000 in
set_option maxRecDepth 100000 in
theorem passed_some (b off cap : Nat) (cs : List Cd) (v : Int) (hv : BestIs cs cs.length v) (w : World) (hl : cs.length ≤ 4096) (hbb : b < w.heap.size) (hc : ∀ i, i < cs.length → w.rangeAt b (off + i * 7) (at_ cs i).cells) :
    Calls Try.prog 33 #[.slice (some ⟨b, off, none⟩) cs.length cap, .int .i64 v] w fun e w' => e = .returned (.slice (some ⟨w.heap.size, 0, none⟩) cs.length cs.length) ∧ Tab w' w.heap.size 40 cs.length (whyRow cs v cs.length) ∧ Below w.heap.size w w' := by
  obtain ⟨i0, hi, hz0, hz1, hz2⟩ := info_parts info40
  have hmk := run_make (P := Try.prog) w 47 40 i0 _ Try.underlying47 hi hz0 .i64 .i64 cs.length cs.length (by omega) (by omega) (by rw [hz2]; omega) (by omega)
  rw [hz1] at hmk
  simp only [Int.toNat_natCast, Value.cells, Nat.mul_one] at hmk
  go_enter Try.func33, Try.ntmps33
  go_wp2
  clear hmk
  go_loopw [13] (fun i wr => ∃ k : Nat, k ≤ cs.length ∧ i = .int .i64 k ∧ Tab wr w.heap.size 40 cs.length (whyRow cs v k) ∧ Below w.heap.size w wr) (fun i _ => cs.length - (intOf i).toNat)
  case atStart =>
    refine ⟨0, Nat.zero_le _, rfl, Tab.fresh w _ 40 _ (size_madeCells _ _) _ (fun j hj => ?_), (Below.refl _ _).alloc (Nat.le_refl _) _⟩
    rw [made_get _ _ _ (by simp) hj]
    simp [whyRow, Nat.mod_one]
  case round =>
    obtain ⟨k, hk, rfl, ht, hb⟩ := hrel
    by_cases hlt : k < cs.length
    · have hr := range_below hb hbb (hc k hlt)
      have hg : w.heap.size < wr.heap.size := ht.lt
      by_cases he : excl (at_ cs k) = 0
      · by_cases hkv : (k : Int) = v
        · have HW : Hid ((0 : Int) = why cs v k) := why_best cs v k he hkv
          have hne : ((k : Int) != v) = false := by simp [hkv]
          have ht1 := fun o => ht.alloc o
          have HK : Hid ((k : Int) = v) := hkv
          clear hc hv hkv
          generalize at_ cs k = c at *
          go_wp2_with (refine ld42 b (off + k * 7) c rfl hr ?_)
          refine (excl_any c _).mono ?_
          rintro e w1 ⟨rfl, hb1⟩
          have T1 := (ht1 _).below hb1
          have hb2 : Hid (Below w.heap.size w w1) := (hb.alloc hb.size _).trans (hb1.mono (by have := hb.size; simp; omega))
          clear ht1 ht hr hb hb1
          rw [he]
          go_wp2_with (refine st40 w.heap.size k 0 rfl rfl T1 hlt ?_)
          intro w2 hw2
          have T2 := row_done T1 hw2 HW.out
          have hb3 : Below w.heap.size w w2 := by rw [hw2]; exact hb2.out.setCell (Nat.le_refl _) _
          have g1 : w2.cell? ⟨w.heap.size, k, none⟩ = some (.int .i64 0) := by
            rw [T2.cell k hlt, HW.out]
            simp [whyRow]
          clear T1 hb2 hw2
          go_wp2
          go_roundw
          case rel => exact ⟨k + 1, by omega, by go_num, T2, hb3⟩
          case measure => simp [intOf]; omega
        · rcases hv with ⟨_, hv⟩ | ⟨m, rfl, hm, _, _⟩
          · have := hv k hlt
            simp [elig, he] at this
          have hkm : k ≠ m := fun e => hkv (by rw [e])
          have HW : Hid (reason (at_ cs m) (at_ cs k) = why cs m k) := why_out cs m k he hkm
          have hne : ((k : Int) != (m : Int)) = true := bne_iff_ne.2 (by omega)
          have hrm := range_below hb hbb (hc m hm)
          have hbr : b < wr.heap.size := Nat.lt_of_lt_of_le hbb hb.size
          have ht1 := fun o => ht.alloc o
          have hm1 : (m : Int) < (cs.length : Int) := by omega
          have hm2 : (0 : Int) ≤ (m : Int) := by omega
          have hk1 : (k : Int) < (cs.length : Int) := by omega
          have hk2 : (0 : Int) ≤ (k : Int) := by omega
          clear hc hkv
          generalize at_ cs k = c at *
          generalize at_ cs m = cm at *
          go_wp2_with (refine ld42 b (off + k * 7) c rfl hr ?_)
          refine (excl_any c _).mono ?_
          rintro e w1 ⟨rfl, hb1⟩
          have T1 := (ht1 _).below hb1
          have hb2 : Hid (Below w.heap.size w w1) := (hb.alloc hb.size _).trans (hb1.mono (by have := hb.size; simp; omega))
          have B1 := (Box.fresh wr c 42).below hb1
          have hrm1 := range_below ((one_box wr _).trans (hb1.mono (by simp))) hbr hrm
          clear ht1 ht hr hb hrm hb1
          rw [he]
          go_wp2_with (refine st40 w.heap.size k 0 rfl rfl T1 hlt ?_)
          intro w2 hw2
          have F2 : ∀ p, p ≠ w.heap.size → w2.heap[p]? = w1.heap[p]? := fun p hp => by rw [hw2]; exact heap_setCell_other w1 ⟨w.heap.size, k, none⟩ p _ hp
          have T2 : Tab w2 w.heap.size 40 cs.length (fun j => if j = k then .int .i64 0 else whyRow cs m k j) := by rw [hw2]; exact T1.set k _
          have hb3 : Hid (Below w.heap.size w w2) := by rw [hw2]; exact hb2.out.setCell (Nat.le_refl _) _
          have g1 : w2.cell? ⟨w.heap.size, k, none⟩ = some (.int .i64 0) := by
            rw [T2.cell k hlt]
            simp
          have bx2 : ∀ j, w2.cell? ⟨wr.heap.size, j, none⟩ = c.arr[j]? := fun j => (World.cell?_of_block (w := w1) (a := ⟨wr.heap.size, j, none⟩) (F2 wr.heap.size (by omega))).trans (B1.2 j)
          have hrm2 : w2.rangeAt b (off + m * 7) cm.cells := fun j v hj => (World.cell?_of_block (w := w1) (a := ⟨b, off + m * 7 + j, none⟩) (F2 b (by omega))).trans (hrm1 j v hj)
          obtain ⟨q0, q1, q2, q3, q4, q5, q6⟩ := cells7 hrm2
          clear T1 hb2 hw2 F2 B1 hrm1 hrm2
          go_wp2
          have T2' : Hid (∀ w3 : World, Below w2.drew.heap.size w2.drew w3 → w3.cell? ⟨w.heap.size, k, none⟩ = some (.int .i64 0) ∧ w3.frozen? ⟨w.heap.size, k, none⟩ = false ∧
              Tab (w3.setCell ⟨w.heap.size, k, none⟩ (.int .i64 (reason cm c))) w.heap.size 40 cs.length (whyRow cs m (k + 1)) ∧ Below w.heap.size w (w3.setCell ⟨w.heap.size, k, none⟩ (.int .i64 (reason cm c)))) := fun w3 h3 => by
            have h3' : Below w2.heap.size w2 w3 := ⟨h3.os, h3.tape, h3.output, h3.size, h3.block⟩
            have T3 := T2.below h3'
            refine ⟨by rw [T3.cell k hlt]; simp, T3.free k, ?_, (hb3.out.trans (h3'.mono hb3.out.size)).setCell (Nat.le_refl _) _⟩
            refine (T3.set k _).congr fun j _ => ?_
            unfold whyRow
            by_cases e : j = k
            · subst e
              rw [if_pos rfl, if_pos (by omega), HW.out]
            · rw [if_neg e, if_neg e]
              by_cases h : j < k
              · rw [if_pos h, if_pos (by omega)]
              · rw [if_neg h, if_neg (by omega)]
          clear T2 hb3 HW g1
          first | (go_region_with (go_at_call 65; refine (compare_any cm c _).mono ?_; rintro e w3 ⟨rfl, hb4⟩; obtain ⟨r1, r2, r3, r4⟩ := T2'.out _ hb4)) | fail
          all_goals
            clear q0 q1 q2 q3 q4 q5 q6 bx2 r1 r2 T2' hb4
            go_wp2
            go_roundw
            case rel => exact ⟨k + 1, by omega, by go_num, r3, r4⟩
            case measure => simp [intOf]; omega
      · have HW : Hid (excl (at_ cs k) = why cs v k) := why_no cs v k he
        have hne : (excl (at_ cs k) == 0) = false := beq_eq_false_iff_ne.2 he
        have ht1 := fun o => ht.alloc o
        clear hc hv he
        generalize at_ cs k = c at *
        go_wp2_with (refine ld42 b (off + k * 7) c rfl hr ?_)
        refine (excl_any c _).mono ?_
        rintro e w1 ⟨rfl, hb1⟩
        have T1 := (ht1 _).below hb1
        have hb2 : Hid (Below w.heap.size w w1) := (hb.alloc hb.size _).trans (hb1.mono (by have := hb.size; simp; omega))
        clear ht1 ht hr hb hb1
        go_wp2_with (refine st40 w.heap.size k (excl c) rfl rfl T1 hlt ?_)
        intro w2 hw2
        have T2 := row_done T1 hw2 HW.out
        have hb3 : Below w.heap.size w w2 := by rw [hw2]; exact hb2.out.setCell (Nat.le_refl _) _
        have g1 : w2.cell? ⟨w.heap.size, k, none⟩ = some (.int .i64 (excl c)) := by
          rw [T2.cell k hlt, HW.out]
          simp [whyRow]
        clear T1 hb2 hw2
        go_wp2
        go_roundw
        case rel => exact ⟨k + 1, by omega, by go_num, T2, hb3⟩
        case measure => simp [intOf]; omega
    · obtain rfl : k = cs.length := by omega
      go_wp2
      go_ret
      exact ⟨rfl, ht, hb⟩

set_option maxHeartbeats 400000 in
theorem passed_zero (a : Option Addr) (cap : Nat) (v : Int) (w : World) :
    Calls Try.prog 33 #[.slice a 0 cap, .int .i64 v] w fun e w' => e = .returned (.slice (some ⟨w.heap.size, 0, none⟩) 0 0) ∧ Tab w' w.heap.size 40 0 (whyRow [] v 0) ∧ Below w.heap.size w w' := by
  obtain ⟨i0, hi, hz0, hz1, hz2⟩ := info_parts info40
  have hmk := run_make (P := Try.prog) w 47 40 i0 _ Try.underlying47 hi hz0 .i64 .i64 0 0 (by omega) (by omega) (by rw [hz2]; omega) (by omega)
  rw [hz1] at hmk
  simp only [Int.toNat_zero, Value.cells, Nat.mul_one] at hmk
  go_enter Try.func33, Try.ntmps33
  go_wp2
  clear hmk
  refine wp_loop_rounds 1 ?_
  rw [rounds_succ]
  go_wp2
  go_ret
  exact ⟨rfl, Tab.fresh w _ 40 _ (size_madeCells _ _) _ (fun j hj => by omega), one_box _ _⟩

theorem passed_any (a : Option Addr) (n cap : Nat) (cs : List Cd) (v : Int) (hv : BestIs cs cs.length v) (w : World) (hn : n = cs.length) (hl : cs.length ≤ 4096) (h : Cs w a cs) :
    Calls Try.prog 33 #[.slice a n cap, .int .i64 v] w fun e w' => ∃ g, e = .returned (.slice (some ⟨g, 0, none⟩) cs.length cs.length) ∧ Tab w' g 40 cs.length (whyRow cs v cs.length) ∧ Below w.heap.size w w' := by
  subst hn
  rcases h with rfl | ⟨b, off, rfl, hbb, hc⟩
  · refine (passed_zero a cap v w).mono ?_
    rintro e w' ⟨rfl, ht, hb⟩
    exact ⟨_, rfl, ht, hb⟩
  · refine (passed_some b off cap cs v hv w hl hbb hc).mono ?_
    rintro e w' ⟨rfl, ht, hb⟩
    exact ⟨_, rfl, ht, hb⟩
end Go.Proofs.Qxb6001659a.Cand
