import Derived.Test.Qxb6600356aCk3
namespace Go.Proofs.Qxb6600356a.Ck
open Go.RowKit Go.Proofs.Qxb6600356a.Tb

/-- What a mask says, as outputs. -/
def om (m : Int) : O4 := ⟨bt m 1, bt m 2, bt m 4, bt m 8⟩

/-- The store of a bool into a row, as the walk meets it. -/
theorem st4 {ops : Array Oper} {rest : List Oper} {a : Act} {w : World} {Q : Exit → Act → World → Prop} {X Y : Tmp} {d : Option Tmp} {ty : TypeId} {pos : String} {af : Array Edge} (g k : Nat) (x : Bool) {N : Nat} {t : TypeId} {f : Nat → Value}
    (hx : a.eval (.tmp X) = .pointer (some ⟨g, k, none⟩)) (hy : a.eval (.tmp Y) = .bool x) (ht : Tab w g t N f) (hk : k < N)
    (h : ∀ w', w' = w.setCell ⟨g, k, none⟩ (.bool x) → wpList Try.prog ops Q rest (a.put d undef) w') :
    wpList Try.prog ops Q ({ dst := d, op := .store 4 (.tmp X) (.tmp Y), type := ty, pos := pos, after := af, guard := none } :: rest) a w := by
  have hc := ht.cell k hk
  have hf := ht.free k
  have H := h _ rfl
  clear h ht
  refine wpList_plain rfl fun K hK => ?_
  unfold Oper.wp execOp
  simp only [hx, hy]
  go_simp
  exact hK _ _ H

/-- The row of outputs after k rounds. -/
def orow (f : Nat → Int) (k j : Nat) : Value := if j / 4 < k then (om (f (j / 4))).cells.getD (j % 4) undef else .bool false
theorem orow_done {w : World} {g N : Nat} {f : Nat → Int} {k : Nat} (ht : Tab w g 33 N (orow f k)) :
    Tab ((((w.setCell ⟨g, k * 4, none⟩ (.bool (bt (f k) 1))).setCell ⟨g, k * 4 + 1, none⟩ (.bool (bt (f k) 2))).setCell ⟨g, k * 4 + 2, none⟩ (.bool (bt (f k) 4))).setCell ⟨g, k * 4 + 3, none⟩ (.bool (bt (f k) 8))) g 33 N (orow f (k + 1)) := by
  refine ((((ht.set (k * 4) _).set (k * 4 + 1) _).set (k * 4 + 2) _).set (k * 4 + 3) _).congr fun j _ => ?_
  show (if j = k * 4 + 3 then _ else if j = k * 4 + 2 then _ else if j = k * 4 + 1 then _ else if j = k * 4 then _ else orow f k j) = _
  unfold orow
  by_cases e3 : j = k * 4 + 3
  · rw [if_pos e3, if_pos (by omega), show j / 4 = k by omega, show j % 4 = 3 by omega]
    rfl
  rw [if_neg e3]
  by_cases e2 : j = k * 4 + 2
  · rw [if_pos e2, if_pos (by omega), show j / 4 = k by omega, show j % 4 = 2 by omega]
    rfl
  rw [if_neg e2]
  by_cases e1 : j = k * 4 + 1
  · rw [if_pos e1, if_pos (by omega), show j / 4 = k by omega, show j % 4 = 1 by omega]
    rfl
  rw [if_neg e1]
  by_cases e0 : j = k * 4
  · rw [if_pos e0, if_pos (by omega), show j / 4 = k by omega, show j % 4 = 0 by omega]
    rfl
  rw [if_neg e0]
  by_cases h : j / 4 < k
  · rw [if_pos h, if_pos (by omega)]
  · rw [if_neg h, if_neg (by omega)]
theorem orow_made (f : Nat → Int) (n j : Nat) (hj : j < n) : (madeCells #[.bool false, .bool false, .bool false, .bool false] n)[j]? = some (orow f 0 j) := by
  rw [made_get _ _ _ (by simp) hj]
  unfold orow
  rw [if_neg (by omega)]
  have h : ∀ r, r < 4 → (#[.bool false, .bool false, .bool false, .bool false] : Array Value).getD r undef = .bool false := by
    intro r hr
    match r, hr with
    | 0, _ => rfl
    | 1, _ => rfl
    | 2, _ => rfl
    | 3, _ => rfl
  exact congrArg some (h (j % 4) (by omega))

/-- A row of n outputs. -/
def Os4 (w : World) (a : Option Addr) (f : Nat → O4) (n : Nat) : Prop :=
  ∃ b, a = some ⟨b, 0, none⟩ ∧ b < w.heap.size ∧ ∀ i, i < n → w.rangeAt b (i * 4) (f i).cells
theorem Os4.below {w w' : World} {a : Option Addr} {f : Nat → O4} {n : Nat} (h : Os4 w a f n) (hb : Below w.heap.size w w') : Os4 w' a f n := by
  obtain ⟨b, rfl, hlt, hc⟩ := h
  refine ⟨b, rfl, Nat.lt_of_lt_of_le hlt hb.size, fun i hi j v hv => ?_⟩
  rw [hb.cell hlt]
  exact hc i hi j v hv
theorem os_of_tab {w : World} {g n : Nat} {f : Nat → Int} (h : Tab w g 33 (n * 4) (orow f n)) : Os4 w (some ⟨g, 0, none⟩) (fun i => om (f i)) n := by
  refine ⟨g, rfl, h.lt, fun i hi => ?_⟩
  have h4 : (om (f i)).cells.length = 4 := rfl
  refine h.range (i * 4) _ (by rw [h4]; omega) fun j v hj => ?_
  have hj4 : j < 4 := by have := (List.getElem?_eq_some_iff.1 hj).1; rw [h4] at this; exact this
  unfold orow
  rw [if_pos (by omega), show (i * 4 + j) / 4 = i by omega, show (i * 4 + j) % 4 = j by omega, List.getD, hj]
  rfl

/-- A slice of n outputs that hold f came back. -/
def Outed (f : Nat → O4) (n : Nat) (e : Ending) (w : World) : Prop := ∃ a c, e = .returned (.slice a n c) ∧ Os4 w a f n

theorem outs_zero (a : Option Addr) (c : Nat) (f : Nat → Int) (w : World) :
    Calls Try.prog 24 #[.slice a 0 c] w fun e w' => Outed (fun i => om (f i)) 0 e w' ∧ Below w.heap.size w w' := by
  obtain ⟨i0, hi, hz0, hz1, hz2⟩ := info_parts info33
  have hmk := run_make (P := Try.prog) w 48 33 i0 _ Try.underlying48 hi hz0 .i64 .i64 0 0 (by omega) (by omega) (by rw [hz2]; omega) (by omega)
  rw [hz1] at hmk
  simp only [Value.cells, Int.toNat_zero] at hmk
  go_enter Try.func24, Try.ntmps24
  go_wp2
  clear hmk
  refine wp_loop_rounds 1 ?_
  rw [rounds_succ]
  go_wp2
  go_ret
  exact ⟨⟨_, _, rfl, _, rfl, by simp, fun i hi => absurd hi (Nat.not_lt_zero i)⟩, (Below.refl _ _).alloc (Nat.le_refl _) _⟩

set_option maxHeartbeats 1000000 in
theorem outs_some (b off n c : Nat) (f : Nat → Int) (w : World) (hn : n ≤ 4096) (hlt : b < w.heap.size) (hc : ∀ i, i < n → w.cell? ⟨b, off + i, none⟩ = some (.int .u8 (f i))) :
    Calls Try.prog 24 #[.slice (some ⟨b, off, none⟩) n c] w fun e w' => Outed (fun i => om (f i)) n e w' ∧ Below w.heap.size w w' := by
  obtain ⟨i0, hi, hz0, hz1, hz2⟩ := info_parts info33
  have hmk := run_make (P := Try.prog) w 48 33 i0 _ Try.underlying48 hi hz0 .i64 .i64 n n (by omega) (by omega) (by rw [hz2]; omega) (by omega)
  rw [hz1] at hmk
  simp only [Int.toNat_natCast, Value.cells] at hmk
  go_enter Try.func24, Try.ntmps24
  go_wp2
  clear hmk
  go_loopw [4] (fun i wr => ∃ k : Nat, k ≤ n ∧ i = .int .i64 k ∧ Tab wr w.heap.size 33 (n * 4) (orow f k) ∧ Below w.heap.size w wr) (fun i _ => n - (intOf i).toNat)
  case atStart =>
    exact ⟨0, Nat.zero_le _, rfl, Tab.fresh w _ 33 _ (size_madeCells _ _) _ (fun j hj => orow_made f _ j hj), (Below.refl _ _).alloc (Nat.le_refl _) _⟩
  case round =>
    obtain ⟨k, hk, rfl, ht, hb⟩ := hrel
    by_cases hkn : k < n
    · have hck := hc k hkn
      have hck' : wr.cell? ⟨b, off + k, none⟩ = some (.int .u8 (f k)) := by rw [hb.cell hlt]; exact hck
      clear hc hck
      go_wp2_with (refine st4 w.heap.size (k * 4) (bt (f k) 1) rfl rfl ht (by omega) ?_)
      intro w1 hw1
      have HW1 : Hid (w1 = wr.setCell ⟨w.heap.size, k * 4, none⟩ (.bool (bt (f k) 1))) := hw1
      have T1 := ht.set (k * 4) (.bool (bt (f k) 1))
      rw [← hw1] at T1
      clear hw1
      go_wp2_with (refine st4 w.heap.size (k * 4 + 1) (bt (f k) 2) rfl rfl T1 (by omega) ?_)
      intro w2 hw2
      have HW2 : Hid (w2 = w1.setCell ⟨w.heap.size, k * 4 + 1, none⟩ (.bool (bt (f k) 2))) := hw2
      have T2 := T1.set (k * 4 + 1) (.bool (bt (f k) 2))
      rw [← hw2] at T2
      clear hw2
      go_wp2_with (refine st4 w.heap.size (k * 4 + 2) (bt (f k) 4) rfl rfl T2 (by omega) ?_)
      intro w3 hw3
      have HW3 : Hid (w3 = w2.setCell ⟨w.heap.size, k * 4 + 2, none⟩ (.bool (bt (f k) 4))) := hw3
      have T3 := T2.set (k * 4 + 2) (.bool (bt (f k) 4))
      rw [← hw3] at T3
      clear hw3
      go_wp2_with (refine st4 w.heap.size (k * 4 + 3) (bt (f k) 8) rfl rfl T3 (by omega) ?_)
      intro w4 hw4
      have HW4 : Hid (w4 = w3.setCell ⟨w.heap.size, k * 4 + 3, none⟩ (.bool (bt (f k) 8))) := hw4
      have hw1 := HW1.out
      have hw2 := HW2.out
      have hw3 := HW3.out
      have T4 := orow_done ht
      rw [← hw1, ← hw2, ← hw3, ← hw4] at T4
      have hb4 : Below w.heap.size w w4 := by
        rw [hw4, hw3, hw2, hw1]
        exact (((hb.setCell (Nat.le_refl _) _).setCell (Nat.le_refl _) _).setCell (Nat.le_refl _) _).setCell (Nat.le_refl _) _
      clear ht hck' hw1 hw2 hw3 hw4 hb T1 T2 T3 HW1 HW2 HW3 HW4
      go_wp2
      go_roundw
      case rel => exact ⟨k + 1, by omega, by go_num, T4, hb4⟩
      case measure => simp [intOf]; omega
    · obtain rfl : k = n := by omega
      clear hc
      go_wp2
      go_ret
      exact ⟨⟨_, _, rfl, os_of_tab ht⟩, hb⟩

theorem outs_any (a : Option Addr) (n c : Nat) (f : Nat → Int) (w : World) (hn : n ≤ 4096) (h : Us w a f n) :
    Calls Try.prog 24 #[.slice a n c] w fun e w' => Outed (fun i => om (f i)) n e w' ∧ Below w.heap.size w w' := by
  rcases h with rfl | ⟨b, off, rfl, hlt, hc⟩
  · exact outs_zero a c f w
  · exact outs_some b off n c f w hn hlt hc
end Go.Proofs.Qxb6600356a.Ck
