import Derived.Test.Qxb6600356aCk2
namespace Go.Proofs.Qxb6600356a.Ck
open Go.RowKit Go.Proofs.Qxb6600356a.Tb

theorem info5 : (Try.prog.info? 5).map (fun i => (i.zero, i.size, i.bytes)) = some (some (.int .u8 0), 1, 1) := by kernel_rfl
theorem info33 : (Try.prog.info? 33).map (fun i => (i.zero, i.size, i.bytes)) = some (some (.agg #[.bool false, .bool false, .bool false, .bool false]), 4, 4) := by kernel_rfl

/-- The store of a byte into a row, as the walk meets it. -/
theorem st5 {ops : Array Oper} {rest : List Oper} {a : Act} {w : World} {Q : Exit → Act → World → Prop} {X Y : Tmp} {d : Option Tmp} {ty : TypeId} {pos : String} {af : Array Edge} (g k : Nat) (z : Int) {N : Nat} {f : Nat → Value}
    (hx : a.eval (.tmp X) = .pointer (some ⟨g, k, none⟩)) (hy : a.eval (.tmp Y) = .int .u8 z) (ht : Tab w g 5 N f) (hk : k < N)
    (h : ∀ w', w' = w.setCell ⟨g, k, none⟩ (.int .u8 z) → wpList Try.prog ops Q rest (a.put d undef) w') :
    wpList Try.prog ops Q ({ dst := d, op := .store 5 (.tmp X) (.tmp Y), type := ty, pos := pos, after := af, guard := none } :: rest) a w := by
  have hc := ht.cell k hk
  have hf := ht.free k
  have H := h _ rfl
  clear h ht
  refine wpList_plain rfl fun K hK => ?_
  unfold Oper.wp execOp
  simp only [hx, hy]
  go_simp
  exact hK _ _ H

/-- The row of a copy after k rounds. -/
def crow (f : Nat → Int) (k j : Nat) : Value := .int .u8 (if j < k then f j else 0)
theorem crow_done {w : World} {g N : Nat} {f : Nat → Int} {k : Nat} {w1 : World} (ht : Tab w g 5 N (crow f k)) (hw : w1 = w.setCell ⟨g, k, none⟩ (.int .u8 (f k))) : Tab w1 g 5 N (crow f (k + 1)) := by
  subst hw
  refine (ht.set k _).congr fun j _ => ?_
  unfold crow
  by_cases e : j = k
  · subst e
    rw [if_pos rfl, if_pos (by omega)]
  · rw [if_neg e]
    by_cases h : j < k
    · rw [if_pos h, if_pos (by omega)]
    · rw [if_neg h, if_neg (by omega)]

/-- A slice of n bytes that hold f came back. -/
def Cloned (f : Nat → Int) (n : Nat) (e : Ending) (w : World) : Prop := ∃ a c, e = .returned (.slice a n c) ∧ Us w a f n

theorem clone_nil (f : Nat → Int) (w : World) : Calls Try.prog 22 #[.slice none 0 0] w fun e w' => Cloned f 0 e w' ∧ Below w.heap.size w w' := by
  have hnil := run_eql_nil_slice (P := Try.prog) w 42 5 none 0 0 0 0 Try.underlying42
  go_enter Try.func22, Try.ntmps22
  go_wp2
  go_ret
  exact ⟨⟨_, _, rfl, .inl rfl⟩, Below.refl _ _⟩

theorem clone_zero (x : Addr) (c : Nat) (f : Nat → Int) (w : World) : Calls Try.prog 22 #[.slice (some x) 0 c] w fun e w' => Cloned f 0 e w' ∧ Below w.heap.size w w' := by
  obtain ⟨i0, hi, hz0, hz1, hz2⟩ := info_parts info5
  have hmk := run_make (P := Try.prog) w 42 5 i0 _ Try.underlying42 hi hz0 .i64 .i64 0 0 (by omega) (by omega) (by rw [hz2]; omega) (by omega)
  rw [hz1] at hmk
  simp only [Value.cells, Nat.mul_one, Int.toNat_zero] at hmk
  have hnil := Lib.run_eql_slice_nil (P := Try.prog) w 42 5 (some x) 0 c 0 0 Try.underlying42
  go_enter Try.func22, Try.ntmps22
  go_wp2
  clear hmk
  refine wp_loop_rounds 1 ?_
  rw [rounds_succ]
  go_wp2
  go_ret
  exact ⟨⟨_, _, rfl, .inl rfl⟩, (Below.refl _ _).alloc (Nat.le_refl _) _⟩

theorem clone_some (b off n c : Nat) (f : Nat → Int) (w : World) (hn : n ≤ 1048576) (hlt : b < w.heap.size) (hc : ∀ i, i < n → w.cell? ⟨b, off + i, none⟩ = some (.int .u8 (f i))) :
    Calls Try.prog 22 #[.slice (some ⟨b, off, none⟩) n c] w fun e w' => Cloned f n e w' ∧ Below w.heap.size w w' := by
  obtain ⟨i0, hi, hz0, hz1, hz2⟩ := info_parts info5
  have hmk := run_make (P := Try.prog) w 42 5 i0 _ Try.underlying42 hi hz0 .i64 .i64 n n (by omega) (by omega) (by rw [hz2]; omega) (by omega)
  rw [hz1] at hmk
  simp only [Int.toNat_natCast, Value.cells, Nat.mul_one] at hmk
  have hnil := Lib.run_eql_slice_nil (P := Try.prog) w 42 5 (some ⟨b, off, none⟩) n c 0 0 Try.underlying42
  go_enter Try.func22, Try.ntmps22
  go_wp2
  clear hmk
  go_loopw [4] (fun i wr => ∃ k : Nat, k ≤ n ∧ i = .int .i64 k ∧ Tab wr w.heap.size 5 n (crow f k) ∧ Below w.heap.size w wr) (fun i _ => n - (intOf i).toNat)
  case atStart =>
    refine ⟨0, Nat.zero_le _, rfl, Tab.fresh w _ 5 _ (size_madeCells _ _) _ (fun j hj => ?_), (Below.refl _ _).alloc (Nat.le_refl _) _⟩
    rw [made_get _ _ _ (by simp) hj]
    simp [crow, Nat.mod_one]
  case round =>
    obtain ⟨k, hk, rfl, ht, hb⟩ := hrel
    by_cases hkn : k < n
    · have hck := hc k hkn
      have hck' : wr.cell? ⟨b, off + k, none⟩ = some (.int .u8 (f k)) := by rw [hb.cell hlt]; exact hck
      clear hc hck
      go_wp2_with (refine st5 w.heap.size k (f k) rfl rfl ht hkn ?_)
      intro w2 hw2
      have T2 := crow_done ht hw2
      have hb3 : Below w.heap.size w w2 := by rw [hw2]; exact hb.setCell (Nat.le_refl _) _
      clear ht hck' hw2 hb
      go_wp2
      go_roundw
      case rel => exact ⟨k + 1, by omega, by go_num, T2, hb3⟩
      case measure => simp [intOf]; omega
    · obtain rfl : k = n := by omega
      clear hc
      go_wp2
      go_ret
      refine ⟨⟨_, _, rfl, .inr ⟨_, _, rfl, ht.lt, fun i hi => ?_⟩⟩, hb⟩
      rw [ht.cell (0 + i) (by omega)]
      simp [crow, hi]

theorem clone_any (a : Option Addr) (n c : Nat) (f : Nat → Int) (w : World) (hn : n ≤ 1048576) (h0 : a = none → n = 0 ∧ c = 0) (h : Us w a f n) :
    Calls Try.prog 22 #[.slice a n c] w fun e w' => Cloned f n e w' ∧ Below w.heap.size w w' := by
  rcases h with rfl | ⟨b, off, rfl, hlt, hc⟩
  · cases a with
    | none =>
      obtain ⟨_, rfl⟩ := h0 rfl
      exact clone_nil f w
    | some x => exact clone_zero x c f w
  · exact clone_some b off n c f w hn hlt hc
end Go.Proofs.Qxb6600356a.Ck
