import Derived.Test.Qxb6001659aSelQ
namespace Go.Proofs.Qxb6001659a.Cand
open Go.RowKit Go.Proofs.Qxb6001659a.Tb

theorem info50 : (Try.prog.info? 50).map (fun i => (i.zero, i.size, i.bytes)) = some (some (.agg #[.string ⟨#[]⟩, .int .i64 0, .int .i64 0, .bool false, .bool false, .bool false, .bool false]), 7, 40) := by kernel_rfl
theorem info42 : (Try.prog.info? 42).map (fun i => (i.zero, i.size, i.bytes)) = some (some (.agg #[.string ⟨#[]⟩, .int .i64 0, .int .i64 0, .bool false, .bool false, .bool false, .bool false]), 7, 40) := by kernel_rfl
theorem size50 : (Try.prog.info? 50).map (·.size) = some 7 := by kernel_rfl
theorem size42 : (Try.prog.info? 42).map (·.size) = some 7 := by kernel_rfl

/-- The row of candidates after k rounds. -/
def crow (cs : List Cd) (k j : Nat) : Value := if j / 7 < k then (at_ cs (j / 7)).cells.getD (j % 7) undef else d0.cells.getD (j % 7) undef
theorem crow_step (cs : List Cd) (k j : Nat) : (if k * 7 ≤ j ∧ j < k * 7 + (at_ cs k).cells.length then (at_ cs k).cells.getD (j - k * 7) undef else crow cs k j) = crow cs (k + 1) j := by
  have h7 : (at_ cs k).cells.length = 7 := rfl
  rw [h7]
  by_cases h : k * 7 ≤ j ∧ j < k * 7 + 7
  · rw [if_pos h]
    unfold crow
    rw [if_pos (by omega), show j / 7 = k by omega, show j % 7 = j - k * 7 by omega]
  · rw [if_neg h]
    unfold crow
    by_cases h2 : j / 7 < k
    · rw [if_pos h2, if_pos (by omega)]
    · rw [if_neg h2, if_neg (by omega)]
theorem crow_made (cs : List Cd) (n j : Nat) (hj : j < n) : (madeCells #[.string ⟨#[]⟩, .int .i64 0, .int .i64 0, .bool false, .bool false, .bool false, .bool false] n)[j]? = some (crow cs 0 j) := by
  rw [made_get _ _ _ (by simp) hj]
  unfold crow
  rw [if_neg (by omega)]
  have h : ∀ r, r < 7 → (#[.string ⟨#[]⟩, .int .i64 0, .int .i64 0, .bool false, .bool false, .bool false, .bool false] : Array Value).getD r undef = d0.cells.getD r undef := by
    intro r hr
    match r, hr with
    | 0, _ => rfl
    | 1, _ => rfl
    | 2, _ => rfl
    | 3, _ => rfl
    | 4, _ => rfl
    | 5, _ => rfl
    | 6, _ => rfl
  exact congrArg some (h (j % 7) (by omega))
theorem cs_of_tab {w : World} {g : Nat} {t : TypeId} {cs : List Cd} (h : Tab w g t (cs.length * 7) (crow cs cs.length)) : Cs w (some ⟨g, 0, none⟩) cs := by
  refine .inr ⟨g, 0, rfl, h.lt, fun i hi => ?_⟩
  have h7 : (at_ cs i).cells.length = 7 := rfl
  refine h.range (0 + i * 7) _ (by rw [h7]; omega) fun j v hj => ?_
  have hj7 : j < 7 := by have := (List.getElem?_eq_some_iff.1 hj).1; omega
  unfold crow
  rw [if_pos (by omega), show (0 + i * 7 + j) / 7 = i by omega, show (0 + i * 7 + j) % 7 = j by omega, List.getD, hj]
  rfl
theorem one7 (c : Cd) : c.arr.all (·.oneCell') = true := by simp [Value.oneCell']

/-- The load of a candidate, as the walk meets it. -/
theorem ld50 {ops : Array Oper} {rest : List Oper} {a : Act} {w : World} {Q : Exit → Act → World → Prop} {T : Tmp} {d : Option Tmp} {ty : TypeId} {pos : String} {af : Array Edge} (g o : Nat) (c : Cd)
    (hx : a.eval (.tmp T) = .pointer (some ⟨g, o, none⟩)) (hr : w.rangeAt g o c.cells) (h : wpList Try.prog ops Q rest (a.put d (.agg c.arr)) w) :
    wpList Try.prog ops Q ({ dst := d, op := .load 50 (.tmp T), type := ty, pos := pos, after := af, guard := none } :: rest) a w :=
  wpList_load_mid rfl 50 (.tmp T) rfl g o hx c.cells _ hr Try.underlying50 rfl size50 h
theorem ld42 {ops : Array Oper} {rest : List Oper} {a : Act} {w : World} {Q : Exit → Act → World → Prop} {T : Tmp} {d : Option Tmp} {ty : TypeId} {pos : String} {af : Array Edge} (g o : Nat) (c : Cd)
    (hx : a.eval (.tmp T) = .pointer (some ⟨g, o, none⟩)) (hr : w.rangeAt g o c.cells) (h : wpList Try.prog ops Q rest (a.put d (.agg c.arr)) w) :
    wpList Try.prog ops Q ({ dst := d, op := .load 42 (.tmp T), type := ty, pos := pos, after := af, guard := none } :: rest) a w :=
  wpList_load_mid rfl 42 (.tmp T) rfl g o hx c.cells _ hr Try.underlying42 rfl size42 h
/-- The store of a candidate into a row. -/
theorem st50 {ops : Array Oper} {rest : List Oper} {a : Act} {w : World} {Q : Exit → Act → World → Prop} {X Y : Tmp} {d : Option Tmp} {ty : TypeId} {pos : String} {af : Array Edge} (g o : Nat) (c : Cd)
    (hx : a.eval (.tmp X) = .pointer (some ⟨g, o, none⟩)) (hy : a.eval (.tmp Y) = .agg c.arr) (ht : w.there g o 7)
    (h : ∀ w', w' = w.setCells g o c.cells → wpList Try.prog ops Q rest (a.put d undef) w') :
    wpList Try.prog ops Q ({ dst := d, op := .store 50 (.tmp X) (.tmp Y), type := ty, pos := pos, after := af, guard := none } :: rest) a w :=
  wpList_store_mid rfl 50 (.tmp X) (.tmp Y) rfl g o _ hx hy ht size50 (one7 c) (h _ rfl)
theorem st42 {ops : Array Oper} {rest : List Oper} {a : Act} {w : World} {Q : Exit → Act → World → Prop} {X Y : Tmp} {d : Option Tmp} {ty : TypeId} {pos : String} {af : Array Edge} (g o : Nat) (c : Cd)
    (hx : a.eval (.tmp X) = .pointer (some ⟨g, o, none⟩)) (hy : a.eval (.tmp Y) = .agg c.arr) (ht : w.there g o 7)
    (h : ∀ w', w' = w.setCells g o c.cells → wpList Try.prog ops Q rest (a.put d undef) w') :
    wpList Try.prog ops Q ({ dst := d, op := .store 42 (.tmp X) (.tmp Y), type := ty, pos := pos, after := af, guard := none } :: rest) a w :=
  wpList_store_mid rfl 42 (.tmp X) (.tmp Y) rfl g o _ hx hy ht size42 (one7 c) (h _ rfl)

/-- What one round of a copy does to the call's memory. -/
theorem copy_round {w wr w1 : World} {g : Nat} {t : TypeId} {cs : List Cd} {k N : Nat} (ht : Tab wr g t N (crow cs k)) (hb : Below w.heap.size w wr) (hg : w.heap.size ≤ g) (hw : w1 = wr.setCells g (k * 7) (at_ cs k).cells) :
    Tab w1 g t N (crow cs (k + 1)) ∧ Below w.heap.size w w1 := by
  subst hw
  exact ⟨(Tab.setCells (at_ cs k).cells (k * 7) wr _ ht).congr (fun j _ => crow_step cs k j), below_setCells _ _ _ _ hb hg⟩

set_option maxHeartbeats 400000 in
theorem cloneC_nil (w : World) : Calls Try.prog 24 #[.slice none 0 0] w fun e w' => e = .returned (.slice none 0 0) ∧ w' = w := by
  have kn := fun (wx : World) (x : Option Addr) (l c : Nat) => Lib.run_eql_slice_nil (P := Try.prog) wx 33 50 x l c 0 0 Try.underlying33
  go_enter Try.func24, Try.ntmps24
  go_wp2
  go_ret
  exact ⟨rfl, rfl⟩

set_option maxHeartbeats 400000 in
theorem cloneC_some (x : Addr) (cap : Nat) (cs : List Cd) (w : World) (hl : cs.length ≤ 4096) (h : Cs w (some x) cs) :
    Calls Try.prog 24 #[.slice (some x) cs.length cap] w fun e w' => e = .returned (.slice (some ⟨w.heap.size, 0, none⟩) cs.length cs.length) ∧ Tab w' w.heap.size 50 (cs.length * 7) (crow cs cs.length) ∧ Below w.heap.size w w' := by
  have kn := fun (wx : World) (x : Option Addr) (l c : Nat) => Lib.run_eql_slice_nil (P := Try.prog) wx 33 50 x l c 0 0 Try.underlying33
  obtain ⟨i0, hi, hz0, hz1, hz2⟩ := info_parts info50
  have hmk := run_make (P := Try.prog) w 33 50 i0 _ Try.underlying33 hi hz0 .i64 .i64 cs.length cs.length (by omega) (by omega) (by rw [hz2]; omega) (by omega)
  rw [hz1] at hmk
  simp only [Int.toNat_natCast, Value.cells] at hmk
  go_enter Try.func24, Try.ntmps24
  go_wp2
  clear hmk
  go_loopw [4] (fun i wr => ∃ k : Nat, k ≤ cs.length ∧ i = .int .i64 k ∧ Tab wr w.heap.size 50 (cs.length * 7) (crow cs k) ∧ Below w.heap.size w wr) (fun i _ => cs.length - (intOf i).toNat)
  case atStart =>
    exact ⟨0, Nat.zero_le _, rfl, Tab.fresh w _ 50 _ (size_madeCells _ _) _ (fun j hj => crow_made cs _ j hj), (Below.refl _ _).alloc (Nat.le_refl _) _⟩
  case round =>
    obtain ⟨k, hk, rfl, ht, hb⟩ := hrel
    by_cases hlt : k < cs.length
    · rcases h with rfl | ⟨b, off, hx, hbb, hc⟩
      · simp at hlt
      obtain rfl := Option.some.inj hx
      have hr := range_below hb hbb (hc k hlt)
      have hth := ht.there (k * 7) 7 (by omega)
      have R1 : Hid (∀ w1 : World, w1 = wr.setCells w.heap.size (k * 7) (at_ cs k).cells → Tab w1 w.heap.size 50 (cs.length * 7) (crow cs (k + 1)) ∧ Below w.heap.size w w1) := fun w1 hw1 => copy_round ht hb (Nat.le_refl _) hw1
      clear hc hx ht hb
      generalize at_ cs k = c at hr R1
      go_wp2_with (first | (refine ld50 b (off + k * 7) c rfl hr ?_) | (refine st50 w.heap.size (k * 7) c rfl rfl hth ?_))
      intro w1 hw1
      obtain ⟨T1, TB⟩ := R1.out _ hw1
      clear hw1 R1 hth hr
      go_wp2
      go_roundw
      case rel => exact ⟨k + 1, by omega, by go_num, T1, TB⟩
      case measure => simp [intOf]; omega
    · obtain rfl : k = cs.length := by omega
      go_wp2
      go_ret
      exact ⟨rfl, ht, hb⟩
end Go.Proofs.Qxb6001659a.Cand
