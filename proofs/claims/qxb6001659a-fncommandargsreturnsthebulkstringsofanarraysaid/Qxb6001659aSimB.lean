import Derived.Test.Qxb6001659aSim
namespace Go.Proofs.Qxb6001659a.Sim
open Go.RowKit Go.Proofs.Qxb6001659a.Stat Go.Proofs.Qxb6001659a.Tb

theorem info65 : (Try.prog.info? 65).map (fun i => (i.zero, i.size, i.bytes)) = some (some (.agg #[.int .u8 0, .string ⟨#[]⟩, .int .i64 0, .slice none 0 0, .bool false]), 5, 64) := by kernel_rfl

/-- The five cells of the bulk string s. -/
def el (s : ByteArray) (z : Int) (r : Nat) : Value := if r = 0 then .int .u8 36 else if r = 1 then .string s else if r = 2 then .int .i64 z else if r = 3 then .slice none 0 0 else .bool false
def nl (r : Nat) : Value := if r = 0 then .int .u8 0 else if r = 1 then .string ⟨#[]⟩ else if r = 2 then .int .i64 0 else if r = 3 then .slice none 0 0 else .bool false
/-- The row of elements after k rounds. -/
def row (ss : List ByteArray) (z : Int) (k j : Nat) : Value := if j / 5 < k then el (ss.getD (j / 5) ByteArray.empty) z (j % 5) else nl (j % 5)

theorem nl_get (r : Nat) (h : r < 5) : (#[Value.int .u8 0, .string ⟨#[]⟩, .int .i64 0, .slice none 0 0, .bool false] : Array Value).getD r undef = nl r := by
  match r, h with
  | 0, _ => rfl
  | 1, _ => rfl
  | 2, _ => rfl
  | 3, _ => rfl
  | 4, _ => rfl
theorem el_get (s : ByteArray) (z : Int) (r : Nat) (h : r < 5) : [Value.int .u8 36, .string s, .int .i64 z, .slice none 0 0, .bool false].getD r undef = el s z r := by
  match r, h with
  | 0, _ => rfl
  | 1, _ => rfl
  | 2, _ => rfl
  | 3, _ => rfl
  | 4, _ => rfl

theorem row_start (ss : List ByteArray) (z : Int) (j : Nat) : row ss z 0 j = nl (j % 5) := by
  unfold row
  rw [if_neg (by omega)]
theorem row_step (ss : List ByteArray) (z : Int) (k j : Nat) : (if k * 5 ≤ j ∧ j < k * 5 + 5 then [Value.int .u8 36, .string (ss.getD k ByteArray.empty), .int .i64 z, .slice none 0 0, .bool false].getD (j - k * 5) undef else row ss z k j) = row ss z (k + 1) j := by
  by_cases h : k * 5 ≤ j ∧ j < k * 5 + 5
  · rw [if_pos h, el_get _ _ _ (by omega)]
    unfold row
    rw [if_pos (by omega), show j / 5 = k by omega, show j % 5 = j - k * 5 by omega]
  · rw [if_neg h]
    unfold row
    by_cases h2 : j / 5 < k
    · rw [if_pos h2, if_pos (by omega)]
    · rw [if_neg h2, if_neg (by omega)]
theorem one5 (n m : Int) (s : ByteArray) (x : Option Addr) (l c : Nat) (b : Bool) : (#[Value.int .u8 n, .string s, .int .i64 m, .slice x l c, .bool b] : Array Value).all (·.oneCell') = true := by
  simp [Value.oneCell']
theorem size65 : (Try.prog.info? 65).map (·.size) = some 5 := by kernel_rfl

/-- The store of an element, as the walk meets it. -/
theorem st65 {ops : Array Oper} {rest : List Oper} {a : Act} {w : World} {Q : Exit → Act → World → Prop} {d : Option Tmp} {ty : TypeId} {pos : String} {af : Array Edge} (g o : Nat) (s : ByteArray) (z : Int)
    (hx : a.eval (.tmp 24) = .pointer (some ⟨g, o, none⟩)) (hy : a.eval (.tmp 23) = .agg #[Value.int .u8 36, .string s, .int .i64 z, .slice none 0 0, .bool false]) (ht : w.there g o 5)
    (h : ∀ w', w' = w.setCells g o [Value.int .u8 36, .string s, .int .i64 z, .slice none 0 0, .bool false] → wpList Try.prog ops Q rest (a.put d undef) w') :
    wpList Try.prog ops Q ({ dst := d, op := .store 65 (.tmp 24) (.tmp 23), type := ty, pos := pos, after := af, guard := none } :: rest) a w :=
  wpList_store_mid rfl 65 (.tmp 24) (.tmp 23) rfl g o _ hx hy ht size65 (one5 _ _ _ _ _ _ _) (h _ rfl)

/-- The store of the result, as the walk meets it. -/
theorem st65r {ops : Array Oper} {rest : List Oper} {a : Act} {w : World} {Q : Exit → Act → World → Prop} {d : Option Tmp} {ty : TypeId} {pos : String} {af : Array Edge} (g : Nat) (x : Option Addr) (l c : Nat)
    (hx : a.eval (.tmp 4) = .pointer (some ⟨g, 0, none⟩)) (hy : a.eval (.tmp 26) = .agg #[Value.int .u8 42, .string ⟨#[]⟩, .int .i64 0, .slice x l c, .bool false]) {f : Nat → Value} (ht : Tab w g 65 5 f)
    (h : ∀ w', w' = w.setRow g #[Value.int .u8 42, .string ⟨#[]⟩, .int .i64 0, .slice x l c, .bool false] → wpList Try.prog ops Q rest (a.put d undef) w') :
    wpList Try.prog ops Q ({ dst := d, op := .store 65 (.tmp 4) (.tmp 26), type := ty, pos := pos, after := af, guard := none } :: rest) a w := by
  obtain ⟨cs, h1, h2, _⟩ := ht
  exact wpList_store_row rfl 65 (.tmp 4) (.tmp 26) rfl g _ hx hy 65 cs h1 size65 h2 (one5 _ _ _ _ _ _ _) (h _ rfl)
theorem setRow_facts {w w1 : World} {g B : Nat} {a : World} {f : Nat → Value} {N : Nat} {t : TypeId} (cs : Array Value) (hw : w1 = w.setRow g cs) (ht : Tab w g t N f) (hb : Below B a w) (hB : B ≤ g) :
    w1.heap[g]? = some (.cells cs t (0, 0)) ∧ Below B a w1 ∧ ∀ k, k ≠ g → w1.heap[k]? = w.heap[k]? := by
  subst hw
  obtain ⟨c0, h1, h2, _⟩ := ht
  have ho : ∀ k, k ≠ g → (w.setRow g cs).heap[k]? = w.heap[k]? := fun k hk => by
    simp only [World.setRow, Array.getElem?_modify]
    rw [if_neg (fun e => hk e.symm)]
  exact ⟨setRow_heap w g c0 cs t (0, 0) h1, hb.trans ⟨rfl, rfl, rfl, by simp, fun k hk => ho k (by omega)⟩, ho⟩

/-- What one round of the loop does to the call's memory. -/
theorem cmd_round (w wr : World) (ss : List ByteArray) (z : Int) (k N : Nat) (ht1 : Tab wr (w.heap.size + 1) 65 N (row ss z k)) (ht0 : Tab wr w.heap.size 65 5 nl) (hb : Below w.heap.size w wr) (vs : List Value)
    (hvs : vs = [Value.int .u8 36, .string (ss.getD k ByteArray.empty), .int .i64 z, .slice none 0 0, .bool false]) :
    Tab (wr.setCells (w.heap.size + 1) (k * 5) vs) (w.heap.size + 1) 65 N (row ss z (k + 1)) ∧ Tab (wr.setCells (w.heap.size + 1) (k * 5) vs) w.heap.size 65 5 nl ∧ Below w.heap.size w (wr.setCells (w.heap.size + 1) (k * 5) vs) := by
  have h5 : vs.length = 5 := by rw [hvs]; rfl
  refine ⟨(Tab.setCells vs (k * 5) wr _ ht1).congr (fun j _ => ?_), ?_, below_setCells vs (k * 5) (w.heap.size + 1) wr hb (by omega)⟩
  · rw [h5, hvs]
    exact row_step ss z k j
  · exact ht0.kept ((below_setCells (B := w.heap.size + 1) (a := wr) vs (k * 5) (w.heap.size + 1) wr (Below.refl _ wr) (Nat.le_refl _)).block _ (by omega))

set_option maxHeartbeats 400000 in
set_option maxRecDepth 100000 in
theorem cmd_any (a : Option Addr) (cap : Nat) (z : Int) (ss : List ByteArray) (w : World) (hl : ss.length ≤ 65536) (h : Strs w a ss) :
    Calls Try.prog 47 #[.slice a ss.length cap, .int .i64 z] w fun e w' => ∃ g, e = .returned (.agg #[.int .u8 42, .string ⟨#[]⟩, .int .i64 0, .slice (some ⟨g, 0, none⟩) ss.length ss.length, .bool false]) ∧ Tab w' g 65 (ss.length * 5) (row ss z ss.length) ∧ Below w.heap.size w w' := by
  obtain ⟨i0, hi, hz0, hz1, hz2⟩ := info_parts info65
  have hmk := fun wx => run_make (P := Try.prog) wx 63 65 i0 _ Try.underlying63 hi hz0 .i64 .i64 ss.length ss.length (by omega) (by omega) (by rw [hz2]; omega) (by omega)
  rw [hz1] at hmk
  simp only [Int.toNat_natCast, Value.cells] at hmk
  go_enter Try.func47, Try.ntmps47
  go_wp2
  clear hmk
  go_loopw [6] (fun i wr => ∃ k : Nat, k ≤ ss.length ∧ i = .int .i64 k ∧ Tab wr (w.heap.size + 1) 65 (ss.length * 5) (row ss z k) ∧ Tab wr w.heap.size 65 5 nl ∧ Below w.heap.size w wr) (fun i _ => ss.length - (intOf i).toNat)
  case atStart =>
    refine ⟨0, Nat.zero_le _, rfl, ?_, ?_, ((Below.refl _ _).alloc (Nat.le_refl _) _).alloc (by simp) _⟩
    · refine ⟨_, heap_alloc2_new _ _ _, size_madeCells _ _, fun j hj => ?_⟩
      rw [made_get _ _ _ (by simp) hj, row_start]
      exact congrArg some (nl_get (j % 5) (by omega))
    · refine ⟨_, heap_alloc2_old _ _ _, rfl, fun j hj => ?_⟩
      match j, hj with
      | 0, _ => rfl
      | 1, _ => rfl
      | 2, _ => rfl
      | 3, _ => rfl
      | 4, _ => rfl
  case round =>
    obtain ⟨k, hk, rfl, ht1, ht0, hb⟩ := hrel
    by_cases hlt : k < ss.length
    · rcases h with rfl | ⟨b, off, rfl, hbb, hc⟩
      · simp at hlt
      have hcell := (below_row hb hbb (off + k)).trans (hc k hlt)
      have hth := ht1.there (k * 5) 5 (by omega)
      have R1 : Hid (∀ w1 : World, w1 = wr.setCells (w.heap.size + 1) (k * 5) [Value.int .u8 36, .string (ss.getD k ByteArray.empty), .int .i64 z, .slice none 0 0, .bool false] → Tab w1 (w.heap.size + 1) 65 (ss.length * 5) (row ss z (k + 1)) ∧ Tab w1 w.heap.size 65 5 nl ∧ Below w.heap.size w w1) :=
        fun w1 hw1 => by rw [hw1]; exact cmd_round w wr ss z k _ ht1 ht0 hb _ rfl
      clear hc ht1 ht0 hb
      generalize ss.getD k ByteArray.empty = s at hcell R1
      go_wp2_with (refine st65 (w.heap.size + 1) (k * 5) s z rfl rfl hth ?_)
      intro w1 hw1
      obtain ⟨T1, T0, TB⟩ := R1.out _ hw1
      clear hw1 R1 hth hcell
      go_wp2
      go_roundw
      case rel => exact ⟨k + 1, by omega, by go_num, T1, T0, TB⟩
      case measure => simp [intOf]; omega
    · obtain rfl : k = ss.length := by omega
      clear hk hlt
      go_wp2_with (refine st65r w.heap.size (some ⟨w.heap.size + 1, 0, none⟩) ss.length ss.length rfl rfl ht0 ?_)
      intro w1 hw1
      obtain ⟨S1, S2, S3⟩ := setRow_facts _ hw1 ht0 hb (Nat.le_refl _)
      have T1 := ht1.kept (S3 _ (by omega))
      clear hw1 ht1 ht0 hb
      go_wp2
      refine bodyPost_ret (v := .agg #[.int .u8 42, .string ⟨#[]⟩, .int .i64 0, .slice (some ⟨w.heap.size + 1, 0, none⟩) ss.length ss.length, .bool false]) ?_ rfl ⟨_, rfl, T1, S2⟩
      exact results_cell_row Try.results47 _ _ w.heap.size 65 _ (0, 0) _ rfl S1 Try.underlying65 rfl size65
end Go.Proofs.Qxb6001659a.Sim
