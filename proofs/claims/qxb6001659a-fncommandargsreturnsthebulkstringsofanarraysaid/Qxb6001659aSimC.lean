import Derived.Test.Qxb6001659aSimB
namespace Go.Proofs.Qxb6001659a.Sim
open Go.RowKit Go.Proofs.Qxb6001659a.Stat Go.Proofs.Qxb6001659a.Tb

/-- The strings as cells. -/
def vals (ss : List ByteArray) : List Value := ss.map Value.string
theorem vals_succ (ss : List ByteArray) (k : Nat) (hk : k < ss.length) : vals (ss.take k) ++ [Value.string (ss.getD k ByteArray.empty)] = vals (ss.take (k + 1)) := by
  rw [List.take_succ_eq_append_getElem hk]
  simp only [vals, List.map_append, List.map_cons, List.map_nil, List.getD, List.getElem?_eq_getElem hk, Option.getD_some]
theorem strs_own {w : World} {g cap n base : Nat} {ss : List ByteArray} (hn : n = ss.length) (h : w.ownsRow base 9 1 (.slice (some ⟨g, 0, none⟩) n cap) n (vals ss)) : Strs w (some ⟨g, 0, none⟩) ss := by
  subst hn
  cases hs : ss with
  | nil => exact .inl rfl
  | cons x l =>
    rw [← hs]
    have hc : ∀ i, i < ss.length → w.cell? ⟨g, 0 + i, none⟩ = some (.string (ss.getD i ByteArray.empty)) := by
      intro i hi
      rw [Nat.zero_add, h.cellAt i (by omega)]
      simp [vals, List.getD, hi]
    have := block_lt_of_cell (hc 0 (by rw [hs]; simp))
    exact .inr ⟨g, 0, rfl, this, hc⟩
theorem one_str (s : ByteArray) : ∀ u ∈ [Value.string s], u.oneCell' = true := by
  intro u hu
  simp at hu
  subst hu
  rfl

set_option maxHeartbeats 400000 in
set_option maxRecDepth 100000 in
theorem args_zero (x : Option Addr) (c : Nat) (w : World) :
    Calls Try.prog 67 #[.agg #[.int .u8 42, .string ⟨#[]⟩, .int .i64 0, .slice x 0 c, .bool false]] w fun e w' => e = .returned (.tuple #[.slice none 0 0, .bool false]) ∧ Below w.heap.size w w' := by
  go_enter Try.func67, Try.ntmps67
  go_wp2
  go_ret2
  exact ⟨rfl, (Below.refl _ _).alloc (Nat.le_refl _) _⟩

/-- The load of an element, as the walk meets it. -/
theorem ld65 {ops : Array Oper} {rest : List Oper} {a : Act} {w : World} {Q : Exit → Act → World → Prop} {d : Option Tmp} {ty : TypeId} {pos : String} {af : Array Edge} (g o : Nat) (s : ByteArray) (z : Int)
    (hx : a.eval (.tmp 25) = .pointer (some ⟨g, o, none⟩)) (hr : w.rangeAt g o [Value.int .u8 36, .string s, .int .i64 z, .slice none 0 0, .bool false])
    (h : wpList Try.prog ops Q rest (a.put d (.agg #[Value.int .u8 36, .string s, .int .i64 z, .slice none 0 0, .bool false])) w) :
    wpList Try.prog ops Q ({ dst := d, op := .load 65 (.tmp 25), type := ty, pos := pos, after := af, guard := none } :: rest) a w :=
  wpList_load_mid rfl 65 (.tmp 25) rfl g o hx _ _ hr Try.underlying65 rfl size65 h
theorem row_range {w : World} {g N : Nat} {ss : List ByteArray} {z : Int} (h : Tab w g 65 N (row ss z ss.length)) (k : Nat) (hk : k < ss.length) (hN : N = ss.length * 5) :
    w.rangeAt g (k * 5) [Value.int .u8 36, .string (ss.getD k ByteArray.empty), .int .i64 z, .slice none 0 0, .bool false] := by
  refine h.range (k * 5) _ (by simp; omega) fun j v hj => ?_
  have hj5 : j < 5 := (List.getElem?_eq_some_iff.1 hj).1
  unfold row
  rw [if_pos (by omega), show (k * 5 + j) / 5 = k by omega, show (k * 5 + j) % 5 = j by omega]
  rw [← el_get _ _ _ hj5, List.getD, hj]
  rfl

theorem one_new2 (w : World) (o : Obj) (s : ByteArray) : ∀ j u, [Value.string s][j]? = some u → ((w.alloc o).alloc (.cells #[.string s] 9)).cell? ((⟨w.heap.size + 1, 0, none⟩ : Addr).add j) = some u := by
  have h : (w.alloc o).heap.size = w.heap.size + 1 := by simp
  rw [← h]
  exact cell_one_new _ _ _

set_option maxHeartbeats 1000000 in
set_option maxRecDepth 100000 in
theorem args_some (g : Nat) (z : Int) (ss : List ByteArray) (w : World) (hl : ss.length ≤ 65536) (hp : 0 < ss.length) (ht : Tab w g 65 (ss.length * 5) (row ss z ss.length)) :
    Calls Try.prog 67 #[.agg #[.int .u8 42, .string ⟨#[]⟩, .int .i64 0, .slice (some ⟨g, 0, none⟩) ss.length ss.length, .bool false]] w fun e w' =>
      e = .returned (.tuple #[.slice (some ⟨w.heap.size + 1, 0, none⟩) ss.length ss.length, .bool true]) ∧ Strs w' (some ⟨w.heap.size + 1, 0, none⟩) ss ∧ Below w.heap.size w w' := by
  have hne : ((ss.length : Int) == 0) = false := beq_eq_false_iff_ne.2 (by omega)
  obtain ⟨i0, hi, hz0, hz1, hz2⟩ := info_parts info9
  have hmk := fun wx => run_make (P := Try.prog) wx 27 9 i0 _ Try.underlying27 hi hz0 .i64 .i64 0 ss.length (by omega) (by omega) (by rw [hz2]; omega) (by omega)
  rw [hz1] at hmk
  simp only [Nat.mul_one, Int.toNat_zero, Int.toNat_natCast] at hmk
  go_enter Try.func67, Try.ntmps67
  go_wp2
  clear hmk
  have hg := ht.lt
  go_loopw [4, 23] (fun v i wr => ∃ k : Nat, k ≤ ss.length ∧ i = .int .i64 k ∧ v = .slice (some ⟨w.heap.size + 1, 0, none⟩) k ss.length ∧ wr.ownsRow (w.heap.size + 1) 9 1 (.slice (some ⟨w.heap.size + 1, 0, none⟩) k ss.length) k (vals (ss.take k)) ∧ Below (w.heap.size + 1) (w.alloc (Obj.cells #[.int .u8 42, .string ⟨#[]⟩, .int .i64 0, .slice (some ⟨g, 0, none⟩) ss.length ss.length, .bool false] 65)) wr) (fun _ i _ => ss.length - (intOf i).toNat)
  case atStart =>
    refine ⟨0, Nat.zero_le _, rfl, rfl, ?_, (Below.refl _ _).alloc (by simp) _⟩
    have := World.ownsRow_made (base := w.heap.size + 1) (e := 9) (size := 1) (w.alloc (Obj.cells #[.int .u8 42, .string ⟨#[]⟩, .int .i64 0, .slice (some ⟨g, 0, none⟩) ss.length ss.length, .bool false] 65)) (madeCells #[Value.string ⟨#[]⟩] ss.length) ss.length (by simp) (by unfold maxLen; omega) (by rw [size_madeCells]; omega)
    simpa [vals] using this
  case round =>
    obtain ⟨k, hk, rfl, rfl, hown, hb⟩ := hrel
    have hb0 : Below w.heap.size w wr := ((Below.refl w.heap.size w).alloc (Nat.le_refl _) _).trans (hb.mono (by omega))
    by_cases hlt : k < ss.length
    · have hr := row_range (ht.below hb0) k hlt rfl
      have hsz : w.heap.size + 1 ≤ wr.heap.size := by have := hb.size; simpa using this
      have R0 : Hid (vals (ss.take k) ++ [Value.string (ss.getD k ByteArray.empty)] = vals (ss.take (k + 1))) := vals_succ ss k hlt
      generalize ss.getD k ByteArray.empty = s at hr R0
      have hown1 := (hown.alloc (.cells #[Value.int .u8 36, .string s, .int .i64 z, .slice none 0 0, .bool false] 65)).alloc (.cells #[.string s] 9)
      have R2 : Hid (Below (w.heap.size + 1) (w.alloc (Obj.cells #[.int .u8 42, .string ⟨#[]⟩, .int .i64 0, .slice (some ⟨g, 0, none⟩) ss.length ss.length, .bool false] 65)) ((wr.alloc (.cells #[Value.int .u8 36, .string s, .int .i64 z, .slice none 0 0, .bool false] 65)).alloc (.cells #[.string s] 9))) := (hb.alloc hsz _).alloc (by simp; omega) _
      clear hown hb hb0 ht
      go_wp2_with (first | (refine ld65 g (k * 5) s z rfl hr ?_) | (at_builtin; refine wpList_append_fits _ rfl (.tmp 34) (.tmp 37) 27 rfl (w.heap.size + 1) 9 i0 1 Try.underlying27 hi hz1 (w.heap.size + 1) k ss.length (vals (ss.take k)) rfl hown1 ⟨wr.heap.size + 1, 0, none⟩ 1 1 [.string s] rfl rfl ?_ (one_str s) (by omega) ?_))
      · exact one_new2 _ _ _
      · intro w1 hown2 hgrow
        rw [R0.out] at hown2
        have R3 : Hid (Below (w.heap.size + 1) (w.alloc (Obj.cells #[.int .u8 42, .string ⟨#[]⟩, .int .i64 0, .slice (some ⟨g, 0, none⟩) ss.length ss.length, .bool false] 65)) w1) := R2.out.grown hgrow (by simp; omega) (fun k e => by cases e; exact Nat.le_refl _)
        clear R2 hgrow hown1 hr R0
        go_wp2
        go_roundw
        case rel => exact ⟨k + 1, by omega, by go_num, rfl, hown2, R3.out⟩
        case measure => simp [intOf]; omega
    · obtain rfl : k = ss.length := by omega
      have S3 : Strs wr (some ⟨w.heap.size + 1, 0, none⟩) ss := strs_own (n := ss.length) (cap := ss.length) (base := w.heap.size + 1) rfl (by simpa using hown)
      clear hown hb ht hlt hk
      go_wp2
      go_ret2
      exact ⟨rfl, S3, hb0⟩

/-- ZZcommandArgs hands on. -/
theorem zzargs_zero (x : Option Addr) (c : Nat) (w : World) :
    Calls Try.prog 48 #[.agg #[.int .u8 42, .string ⟨#[]⟩, .int .i64 0, .slice x 0 c, .bool false]] w fun e w' => e = .returned (.tuple #[.slice none 0 0, .bool false]) ∧ Below w.heap.size w w' := by
  go_enter Try.func48, Try.ntmps48
  go_wp2_with fail
  refine (args_zero x c _).mono ?_
  rintro e w1 ⟨rfl, hb⟩
  go_wp2
  go_ret2
  exact ⟨rfl, ((Below.refl w.heap.size w).alloc (Nat.le_refl _) _).trans (hb.mono (by simp))⟩
theorem zzargs_some (g : Nat) (z : Int) (ss : List ByteArray) (w : World) (hl : ss.length ≤ 65536) (hp : 0 < ss.length) (ht : Tab w g 65 (ss.length * 5) (row ss z ss.length)) :
    Calls Try.prog 48 #[.agg #[.int .u8 42, .string ⟨#[]⟩, .int .i64 0, .slice (some ⟨g, 0, none⟩) ss.length ss.length, .bool false]] w fun e w' =>
      ∃ b, e = .returned (.tuple #[.slice (some ⟨b, 0, none⟩) ss.length ss.length, .bool true]) ∧ Strs w' (some ⟨b, 0, none⟩) ss ∧ Below w.heap.size w w' := by
  have HT := fun o => ht.alloc o
  go_enter Try.func48, Try.ntmps48
  go_wp2_with fail
  refine (args_some g z ss _ hl hp (HT _)).mono ?_
  rintro e w1 ⟨rfl, hs, hb⟩
  go_wp2
  go_ret2
  exact ⟨_, rfl, by simpa using hs, ((Below.refl w.heap.size w).alloc (Nat.le_refl _) _).trans (hb.mono (by simp))⟩
end Go.Proofs.Qxb6001659a.Sim
