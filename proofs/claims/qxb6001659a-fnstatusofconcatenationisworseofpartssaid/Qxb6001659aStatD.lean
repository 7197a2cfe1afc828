import Derived.Test.Qxb6001659aStatC
namespace Go.Proofs.Qxb6001659a.Stat
open Go.RowKit

theorem Strs.below {w w' : World} {a : Option Addr} {ss : List ByteArray} (h : Strs w a ss) (hb : Below w.heap.size w w') : Strs w' a ss := by
  rcases h with rfl | ⟨b, off, rfl, hbb, hc⟩
  · exact .inl rfl
  · exact .inr ⟨b, off, rfl, Nat.lt_of_lt_of_le hbb hb.size, fun i hi => (below_row hb hbb _).trans (hc i hi)⟩

theorem strs_of_row {w : World} {g : Nat} {ss : List ByteArray} (h : w.heap[g]? = some (.cells (ss.map Value.string).toArray 9 (0, 0))) : Strs w (some ⟨g, 0, none⟩) ss := by
  refine .inr ⟨g, 0, rfl, lt_of_block h, fun i hi => ?_⟩
  rw [cell_of_row _ _ _ _ _ _ h]
  simp [List.getD, hi]

theorem clone_any (a : Option Addr) (n cap : Nat) (ss : List ByteArray) (w : World) (hn : n = ss.length) (hl : ss.length ≤ 1048576) (h : Strs w a ss) (h0 : a = none → n = 0 ∧ cap = 0) :
    Calls Try.prog 41 #[.slice a n cap] w fun e w' => ∃ a' c', e = .returned (.slice a' ss.length c') ∧ Strs w' a' ss ∧ Below w.heap.size w w' := by
  subst hn
  cases a with
  | none =>
    obtain ⟨h1, rfl⟩ := h0 rfl
    obtain rfl := List.eq_nil_of_length_eq_zero h1
    refine (clone_nil w).mono ?_
    rintro e w' ⟨rfl, rfl⟩
    exact ⟨none, 0, rfl, h, Below.refl _ _⟩
  | some x =>
    refine (clone_some x cap ss w hl h).mono ?_
    rintro e w' ⟨rfl, hr, hb⟩
    exact ⟨_, _, rfl, strs_of_row hr, hb⟩

theorem code_one (s : ByteArray) : code [s] = if isO s then 2 else if isS s then 1 else 0 := by simp [code]

theorem rank_is (n : Nat) (z : Int) (hn : n ≤ 2) (hz : z = n) (w : World) : Calls Try.prog 42 #[.string (word n)] w fun e w' => e = .returned (.int .i64 z) ∧ w' = w := by
  subst hz
  exact rank_any n hn w

theorem one_str (s : ByteArray) : ∀ u ∈ [Value.string s], u.oneCell' = true := by
  intro u hu
  simp at hu
  subst hu
  rfl
/-- The strings as cells. -/
def vals (ss : List ByteArray) : List Value := ss.map Value.string
theorem vals_succ (p ss : List ByteArray) (k : Nat) (hk : k < ss.length) : vals (p ++ ss.take k) ++ [Value.string (ss.getD k ByteArray.empty)] = vals (p ++ ss.take (k + 1)) := by
  rw [List.take_succ_eq_append_getElem hk]
  simp only [vals, List.map_append, List.map_cons, List.map_nil, List.append_assoc, List.getD, List.getElem?_eq_getElem hk, Option.getD_some]
theorem vals_succ0 (ss : List ByteArray) (k : Nat) (hk : k < ss.length) : vals (ss.take k) ++ [Value.string (ss.getD k ByteArray.empty)] = vals (ss.take (k + 1)) := by
  simpa using vals_succ [] ss k hk
theorem strs_own {w : World} {g cap n : Nat} {ss : List ByteArray} (hn : n = ss.length) (h : w.ownsRow g 9 1 (.slice (some ⟨g, 0, none⟩) n cap) n (vals ss)) : Strs w (some ⟨g, 0, none⟩) ss := by
  subst hn
  cases hs : ss with
  | nil => exact .inl rfl
  | cons x l =>
    rw [← hs]
    have hc : ∀ i, i < ss.length → w.cell? ⟨g, 0 + i, none⟩ = some (.string (ss.getD i ByteArray.empty)) := by
      intro i hi
      rw [Nat.zero_add, h.cellAt i (by omega)]
      simp [vals, List.getD, hi]
    have := block_lt_of_cell (hc 0 (by rw [hs]; simp))
    exact .inr ⟨g, 0, rfl, this, hc⟩

theorem strs_new (w : World) (s : ByteArray) : Strs (w.alloc (.cells #[.string s] 9)) (some ⟨w.heap.size, 0, none⟩) [s] :=
  strs_of_row (heap_alloc_new w _)

set_option maxHeartbeats 1000000 in
set_option maxRecDepth 100000 in
theorem law (a b : Option Addr) (ca cb : Nat) (ss tt : List ByteArray) (w : World) (ha : Strs w a ss) (hb : Strs w b tt) (ha0 : a = none → ss.length = 0 ∧ ca = 0) (hb0 : b = none → tt.length = 0 ∧ cb = 0) :
    Calls Try.prog 9 #[.slice a ss.length ca, .slice b tt.length cb] w fun e w' => e = .returned (.bool true) ∧ Below w.heap.size w w' := by
  have HA := ha
  have HB := hb
  by_cases hn : (65536 : Int) < ss.length
  · go_enter Try.func9, Try.ntmps9
    go_wp2_with fail
    refine (zzb_any a b ca cb ss tt _ HA HB).mono ?_
    rintro e w' ⟨⟨z, rfl⟩, rfl⟩
    cases z
    · go_wp2_with fail
      go_ret
      exact ⟨rfl, Below.refl _ _⟩
    · go_wp2_with fail
      go_ret
      exact ⟨rfl, Below.refl _ _⟩
  by_cases hn' : (65536 : Int) < tt.length
  · go_enter Try.func9, Try.ntmps9
    go_wp2_with fail
    refine (zzb_any a b ca cb ss tt _ HA HB).mono ?_
    rintro e w' ⟨⟨z, rfl⟩, rfl⟩
    cases z
    · go_wp2_with fail
      go_ret
      exact ⟨rfl, Below.refl _ _⟩
    · go_wp2_with fail
      go_ret
      exact ⟨rfl, Below.refl _ _⟩
  have d1 : decide ((65536 : Int) < ss.length) = false := decide_eq_false hn
  have d2 : decide ((65536 : Int) < tt.length) = false := decide_eq_false hn'
  have l1 : (ss.length : Int) ≤ 65536 := by omega
  have l2 : (tt.length : Int) ≤ 65536 := by omega
  clear hn hn'
  go_enter Try.func9, Try.ntmps9
  go_wp2_with fail
  refine (zzb_any a b ca cb ss tt _ HA HB).mono ?_
  rintro e w' ⟨⟨z, rfl⟩, rfl⟩
  cases z
  · go_wp2_with fail
    go_ret
    exact ⟨rfl, Below.refl _ _⟩
  go_wp2_with fail
  go_loop [5, 6] (fun t i => ∃ (k : Nat) (z : Int), k ≤ ss.length ∧ i = .int .i64 k ∧ t = .int .i64 z) (fun _ i => ss.length - (intOf i).toNat)
  case atStart => exact ⟨0, _, Nat.zero_le _, rfl, rfl⟩
  case round =>
    obtain ⟨k, z, hk, rfl, rfl⟩ := hrel
    by_cases hlt : k < ss.length
    · rcases ha with rfl | ⟨b, off, rfl, _, hc⟩
      · simp at hlt
      have hcell := hc k hlt
      clear hc
      generalize ss.getD k ByteArray.empty = s at hcell
      go_wp2
      · go_ret
        exact ⟨rfl, Below.refl _ _⟩
      · go_round
        case rel => exact ⟨k + 1, _, by omega, by go_num, rfl⟩
        case measure => simp [intOf]; omega
    · clear hk
      go_wp2_with fail
      clear hlt
      go_loop [5, 7] (fun t i => ∃ (k : Nat) (z : Int), k ≤ tt.length ∧ i = .int .i64 k ∧ t = .int .i64 z) (fun _ i => tt.length - (intOf i).toNat)
      case atStart => exact ⟨0, _, Nat.zero_le _, rfl, rfl⟩
      case round =>
        obtain ⟨k', z', hk', rfl, rfl⟩ := hrel
        by_cases hlt : k' < tt.length
        · rcases hb with rfl | ⟨b, off, rfl, _, hc⟩
          · simp at hlt
          have hcell := hc k' hlt
          clear hc
          generalize tt.getD k' ByteArray.empty = s at hcell
          go_wp2
          · go_ret
            exact ⟨rfl, Below.refl _ _⟩
          · go_round
            case rel => exact ⟨k' + 1, _, by omega, by go_num, rfl⟩
            case measure => simp [intOf]; omega
        · clear hk'
          go_wp2_with fail
          clear hlt
          refine (clone_any a _ ca ss _ rfl (by omega) HA ha0).mono ?_
          rintro e w1 ⟨a1, c1, rfl, hs1, hb1⟩
          have HB1 := HB.below hb1
          clear ha hb HA HB ha0
          go_wp2_with fail
          refine (clone_any b _ cb tt _ rfl (by omega) HB1 hb0).mono ?_
          rintro e w2 ⟨b1, c2, rfl, ht2, hb2⟩
          have hs2 := hs1.below hb2
          have hb2' : Hid (Below w'.heap.size w' w2) := hb1.trans (hb2.mono hb1.size)
          clear hb0 HB1 hs1 hb1 hb2
          go_wp2_with fail
          refine (zzStatus_any none 0 0 [] _ rfl (by simp) (.inl rfl)).mono ?_
          rintro e w3 ⟨rfl, rfl⟩
          go_wp2_with fail
          refine (rank_is (code []) 0 (code_le _) rfl _).mono ?_
          rintro e w4 ⟨rfl, rfl⟩
          go_wp2_with fail
          refine (zzStatus_any _ 0 0 [] _ rfl (by simp) (.inl rfl)).mono ?_
          rintro e w5 ⟨rfl, rfl⟩
          go_wp2_with fail
          refine (rank_is (code []) 0 (code_le _) rfl _).mono ?_
          rintro e w6 ⟨rfl, rfl⟩
          go_wp2_with fail
          have al : ∀ (wx : World) (o : Obj), Below wx.heap.size wx (wx.alloc o) := fun wx o => (Below.refl _ _).alloc (Nat.le_refl _) o
          go_loopw [8] (fun i wr => ∃ k : Nat, k ≤ ss.length ∧ i = .int .i64 k ∧ Strs wr a1 ss ∧ Strs wr b1 tt ∧ Below w'.heap.size w' wr) (fun i _ => ss.length - (intOf i).toNat)
          case atStart => exact ⟨0, Nat.zero_le _, rfl, hs2.below (al _ _), ht2.below (al _ _), hb2'.out.alloc hb2'.out.size _⟩
          case round =>
            clear hs2 ht2 hb2'
            obtain ⟨q, hq, rfl, hs3, ht3, hb3⟩ := hrel
            by_cases hlt : q < ss.length
            · have HS := hs3
              rcases hs3 with rfl | ⟨bb, off, rfl, hbb, hc⟩
              · simp at hlt
              have hcell := hc q hlt
              clear hc
              generalize ss.getD q ByteArray.empty = s at hcell
              have R1 := HS.below (al wr (.cells #[.string s] 9))
              have R2 := ht3.below (al wr (.cells #[.string s] 9))
              have R3 : Hid (Below w'.heap.size w' (wr.alloc (.cells #[.string s] 9))) := hb3.alloc hb3.size _
              clear HS ht3 hb3 al
              by_cases c1 : (s.toList == [111, 95, 100, 111, 119, 110]) = true
              · have e1 : code [s] = 2 := by rw [code_one]; simp [isO, c1]
                go_wp2_with fail
                refine (zzStatus_any _ 1 1 [s] _ rfl (by simp) (strs_new wr s)).mono ?_
                rintro e w6 ⟨rfl, rfl⟩
                go_wp2_with fail
                refine (rank_is _ 2 (by decide) rfl _).mono ?_
                rintro e w6 ⟨rfl, rfl⟩
                go_wp2_with fail
                go_roundw
                case rel => exact ⟨q + 1, by omega, by go_num, R1, R2, R3.out⟩
                case measure => simp [intOf]; omega
              · have c1' : (s.toList == [111, 95, 100, 111, 119, 110]) = false := by simpa using c1
                clear c1
                by_cases c2 : (s.toList == [115, 95, 100, 111, 119, 110]) = true
                · have e1 : code [s] = 1 := by rw [code_one]; simp [isO, isS, c1', c2]
                  go_wp2_with fail
                  refine (zzStatus_any _ 1 1 [s] _ rfl (by simp) (strs_new wr s)).mono ?_
                  rintro e w6 ⟨rfl, rfl⟩
                  go_wp2_with fail
                  refine (rank_is _ 1 (by decide) rfl _).mono ?_
                  rintro e w6 ⟨rfl, rfl⟩
                  go_wp2_with fail
                  go_roundw
                  case rel => exact ⟨q + 1, by omega, by go_num, R1, R2, R3.out⟩
                  case measure => simp [intOf]; omega
                · have c2' : (s.toList == [115, 95, 100, 111, 119, 110]) = false := by simpa using c2
                  clear c2
                  have e1 : code [s] = 0 := by rw [code_one]; simp [isO, isS, c1', c2']
                  go_wp2_with fail
                  refine (zzStatus_any _ 1 1 [s] _ rfl (by simp) (strs_new wr s)).mono ?_
                  rintro e w6 ⟨rfl, rfl⟩
                  go_wp2_with fail
                  refine (rank_is _ 0 (by decide) rfl _).mono ?_
                  rintro e w6 ⟨rfl, rfl⟩
                  go_wp2_with fail
                  go_roundw
                  case rel => exact ⟨q + 1, by omega, by go_num, R1, R2, R3.out⟩
                  case measure => simp [intOf]; omega
            · clear hq
              obtain ⟨i0, hi, hz0, hz1, hz2⟩ := info_parts info9
              have hmk := run_make (P := Try.prog) wr 27 9 i0 _ Try.underlying27 hi hz0 .i64 .i64 0 (ss.length + tt.length) (by omega) (by omega) (by rw [hz2]; omega) (by omega)
              rw [hz1] at hmk
              have et : ((ss.length : Int) + tt.length).toNat = ss.length + tt.length := by omega
              simp only [Nat.mul_one, Int.toNat_zero, et] at hmk
              go_wp2_with fail
              clear hmk hlt
              obtain ⟨wo, rfl⟩ : ∃ wo : World, wo = wr := ⟨_, rfl⟩
              have hbo : Hid (Below w'.heap.size w' wo) := hb3
              clear hb3 al
              go_loopw [10, 11] (fun v i wr => ∃ k : Nat, k ≤ ss.length ∧ i = .int .i64 k ∧ v = .slice (some ⟨wo.heap.size, 0, none⟩) k (ss.length + tt.length) ∧ wr.ownsRow wo.heap.size 9 1 (.slice (some ⟨wo.heap.size, 0, none⟩) k (ss.length + tt.length)) k (vals (ss.take k)) ∧ Below wo.heap.size wo wr) (fun _ i _ => ss.length - (intOf i).toNat)
              case atStart =>
                refine ⟨0, Nat.zero_le _, rfl, rfl, ?_, (Below.refl _ _).alloc (Nat.le_refl _) _⟩
                exact World.ownsRow_made wo _ _ (Nat.le_refl _) (by unfold maxLen; omega) (by rw [size_madeCells]; omega)
              case round =>
                obtain ⟨k1, hk1, rfl, rfl, hown, hbw⟩ := hrel
                by_cases hlt : k1 < ss.length
                · have HS := hs3
                  rcases hs3 with rfl | ⟨bb, off, rfl, hbb, hc⟩
                  · simp at hlt
                  have hcell := (below_row hbw hbb (off + k1)).trans (hc k1 hlt)
                  have hsz := hbw.size
                  have R0 : Hid (vals (ss.take k1) ++ [Value.string (ss.getD k1 ByteArray.empty)] = vals (ss.take (k1 + 1))) := vals_succ0 ss k1 hlt
                  clear hc HS
                  generalize ss.getD k1 ByteArray.empty = s at hcell R0
                  have hown1 := hown.alloc (.cells #[.string s] 9)
                  have R2 : Hid (Below wo.heap.size wo (wr.alloc (.cells #[.string s] 9))) := hbw.alloc hbw.size _
                  clear hown hbw
                  go_wp2_with (at_builtin; refine wpList_append_fits _ rfl (.tmp 116) (.tmp 121) 27 rfl wo.heap.size 9 i0 1 Try.underlying27 hi hz1 wo.heap.size k1 (ss.length + tt.length) (vals (ss.take k1)) rfl hown1 ⟨wr.heap.size, 0, none⟩ 1 1 [.string s] rfl rfl (cell_one_new _ _ _) (one_str s) (by omega) ?_)
                  intro w1 hown2 hgrow
                  rw [R0.out] at hown2
                  have R3 : Hid (Below wo.heap.size wo w1) := R2.out.grown hgrow R2.out.size (fun k e => by cases e; exact Nat.le_refl _)
                  clear R2 hgrow hown1 hcell
                  go_wp2_with fail
                  go_roundw
                  case rel => exact ⟨k1 + 1, by omega, by go_num, rfl, hown2, R3.out⟩
                  case measure => simp [intOf]; omega
                · obtain rfl : k1 = ss.length := by omega
                  have ho0 : wr.ownsRow wo.heap.size 9 1 (.slice (some ⟨wo.heap.size, 0, none⟩) (ss.length + 0) (ss.length + tt.length)) (ss.length + 0) (vals (ss ++ tt.take 0)) := by
                    simpa using hown
                  have ho1 : Hid (wr.ownsRow wo.heap.size 9 1 (.slice (some ⟨wo.heap.size, 0, none⟩) (ss.length + 0) (ss.length + tt.length)) (ss.length + 0) (vals (ss ++ tt.take 0))) := ho0
                  clear ho0
                  clear hown
                  go_wp2_with fail
                  obtain ⟨w8, rfl⟩ : ∃ w8 : World, w8 = wr := ⟨_, rfl⟩
                  clear hlt
                  go_loopw [10, 12] (fun v i wr => ∃ k : Nat, k ≤ tt.length ∧ i = .int .i64 k ∧ v = .slice (some ⟨wo.heap.size, 0, none⟩) (ss.length + k) (ss.length + tt.length) ∧ wr.ownsRow wo.heap.size 9 1 (.slice (some ⟨wo.heap.size, 0, none⟩) (ss.length + k) (ss.length + tt.length)) (ss.length + k) (vals (ss ++ tt.take k)) ∧ Below wo.heap.size wo wr) (fun _ i _ => tt.length - (intOf i).toNat)
                  case atStart =>
                    exact ⟨0, Nat.zero_le _, rfl, rfl, ho1.out, hbw⟩
                  case round =>
                    clear hbw ho1
                    obtain ⟨k2, hk2, rfl, rfl, hown, hbw⟩ := hrel
                    by_cases hlt : k2 < tt.length
                    · have HS := ht3
                      rcases ht3 with rfl | ⟨bb, off, rfl, hbb, hc⟩
                      · simp at hlt
                      have hcell := (below_row hbw hbb (off + k2)).trans (hc k2 hlt)
                      have hsz := hbw.size
                      have R0 : Hid (vals (ss ++ tt.take k2) ++ [Value.string (tt.getD k2 ByteArray.empty)] = vals (ss ++ tt.take (k2 + 1))) := vals_succ ss tt k2 hlt
                      clear hc HS
                      generalize tt.getD k2 ByteArray.empty = s at hcell R0
                      have hown1 := hown.alloc (.cells #[.string s] 9)
                      have R2 : Hid (Below wo.heap.size wo (wr.alloc (.cells #[.string s] 9))) := hbw.alloc hbw.size _
                      clear hown hbw
                      go_wp2_with (at_builtin; refine wpList_append_fits _ rfl (.tmp 129) (.tmp 134) 27 rfl wo.heap.size 9 i0 1 Try.underlying27 hi hz1 wo.heap.size (ss.length + k2) (ss.length + tt.length) (vals (ss ++ tt.take k2)) rfl hown1 ⟨wr.heap.size, 0, none⟩ 1 1 [.string s] rfl rfl (cell_one_new _ _ _) (one_str s) (by omega) ?_)
                      intro w1 hown2 hgrow
                      rw [R0.out] at hown2
                      have R3 : Hid (Below wo.heap.size wo w1) := R2.out.grown hgrow R2.out.size (fun k e => by cases e; exact Nat.le_refl _)
                      clear R2 hgrow hown1 hcell
                      go_wp2_with fail
                      go_roundw
                      case rel => exact ⟨k2 + 1, by omega, by go_num, rfl, hown2, R3.out⟩
                      case measure => simp [intOf]; omega
                    · obtain rfl : k2 = tt.length := by omega
                      have S1 := hs3.below hbw
                      have S2 := ht3.below hbw
                      have S3 : Strs wr (some ⟨wo.heap.size, 0, none⟩) (ss ++ tt) := strs_own (n := ss.length + tt.length) (cap := ss.length + tt.length) (by simp) (by simpa using hown)
                      clear hlt hk2 hown
                      have e1 := code_le ss
                      have e2 := code_le tt
                      have E3 : Hid (code (ss ++ tt) = max (code ss) (code tt)) := code_app ss tt
                      have e3 := code_le (ss ++ tt)
                      have R9 : Hid (Below w'.heap.size w' wr) := hbo.out.trans (hbw.mono hbo.out.size)
                      clear hbw
                      go_wp2_with fail
                      refine (zzStatus_any _ _ _ ss _ rfl (by omega) S1).mono ?_
                      rintro e w9 ⟨rfl, rfl⟩
                      go_wp2_with fail
                      refine (rank_any _ e1 _).mono ?_
                      rintro e w9 ⟨rfl, rfl⟩
                      go_wp2_with fail
                      refine (zzStatus_any _ _ _ tt _ rfl (by omega) S2).mono ?_
                      rintro e w9 ⟨rfl, rfl⟩
                      go_wp2_with fail
                      refine (rank_any _ e2 _).mono ?_
                      rintro e w9 ⟨rfl, rfl⟩
                      go_wp2_with fail
                      refine (zzStatus_any _ _ _ (ss ++ tt) _ (by simp) (by simp; omega) S3).mono ?_
                      rintro e w9 ⟨rfl, rfl⟩
                      go_wp2_with fail
                      refine (rank_any _ e3 _).mono ?_
                      rintro e w9 ⟨rfl, rfl⟩
                      go_wp2_with fail
                      · go_ret
                        have hlt : code ss < code tt := by assumption
                        exact ⟨by rw [show (((code (ss ++ tt) : Nat) : Int) == ((code tt : Nat) : Int)) = true from beq_iff_eq.2 (by rw [E3.out]; omega)]; rfl, R9.out⟩
                      · go_ret
                        have hlt : ¬ code ss < code tt := by assumption
                        exact ⟨by rw [show (((code (ss ++ tt) : Nat) : Int) == ((code ss : Nat) : Int)) = true from beq_iff_eq.2 (by rw [E3.out]; omega)]; rfl, R9.out⟩
end Go.Proofs.Qxb6001659a.Stat
