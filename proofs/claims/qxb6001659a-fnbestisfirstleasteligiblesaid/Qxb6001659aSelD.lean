import Derived.Test.Qxb6001659aSelC
namespace Go.Proofs.Qxb6001659a.Cand
open Go.RowKit Go.Proofs.Qxb6001659a.Tb

theorem cloneC_any (a : Option Addr) (n cap : Nat) (cs : List Cd) (w : World) (hn : n = cs.length) (hl : cs.length ≤ 4096) (h : Cs w a cs) (h0 : a = none → n = 0 ∧ cap = 0) :
    Calls Try.prog 24 #[.slice a n cap] w fun e w' => ∃ a' c', e = .returned (.slice a' cs.length c') ∧ Cs w' a' cs ∧ (a' = none → cs.length = 0 ∧ c' = 0) ∧ Below w.heap.size w w' := by
  subst hn
  cases a with
  | none =>
    obtain ⟨h1, rfl⟩ := h0 rfl
    obtain rfl := List.eq_nil_of_length_eq_zero h1
    refine (cloneC_nil w).mono ?_
    rintro e w' ⟨rfl, rfl⟩
    exact ⟨none, 0, rfl, h, fun _ => ⟨rfl, rfl⟩, Below.refl _ _⟩
  | some x =>
    refine (cloneC_some x cap cs w hl h).mono ?_
    rintro e w' ⟨rfl, hr, hb⟩
    exact ⟨_, _, rfl, cs_of_tab hr, (fun h => by cases h), hb⟩

set_option maxHeartbeats 400000 in
theorem sels_nil (w : World) : Calls Try.prog 25 #[.slice none 0 0] w fun e w' => e = .returned (.slice none 0 0) ∧ w' = w := by
  have kn := fun (wx : World) (x : Option Addr) (l c : Nat) => Lib.run_eql_slice_nil (P := Try.prog) wx 33 50 x l c 0 0 Try.underlying33
  go_enter Try.func25, Try.ntmps25
  go_wp2
  go_ret
  exact ⟨rfl, rfl⟩

set_option maxHeartbeats 400000 in
theorem sels_some (x : Addr) (cap : Nat) (cs : List Cd) (w : World) (hl : cs.length ≤ 4096) (h : Cs w (some x) cs) :
    Calls Try.prog 25 #[.slice (some x) cs.length cap] w fun e w' => e = .returned (.slice (some ⟨w.heap.size, 0, none⟩) cs.length cs.length) ∧ Tab w' w.heap.size 42 (cs.length * 7) (crow cs cs.length) ∧ Below w.heap.size w w' := by
  have kn := fun (wx : World) (x : Option Addr) (l c : Nat) => Lib.run_eql_slice_nil (P := Try.prog) wx 33 50 x l c 0 0 Try.underlying33
  obtain ⟨i0, hi, hz0, hz1, hz2⟩ := info_parts info42
  have hmk := run_make (P := Try.prog) w 36 42 i0 _ Try.underlying36 hi hz0 .i64 .i64 cs.length cs.length (by omega) (by omega) (by rw [hz2]; omega) (by omega)
  rw [hz1] at hmk
  simp only [Int.toNat_natCast, Value.cells] at hmk
  go_enter Try.func25, Try.ntmps25
  go_wp2
  clear hmk
  go_loopw [4] (fun i wr => ∃ k : Nat, k ≤ cs.length ∧ i = .int .i64 k ∧ Tab wr w.heap.size 42 (cs.length * 7) (crow cs k) ∧ Below w.heap.size w wr) (fun i _ => cs.length - (intOf i).toNat)
  case atStart =>
    exact ⟨0, Nat.zero_le _, rfl, Tab.fresh w _ 42 _ (size_madeCells _ _) _ (fun j hj => crow_made cs _ j hj), (Below.refl _ _).alloc (Nat.le_refl _) _⟩
  case round =>
    obtain ⟨k, hk, rfl, ht, hb⟩ := hrel
    by_cases hlt : k < cs.length
    · rcases h with rfl | ⟨b, off, hx, hbb, hc⟩
      · simp at hlt
      obtain rfl := Option.some.inj hx
      have hr := range_below hb hbb (hc k hlt)
      have R0 : Hid (∀ w0, Below wr.heap.size wr w0 → w0.there w.heap.size (k * 7) 7 ∧ ∀ w1 : World, w1 = w0.setCells w.heap.size (k * 7) (at_ cs k).cells → Tab w1 w.heap.size 42 (cs.length * 7) (crow cs (k + 1)) ∧ Below w.heap.size w w1) :=
        fun w0 h0 => ⟨(ht.below h0).there (k * 7) 7 (by omega), fun w1 hw1 => copy_round (ht.below h0) (hb.trans (h0.mono hb.size)) (Nat.le_refl _) hw1⟩
      clear hc hx ht hb
      generalize at_ cs k = c at hr R0
      go_wp2_with (refine ld50 b (off + k * 7) c rfl hr ?_)
      refine (toSel_any c _).mono ?_
      rintro e w0 ⟨rfl, hb0⟩
      obtain ⟨hth, R1'⟩ := R0.out _ hb0
      have R1 : Hid (∀ w1 : World, w1 = w0.setCells w.heap.size (k * 7) c.cells → Tab w1 w.heap.size 42 (cs.length * 7) (crow cs (k + 1)) ∧ Below w.heap.size w w1) := R1'
      clear R0 R1' hb0 hr
      go_wp2_with (refine st42 w.heap.size (k * 7) c rfl rfl hth ?_)
      intro w1 hw1
      obtain ⟨T1, TB⟩ := R1.out _ hw1
      clear hw1 R1 hth
      go_wp2
      go_roundw
      case rel => exact ⟨k + 1, by omega, by go_num, T1, TB⟩
      case measure => simp [intOf]; omega
    · obtain rfl : k = cs.length := by omega
      go_wp2
      go_ret
      exact ⟨rfl, ht, hb⟩

theorem sels_any (a : Option Addr) (n cap : Nat) (cs : List Cd) (w : World) (hn : n = cs.length) (hl : cs.length ≤ 4096) (h : Cs w a cs) (h0 : a = none → cs.length = 0 ∧ cap = 0) :
    Calls Try.prog 25 #[.slice a n cap] w fun e w' => ∃ a' c', e = .returned (.slice a' cs.length c') ∧ Cs w' a' cs ∧ Below w.heap.size w w' := by
  subst hn
  cases a with
  | none =>
    obtain ⟨h1, rfl⟩ := h0 rfl
    obtain rfl := List.eq_nil_of_length_eq_zero h1
    refine (sels_nil w).mono ?_
    rintro e w' ⟨rfl, rfl⟩
    exact ⟨none, 0, rfl, h, Below.refl _ _⟩
  | some x =>
    refine (sels_some x cap cs w hl h).mono ?_
    rintro e w' ⟨rfl, hr, hb⟩
    exact ⟨_, _, rfl, cs_of_tab hr, hb⟩
end Go.Proofs.Qxb6001659a.Cand
