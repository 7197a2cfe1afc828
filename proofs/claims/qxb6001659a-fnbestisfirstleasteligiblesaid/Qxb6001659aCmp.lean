import Derived.Test.Qxb6001659aCandP
namespace Go.Proofs.Qxb6001659a.Cand
open Go.RowKit

/-- Some bool came back. -/
def SomeBool (e : Ending) : Prop := ∃ b, e = .returned (.bool b)

theorem three_boxes (w : World) (o1 o2 o3 : Obj) : Below w.heap.size w (((w.alloc o1).alloc o2).alloc o3) :=
  (((Below.refl _ _).alloc (Nat.le_refl _) _).alloc (by simp) _).alloc (by simp; omega) _

set_option maxHeartbeats 400000 in
theorem zzb36 (a b c : Cd) (w : World) : Calls Try.prog 36 #[a.val, b.val, c.val] w fun e w' => SomeBool e ∧ Below w.heap.size w w' := by
  go_enter Try.func36, Try.ntmps36
  go_wp2
  all_goals (go_ret; exact ⟨⟨_, rfl⟩, three_boxes _ _ _ _⟩)

set_option maxHeartbeats 400000 in
theorem fit37 (a b c : Cd) (w : World) : Calls Try.prog 37 #[a.val, b.val, c.val] w fun e w' => SomeBool e ∧ Below w.heap.size w w' := by
  by_cases h1 : (262144 : Int) < a.r.size
  · go_enter Try.func37, Try.ntmps37
    go_wp2
    all_goals (go_ret; exact ⟨⟨_, rfl⟩, three_boxes _ _ _ _⟩)
  · by_cases h2 : (262144 : Int) < b.r.size
    · go_enter Try.func37, Try.ntmps37
      go_wp2
      all_goals (go_ret; exact ⟨⟨_, rfl⟩, three_boxes _ _ _ _⟩)
    · go_enter Try.func37, Try.ntmps37
      go_wp2
      all_goals (go_ret; exact ⟨⟨_, rfl⟩, three_boxes _ _ _ _⟩)
end Go.Proofs.Qxb6001659a.Cand
namespace Go.Proofs.Qxb6001659a.Cand
open Go.RowKit
/-- The seven cells. -/
abbrev Cd.arr (c : Cd) : Array Value := #[.string c.r, .int .i64 c.p, .int .i64 c.o, .bool c.sd, .bool c.dc, .bool c.si, .bool c.ld]
/-- Block g holds the candidate c from its head on. -/
def Box (w : World) (g : Nat) (c : Cd) : Prop := g < w.heap.size ∧ ∀ j, w.cell? ⟨g, j, none⟩ = c.arr[j]?
theorem Box.below {w w' : World} {g : Nat} {c : Cd} (h : Box w g c) (hb : Below w.heap.size w w') : Box w' g c :=
  ⟨Nat.lt_of_lt_of_le h.1 hb.size, fun j => (hb.cell (p := ⟨g, j, none⟩) h.1).trans (h.2 j)⟩
theorem Box.alloc {w : World} {g : Nat} {c : Cd} (h : Box w g c) (o : Obj) : Box (w.alloc o) g c := h.below (one_box w o)
theorem Box.fresh (w : World) (c : Cd) (t : TypeId) : Box (w.alloc (.cells c.arr t)) w.heap.size c :=
  ⟨by simp, fun j => cell_of_row _ _ _ _ _ _ (heap_alloc_new w _)⟩
theorem Box.fresh1 (w : World) (c : Cd) (t : TypeId) (o : Obj) : Box ((w.alloc o).alloc (.cells c.arr t)) (w.heap.size + 1) c := by
  have := Box.fresh (w.alloc o) c t
  simpa using this
theorem Box.fresh2 (w : World) (c : Cd) (t : TypeId) (o o' : Obj) : Box (((w.alloc o).alloc o').alloc (.cells c.arr t)) (w.heap.size + 1 + 1) c := by
  have := Box.fresh ((w.alloc o).alloc o') c t
  simpa using this

set_option maxHeartbeats 1000000 in
set_option maxRecDepth 100000 in
theorem cmp_law (a b c : Cd) (w : World) : Calls Try.prog 8 #[a.val, b.val, c.val] w fun e w' => e = .returned (.bool true) ∧ Below w.heap.size w w' := by
  go_enter Try.func8, Try.ntmps8
  go_wp2_with fail
  refine (zzb36 a b c _).mono ?_
  rintro e w1 ⟨⟨z, rfl⟩, hb1⟩
  have A1 := ((((Box.fresh w a 50).alloc (.cells b.arr 50)).alloc (.cells c.arr 50))).below hb1
  have B1 := ((Box.fresh1 w b 50 (.cells a.arr 50)).alloc (.cells c.arr 50)).below hb1
  have C1 := (Box.fresh2 w c 50 (.cells a.arr 50) (.cells b.arr 50)).below hb1
  have K1 : Hid (Below w.heap.size w w1) := (three_boxes w _ _ _).trans (hb1.mono (by simp; omega))
  clear hb1
  cases z
  · go_wp2_with fail
    go_ret
    exact ⟨rfl, K1.out⟩
  have ra := A1.2
  have rb := B1.2
  have rc := C1.2
  go_wp2_with fail
  refine (fit37 a b c _).mono ?_
  rintro e w2 ⟨⟨z, rfl⟩, hb2⟩
  have A2 := A1.below hb2
  have B2 := B1.below hb2
  have C2 := C1.below hb2
  have K2 : Hid (Below w.heap.size w w2) := K1.out.trans (hb2.mono K1.out.size)
  clear A1 B1 C1 K1 ra rb rc hb2
  cases z
  · go_wp2_with fail
    go_ret
    exact ⟨rfl, K2.out⟩
  have ra := A2.2
  go_wp2_with fail
  refine (toSel_any a _).mono ?_
  rintro e w3 ⟨rfl, hb3⟩
  have A3 := A2.below hb3
  have B3 := B2.below hb3
  have C3 := C2.below hb3
  have K3 : Hid (Below w.heap.size w w3) := K2.out.trans (hb3.mono K2.out.size)
  clear A2 B2 C2 K2 ra hb3
  have rb := fun o => (B3.alloc o).2
  go_wp2_with fail
  refine (toSel_any b _).mono ?_
  rintro e w4 ⟨rfl, hb4⟩
  have B4 := (B3.alloc (.cells a.arr 42)).below hb4
  have C4 := (C3.alloc (.cells a.arr 42)).below hb4
  have S4 := (Box.fresh w3 a 42).below hb4
  have K4 : Hid (Below w.heap.size w w4) := (K3.out.alloc K3.out.size (.cells a.arr 42)).trans (hb4.mono (by have := K3.out.size; simp; omega))
  clear A3 B3 C3 K3 rb hb4
  have rc := fun o => (C4.alloc o).2
  go_wp2_with fail
  refine (toSel_any c _).mono ?_
  rintro e w5 ⟨rfl, hb5⟩
  have S5 := (S4.alloc (.cells b.arr 42)).below hb5
  have T5 := (Box.fresh w4 b 42).below hb5
  have K5 : Hid (Below w.heap.size w w5) := (K4.out.alloc K4.out.size (.cells b.arr 42)).trans (hb5.mono (by have := K4.out.size; simp; omega))
  clear B4 C4 S4 K4 rc hb5
  have rs := fun o => (S5.alloc o).2
  have rt := fun o => (T5.alloc o).2
  go_wp2_with fail
  refine (zzcompare_any a b _).mono ?_
  rintro e w6 ⟨rfl, hb6⟩
  have S6 := (S5.alloc (.cells c.arr 42)).below hb6
  have T6 := (T5.alloc (.cells c.arr 42)).below hb6
  have U6 := (Box.fresh w5 c 42).below hb6
  have K6 : Hid (Below w.heap.size w w6) := (K5.out.alloc K5.out.size (.cells c.arr 42)).trans (hb6.mono (by have := K5.out.size; simp; omega))
  clear S5 T5 K5 rs rt hb6
  have rs := S6.2
  have rt := T6.2
  go_wp2_with fail
  refine (zzcompare_any b a _).mono ?_
  rintro e w7 ⟨rfl, hb7⟩
  have S7 := S6.below hb7
  have T7 := T6.below hb7
  have U7 := U6.below hb7
  have K7 : Hid (Below w.heap.size w w7) := K6.out.trans (hb7.mono K6.out.size)
  clear S6 T6 U6 K6 rs rt hb7
  rw [reason_symm b a]
  have rs := S7.2
  have rt := T7.2
  go_wp2_with fail
  refine (same_any a b _).mono ?_
  rintro e w8 ⟨rfl, hb8⟩
  have S8 := S7.below hb8
  have T8 := T7.below hb8
  have U8 := U7.below hb8
  have K8 : Hid (Below w.heap.size w w8) := K7.out.trans (hb8.mono K7.out.size)
  clear S7 T7 U7 K7 rs rt hb8
  have rs := S8.2
  have rt := T8.2
  have ru := U8.2
  cases hs : same a b
  · have hn := same_no a b hs
    cases hab : before a b
    · have hba : before b a = true := by rw [hab] at hn; simpa using hn.symm
      clear hn
      -- the tail: compare b and c, a and c
      go_wp2_with fail
      refine (zzcompare_any b c _).mono ?_
      rintro e w9 ⟨rfl, hb9⟩
      have S9 := S8.below hb9
      have U9 := U8.below hb9
      have K9 : Hid (Below w.heap.size w w9) := K8.out.trans (hb9.mono K8.out.size)
      clear S8 T8 U8 K8 rs rt ru hb9
      have rs := S9.2
      have ru := U9.2
      go_wp2_with fail
      refine (zzcompare_any a c _).mono ?_
      rintro e w10 ⟨rfl, hb10⟩
      have K10 : Hid (Below w.heap.size w w10) := K9.out.trans (hb10.mono K9.out.size)
      clear S9 U9 K9 rs ru hb10
      go_wp2_with fail
      go_ret
      exact ⟨rfl, K10.out⟩
    · have hba : before b a = false := by rw [hab] at hn; simpa using hn.symm
      clear hn
      -- the tail: compare b and c, a and c
      go_wp2_with fail
      refine (zzcompare_any b c _).mono ?_
      rintro e w9 ⟨rfl, hb9⟩
      have S9 := S8.below hb9
      have U9 := U8.below hb9
      have K9 : Hid (Below w.heap.size w w9) := K8.out.trans (hb9.mono K8.out.size)
      clear S8 T8 U8 K8 rs rt ru hb9
      have rs := S9.2
      have ru := U9.2
      go_wp2_with fail
      refine (zzcompare_any a c _).mono ?_
      rintro e w10 ⟨rfl, hb10⟩
      have K10 : Hid (Below w.heap.size w w10) := K9.out.trans (hb10.mono K9.out.size)
      clear S9 U9 K9 rs ru hb10
      cases hbc : before b c
      · go_wp2_with fail
        go_ret
        exact ⟨rfl, K10.out⟩
      · have hac := before_trans a b c hab hbc
        go_wp2_with fail
        go_ret
        exact ⟨rfl, K10.out⟩
  · obtain ⟨hab, hba, hre⟩ := same_yes a b hs
    -- the tail: compare b and c, a and c
    go_wp2_with fail
    refine (zzcompare_any b c _).mono ?_
    rintro e w9 ⟨rfl, hb9⟩
    have S9 := S8.below hb9
    have U9 := U8.below hb9
    have K9 : Hid (Below w.heap.size w w9) := K8.out.trans (hb9.mono K8.out.size)
    clear S8 T8 U8 K8 rs rt ru hb9
    have rs := S9.2
    have ru := U9.2
    go_wp2_with fail
    refine (zzcompare_any a c _).mono ?_
    rintro e w10 ⟨rfl, hb10⟩
    have K10 : Hid (Below w.heap.size w w10) := K9.out.trans (hb10.mono K9.out.size)
    clear S9 U9 K9 rs ru hb10
    go_wp2_with fail
    go_ret
    exact ⟨rfl, K10.out⟩
end Go.Proofs.Qxb6001659a.Cand
