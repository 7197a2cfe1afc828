import Derived.Test.Qxb6001659aSimC
namespace Go.Proofs.Qxb6001659a.Sim
open Go.RowKit Go.Proofs.Qxb6001659a.Stat Go.Proofs.Qxb6001659a.Tb

theorem same_any (b c c' : Nat) (a' : Option Addr) (ss : List ByteArray) (w : World) (hl : ss.length ≤ 1048576) (hp : 0 < ss.length) (h : Strs w (some ⟨b, 0, none⟩) ss) (h' : Strs w a' ss) :
    Calls Try.prog 49 #[.slice (some ⟨b, 0, none⟩) ss.length c, .slice a' ss.length c'] w fun e w' => e = .returned (.bool true) ∧ Below w.heap.size w w' := by
  rcases h with rfl | ⟨b1, o1, e1, _, hc⟩
  · simp at hp
  rcases h' with rfl | ⟨b2, o2, rfl, _, hc'⟩
  · simp at hp
  simp only [Option.some.injEq, Addr.mk.injEq, and_true] at e1
  obtain ⟨rfl, rfl⟩ := e1
  exact same_some b 0 c b2 o2 c' ss w hl hc hc'

set_option maxHeartbeats 400000 in
set_option maxRecDepth 100000 in
theorem sim_law (a : Option Addr) (cap : Nat) (z : Int) (ss : List ByteArray) (w : World) (ha : Strs w a ss) (ha0 : a = none → ss.length = 0 ∧ cap = 0) :
    Calls Try.prog 10 #[.slice a ss.length cap, .int .i64 z] w fun e w' => e = .returned (.bool true) ∧ Below w.heap.size w w' := by
  have kn := fun (wx : World) (x : Option Addr) (l c : Nat) => Lib.run_eql_slice_nil (P := Try.prog) wx 27 9 x l c 0 0 Try.underlying27
  go_enter Try.func10, Try.ntmps10
  go_wp2_with fail
  refine (zzb44 a cap z ss _ ha).mono ?_
  rintro e w' ⟨⟨q, rfl⟩, rfl⟩
  cases q
  · go_wp2_with fail
    go_ret
    exact ⟨rfl, Below.refl _ _⟩
  go_wp2_with fail
  refine (small45 a cap ss _ ha).mono ?_
  rintro e w' ⟨⟨q, rfl, hq⟩, rfl⟩
  cases q
  · go_wp2_with fail
    go_ret
    exact ⟨rfl, Below.refl _ _⟩
  have hl : ss.length ≤ 65536 := hq rfl
  clear hq
  go_wp2_with fail
  refine (clone_any a _ cap ss _ rfl (by omega) ha ha0).mono ?_
  rintro e w1 ⟨a1, c1, rfl, hs1, hb1⟩
  clear ha ha0
  go_wp2_with fail
  refine (cmd_any a1 c1 z ss _ hl hs1).mono ?_
  rintro e w2 ⟨g, rfl, ht2, hb2⟩
  have hs2 := Strs.below' hs1 hb2
  have hb2' : Hid (Below w'.heap.size w' w2) := hb1.trans (hb2.mono hb1.size)
  clear hs1 hb1 hb2
  by_cases hp : ss.length = 0
  · obtain rfl := List.eq_nil_of_length_eq_zero hp
    go_wp2_with fail
    refine (zzargs_zero _ _ _).mono ?_
    rintro e w3 ⟨rfl, hb3⟩
    have hb3' : Hid (Below w'.heap.size w' w3) := (hb2'.out.alloc hb2'.out.size _).trans (hb3.mono (by have := hb2'.out.size; simp; omega))
    clear hb3 hb2'
    go_wp2_with fail
    go_ret
    exact ⟨rfl, hb3'.out⟩
  · have hp0 : 0 < ss.length := by omega
    have hne : ((ss.length : Int) == 0) = false := beq_eq_false_iff_ne.2 (by omega)
    clear hp
    have HT := fun o => ht2.alloc o
    have HS := fun o => Strs.below' hs2 ((Below.refl w2.heap.size w2).alloc (Nat.le_refl _) o)
    go_wp2_with fail
    refine (zzargs_some g z ss _ hl hp0 (HT _)).mono ?_
    rintro e w3 ⟨b3, rfl, hs3, hb3⟩
    have hs4 := Strs.below' (HS _) hb3
    have hb3' : Hid (Below w'.heap.size w' w3) := (hb2'.out.alloc hb2'.out.size _).trans (hb3.mono (by have := hb2'.out.size; simp; omega))
    clear hb3 hb2' HT HS ht2 hs2
    go_wp2_with fail
    refine (same_any b3 _ _ a1 ss _ (by omega) hp0 hs3 hs4).mono ?_
    rintro e w4 ⟨rfl, hb4⟩
    go_wp2_with fail
    go_ret
    exact ⟨rfl, hb3'.out.trans (hb4.mono hb3'.out.size)⟩
end Go.Proofs.Qxb6001659a.Sim
