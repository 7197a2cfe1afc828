import Derived.Test.Qxb6001659aHexR
namespace Go.Proofs.Qxb6001659a.Hex
open Go.RowKit

theorem hex_iff (x : Int) (h0 : 0 ≤ x) (h1 : x ≤ 255) : hexd (nib x) = x ↔ low x = true := by
  simp only [low, Bool.or_eq_true, decide_eq_true_eq]
  unfold hexd nib
  split <;> omega
theorem hx_b (s : ByteArray) (j : Nat) : 0 ≤ hx s j ∧ hx s j ≤ 255 := by
  have := nib_lo (byteAt s j)
  unfold hx hexd
  split <;> omega

/-- THE PLAIN LAW: decoded and encoded again a text of forty signs is itself just where all its signs are lower hex. -/
theorem back (s : ByteArray) (hs : s.size = 40) : ((strOfNums (hxs s)).toList == s.toList) = allLow s 40 := by
  have hd : s.data.toList.length = 40 := by simpa using hs
  rw [Bool.eq_iff_iff, beq_iff_eq, ByteArray.toList_eq, ByteArray.toList_eq, strOfNums_data]
  have el : ∀ j, j < 40 → ((hxs s).map fun n => UInt8.ofNat n.toNat)[j]? = some (UInt8.ofNat (hx s j).toNat) := fun j hj => by
    simp [hxs, hj]
  have er : ∀ j (hj : j < 40), s.data.toList[j]? = some (s.data.toList.getD j 0) := fun j hj => by
    rw [List.getD, List.getElem?_eq_getElem (by omega), Option.getD_some]
  have one : ∀ j, UInt8.ofNat (hx s j).toNat = s.data.toList.getD j 0 ↔ low (byteAt s j) = true := fun j => by
    have hb := byteAt_b s j
    have hh := hx_b s j
    rw [← hex_iff _ hb.1 hb.2]
    have e : ((s.data.toList.getD j 0).toNat : Int) = byteAt s j := rfl
    rw [← UInt8.toNat_inj, UInt8.toNat_ofNat']
    show _ ↔ hx s j = byteAt s j
    omega
  constructor
  · intro h
    unfold allLow
    rw [List.all_eq_true]
    intro j hj
    have hj' : j < 40 := by simpa using hj
    have := el j hj'
    rw [h, er j hj', Option.some.injEq] at this
    exact (one j).1 this.symm
  · intro h
    unfold allLow at h
    rw [List.all_eq_true] at h
    apply List.ext_getElem?
    intro j
    by_cases hj : j < 40
    · rw [el j hj, er j hj, (one j).2 (h j (by simpa using hj))]
    · rw [List.getElem?_eq_none (by simp [hxs]; omega), List.getElem?_eq_none (by omega)]

def SomeBool (e : Ending) : Prop := ∃ b, e = .returned (.bool b)
set_option maxHeartbeats 400000 in
theorem zzb51 (s : ByteArray) (w : World) : Calls Try.prog 51 #[.string s] w fun e w' => SomeBool e ∧ w' = w := by
  by_cases h : (1048576 : Int) < s.size
  · go_enter Try.func51, Try.ntmps51
    go_wp2
    go_ret
    exact ⟨⟨_, rfl⟩, rfl⟩
  · go_enter Try.func51, Try.ntmps51
    go_wp2
    go_ret
    exact ⟨⟨_, rfl⟩, rfl⟩

set_option maxHeartbeats 400000 in
set_option maxRecDepth 100000 in
theorem hex_law (s : ByteArray) (w : World) : Calls Try.prog 12 #[.string s] w fun e w' => e = .returned (.bool true) ∧ Below w.heap.size w w' := by
  by_cases hbig : (1048576 : Int) < s.size
  · go_enter Try.func12, Try.ntmps12
    go_wp2_with fail
    refine (zzb51 s _).mono ?_
    rintro e w' ⟨⟨z, rfl⟩, rfl⟩
    cases z
    · go_wp2_with fail
      go_ret
      exact ⟨rfl, Below.refl _ _⟩
    · go_wp2_with fail
      go_ret
      exact ⟨rfl, Below.refl _ _⟩
  by_cases h40 : s.size = 40
  · have hb := back s h40
    have H40 : Hid (s.size = 40) := h40
    have h4 : ((s.size : Int) == 40) = true := by simp; omega
    clear h40
    go_enter Try.func12, Try.ntmps12
    go_wp2_with fail
    refine (zzb51 s _).mono ?_
    rintro e w' ⟨⟨z, rfl⟩, rfl⟩
    cases z
    · go_wp2_with fail
      go_ret
      exact ⟨rfl, Below.refl _ _⟩
    go_wp2_with fail
    refine (dec_any s H40.out _).mono ?_
    rintro e w1 ⟨rfl, hb1⟩
    go_wp2_with fail
    refine (enc_any s _).mono ?_
    rintro e w2 ⟨rfl, hb2⟩
    go_wp2_with fail
    refine (run_full s H40.out _).mono ?_
    rintro e w3 ⟨rfl, hb3⟩
    go_wp2_with fail
    go_ret
    exact ⟨by simp, hb1.trans ((hb2.trans (hb3.mono hb2.size)).mono hb1.size)⟩
  · have h4 : ((s.size : Int) == 40) = false := by simp; omega
    have h5 : ((s.size : Int) != 40) = true := by simp; omega
    have H5 : Hid (((s.size : Int) != 40) = true) := h5
    clear h5
    go_enter Try.func12, Try.ntmps12
    go_wp2_with fail
    refine (zzb51 s _).mono ?_
    rintro e w' ⟨⟨z, rfl⟩, rfl⟩
    cases z
    · go_wp2_with fail
      go_ret
      exact ⟨rfl, Below.refl _ _⟩
    go_wp2_with fail
    refine (run_short s H5.out _).mono ?_
    rintro e w3 ⟨rfl, rfl⟩
    go_wp2_with fail
    go_ret
    exact ⟨rfl, Below.refl _ _⟩
end Go.Proofs.Qxb6001659a.Hex
