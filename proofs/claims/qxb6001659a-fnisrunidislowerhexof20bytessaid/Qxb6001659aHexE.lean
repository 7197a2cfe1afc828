import Derived.Test.Qxb6001659aHex
namespace Go.Proofs.Qxb6001659a.Hex
open Go.RowKit

/-- The encoded signs of s, as numbers. -/
def hx (s : ByteArray) (j : Nat) : Int := hexd (nib (byteAt s j))
def hxs (s : ByteArray) : List Int := (List.range 40).map (hx s)
/-- The row of signs after k rounds. -/
def enc (s : ByteArray) (k : Nat) : Array Value := ((List.range 40).map fun j => Value.int .u8 (if j < 2 * k then hx s j else 0)).toArray

theorem enc_at (s : ByteArray) (k j : Nat) (hj : j < 40) : (enc s k)[j]? = some (.int .u8 (if j < 2 * k then hx s j else 0)) := by
  simp [enc, hj]
theorem dec_at (s : ByteArray) (k : Nat) (hk : k < 20) : (dec s 20)[k]? = some (.int .u8 (16 * nib (byteAt s (2 * k)) + nib (byteAt s (2 * k + 1)))) := by
  simp [dec, hk]

theorem enc_set (s : ByteArray) (k : Nat) (hk : k < 20) : ((enc s k).setIfInBounds (2 * k) (.int .u8 (hx s (2 * k)))).setIfInBounds (2 * k + 1) (.int .u8 (hx s (2 * k + 1))) = enc s (k + 1) := by
  apply Array.ext'
  apply List.ext_getElem?
  intro j
  simp only [enc, Array.toList_setIfInBounds, List.getElem?_set]
  by_cases h40 : j < 40
  · by_cases h1 : 2 * k + 1 = j
    · subst h1
      rw [if_pos rfl, if_pos (by simp; omega)]
      simp only [List.getElem?_map, List.getElem?_range h40, Option.map_some]
      rw [if_pos (by omega)]
    · rw [if_neg h1]
      by_cases h2 : 2 * k = j
      · subst h2
        rw [if_pos rfl, if_pos (by simp; omega)]
        simp only [List.getElem?_map, List.getElem?_range h40, Option.map_some]
        rw [if_pos (by omega)]
      · rw [if_neg h2]
        simp only [List.getElem?_map, List.getElem?_range h40, Option.map_some]
        by_cases hjk : j < 2 * k
        · rw [if_pos hjk, if_pos (by omega)]
        · rw [if_neg hjk, if_neg (by omega)]
  · rw [if_neg (by omega), if_neg (by omega), List.getElem?_eq_none (by simp; omega), List.getElem?_eq_none (by simp; omega)]

set_option maxHeartbeats 400000 in
set_option maxRecDepth 100000 in
theorem enc_any (s : ByteArray) (w : World) : Calls Try.prog 52 #[.agg (dec s 20)] w fun e w' => e = .returned (.string (strOfNums (hxs s))) ∧ Below w.heap.size w w' := by
  go_enter Try.func52, Try.ntmps52
  go_wp2
  go_loopw [4] (fun i wr => ∃ k : Nat, k ≤ 20 ∧ i = .int .i64 k ∧ wr.heap[w.heap.size + 1]? = some (.cells (enc s k) 82 (0, 0)) ∧ wr.heap[w.heap.size]? = some (.cells (dec s 20) 70 (0, 0)) ∧ Below w.heap.size w wr) (fun i _ => 20 - (intOf i).toNat)
  case atStart => exact ⟨0, by omega, rfl, heap_alloc2_new _ _ _, heap_alloc2_old _ _ _, ((Below.refl _ _).alloc (Nat.le_refl _) _).alloc (by simp) _⟩
  case round =>
    obtain ⟨k, hk, rfl, hr1, hr0, hb⟩ := hrel
    by_cases hlt : k < 20
    · have b1 := nib_lo (byteAt s (2 * k))
      have b2 := nib_lo (byteAt s (2 * k + 1))
      have hc0 : wr.cell? ⟨w.heap.size, k, none⟩ = some (.int .u8 (16 * nib (byteAt s (2 * k)) + nib (byteAt s (2 * k + 1)))) := by rw [cell_of_row _ _ _ _ _ _ hr0, dec_at s k hlt]
      have hc1 : wr.cell? ⟨w.heap.size + 1, 2 * k, none⟩ = some (.int .u8 0) := by rw [cell_of_row _ _ _ _ _ _ hr1, enc_at s k _ (by omega), if_neg (by omega)]
      have hc2 : wr.cell? ⟨w.heap.size + 1, 2 * k + 1, none⟩ = some (.int .u8 0) := by rw [cell_of_row _ _ _ _ _ _ hr1, enc_at s k _ (by omega), if_neg (by omega)]
      have hf1 := frozen_of_row wr (w.heap.size + 1) (2 * k) _ _ hr1
      have hf2 := frozen_of_row wr (w.heap.size + 1) (2 * k + 1) _ _ hr1
      have ST := enc_set s k hlt
      have S1 := heap_setCell_same wr (w.heap.size + 1) (2 * k) _ _ (.int .u8 (hx s (2 * k))) hr1
      have S2 := heap_setCell_same _ (w.heap.size + 1) (2 * k + 1) _ _ (.int .u8 (hx s (2 * k + 1))) S1
      rw [ST] at S2
      have R1 : Hid (((wr.setCell ⟨w.heap.size + 1, 2 * k, none⟩ (.int .u8 (hx s (2 * k)))).setCell ⟨w.heap.size + 1, 2 * k + 1, none⟩ (.int .u8 (hx s (2 * k + 1)))).heap[w.heap.size + 1]? = some (.cells (enc s (k + 1)) 82 (0, 0))) := S2
      have R2 : Hid (((wr.setCell ⟨w.heap.size + 1, 2 * k, none⟩ (.int .u8 (hx s (2 * k)))).setCell ⟨w.heap.size + 1, 2 * k + 1, none⟩ (.int .u8 (hx s (2 * k + 1)))).heap[w.heap.size]? = some (.cells (dec s 20) 70 (0, 0))) :=
        (heap_setCell_other _ ⟨w.heap.size + 1, 2 * k + 1, none⟩ w.heap.size _ (by simp)).trans ((heap_setCell_other wr ⟨w.heap.size + 1, 2 * k, none⟩ w.heap.size _ (by simp)).trans hr0)
      have R3 : Hid (Below w.heap.size w ((wr.setCell ⟨w.heap.size + 1, 2 * k, none⟩ (.int .u8 (hx s (2 * k)))).setCell ⟨w.heap.size + 1, 2 * k + 1, none⟩ (.int .u8 (hx s (2 * k + 1))))) := (hb.setCell (by simp) _).setCell (by simp) _
      clear ST S1 S2 hr1 hr0 hb
      unfold hx at R1 R2 R3
      generalize nib (byteAt s (2 * k)) = m at *
      generalize nib (byteAt s (2 * k + 1)) = n at *
      obtain ⟨m0, m1⟩ := b1
      obtain ⟨n0, n1⟩ := b2
      have e1 : (16 * m + n) / 16 = m := by omega
      have e2 : (16 * m + n) % 16 = n := by omega
      have t1 : (2 * (k : Int)).toNat = 2 * k := by omega
      have t2 : (2 * (k : Int) + 1).toNat = 2 * k + 1 := by omega
      go_wp2_with (go_at_call 68; refine (hexd_any _ (by omega) (by omega) _).mono ?_; rintro e w' ⟨rfl, rfl⟩)
      go_roundw
      case rel => exact ⟨k + 1, by omega, by go_num, R1.out, R2.out, R3.out⟩
      case measure => simp [intOf]; omega
    · obtain rfl : k = 20 := by omega
      clear hk hlt
      have hcv := run_convert_bytes_arg (P := Try.prog) wr 25 5 Try.underlying25 Try.underlying5 (w.heap.size + 1) 0 40 40 (hxs s) (by simp [hxs]) (fun i hi => by
        rw [cell_of_row _ _ _ _ _ _ hr1, enc_at s 20 _ (by omega), if_pos (by omega)]
        simp [hxs, List.getD, hi]) 9 Try.underlying9
      clear hr1 hr0
      go_wp2
      go_ret
      exact ⟨rfl, hb⟩
end Go.Proofs.Qxb6001659a.Hex
