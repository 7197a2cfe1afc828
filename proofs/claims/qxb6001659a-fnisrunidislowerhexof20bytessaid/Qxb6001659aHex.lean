import Derived.Test.Qxb6001659aRows
import Derived.WalkKit
import Derived.WalkSpells
import Derived.WalkLawsBesides
import Derived.Deep.QuietTactic
import Derived.Deep.RegionWith
import Derived.BigQuiet
namespace Go.Proofs.Qxb6001659a.Hex
open Go.RowKit

/-! The plain side, over numbers. -/
def nib (x : Int) : Int := (x + 9 * (x / 64 % 2)) % 16
def hexd (x : Int) : Int := if x < 10 then 48 + x else 87 + x
theorem nib_lo (x : Int) : 0 ≤ nib x ∧ nib x ≤ 15 := by unfold nib; omega

theorem and_one (y : Int) (h0 : 0 ≤ y) (h1 : y ≤ 3) : bits BinOp.and IntKind.u8 y 1 = y % 2 := by
  obtain rfl | rfl | rfl | rfl : y = 0 ∨ y = 1 ∨ y = 2 ∨ y = 3 := by omega
  all_goals decide

set_option maxHeartbeats 400000 in
theorem nib_any (x : Int) (h0 : 0 ≤ x) (h1 : x ≤ 255) (w : World) : Calls Try.prog 69 #[.int .u8 x] w fun e w' => e = .returned (.int .u8 (nib x)) ∧ w' = w := by
  go_enter Try.func69, Try.ntmps69
  go_wp2
  go_ret
  refine ⟨?_, rfl⟩
  simp
  rw [and_one _ (by omega) (by omega)]
  rfl
set_option maxHeartbeats 400000 in
theorem hexd_any (x : Int) (h0 : 0 ≤ x) (h1 : x ≤ 15) (w : World) : Calls Try.prog 68 #[.int .u8 x] w fun e w' => e = .returned (.int .u8 (hexd x)) ∧ w' = w := by
  unfold hexd
  by_cases hx : x < 10
  · rw [if_pos hx]
    go_enter Try.func68, Try.ntmps68
    go_wp2
    go_ret
    exact ⟨rfl, rfl⟩
  · rw [if_neg hx]
    go_enter Try.func68, Try.ntmps68
    go_wp2
    go_ret
    refine ⟨?_, rfl⟩
    simp
    omega

theorem nib_byte (c : UInt8) (w : World) : Calls Try.prog 69 #[.int .u8 (c.toNat : Int)] w fun e w' => e = .returned (.int .u8 (nib c.toNat)) ∧ w' = w :=
  nib_any _ (by omega) (by have := c.toNat_lt; omega) w

/-- The decoded row after k rounds. -/
def byteAt (s : ByteArray) (j : Nat) : Int := ((s.data.toList.getD j 0).toNat : Int)
theorem byteAt_b (s : ByteArray) (j : Nat) : 0 ≤ byteAt s j ∧ byteAt s j ≤ 255 := by
  unfold byteAt
  have := (s.data.toList.getD j 0).toNat_lt
  omega
def dec (s : ByteArray) (k : Nat) : Array Value := ((List.range 20).map fun j => Value.int .u8 (if j < k then 16 * nib (byteAt s (2 * j)) + nib (byteAt s (2 * j + 1)) else 0)).toArray

theorem or16 (m n : Int) (hm : 0 ≤ m ∧ m ≤ 15) (hn : 0 ≤ n ∧ n ≤ 15) : bits BinOp.or IntKind.u8 (IntKind.u8.wrap (m * 16)) n = 16 * m + n := by
  have key : ∀ a b : Fin 16, bits BinOp.or IntKind.u8 (IntKind.u8.wrap (((a : Nat) : Int) * 16)) ((b : Nat) : Int) = 16 * ((a : Nat) : Int) + ((b : Nat) : Int) := by decide +kernel
  have := key ⟨m.toNat, by omega⟩ ⟨n.toNat, by omega⟩
  simp only [show ((m.toNat : Nat) : Int) = m by omega, show ((n.toNat : Nat) : Int) = n by omega] at this
  exact this
theorem byte_lit (s : ByteArray) (j : Nat) (h : j < s.size) : ((s[j]'h).toNat : Int) = byteAt s j := by
  unfold byteAt
  have h' : j < s.data.toList.length := by simpa using h
  have e : s.data.toList.getD j 0 = s[j]'h := by
    rw [List.getD, List.getElem?_eq_getElem h', Option.getD_some, Array.getElem_toList]
    rfl
  rw [e]
theorem store_val (s : ByteArray) (k : Nat) (h1 : (2 * (k : Int)).toNat < s.size) (h2 : (2 * (k : Int) + 1).toNat < s.size) :
    bits BinOp.or IntKind.u8 (IntKind.u8.wrap (nib ((s[(2 * (k : Int)).toNat]'h1).toNat : Int) * 16)) (nib ((s[(2 * (k : Int) + 1).toNat]'h2).toNat : Int)) = 16 * nib (byteAt s (2 * k)) + nib (byteAt s (2 * k + 1)) := by
  rw [byte_lit, byte_lit, show (2 * (k : Int)).toNat = 2 * k by omega, show (2 * (k : Int) + 1).toNat = 2 * k + 1 by omega]
  exact or16 _ _ (nib_lo _) (nib_lo _)
theorem dec_set (s : ByteArray) (k : Nat) (hk : k < 20) : (dec s k).setIfInBounds k (.int .u8 (16 * nib (byteAt s (2 * k)) + nib (byteAt s (2 * k + 1)))) = dec s (k + 1) := by
  apply Array.ext'
  apply List.ext_getElem?
  intro j
  simp only [dec, Array.toList_setIfInBounds, List.getElem?_set]
  by_cases hj : k = j
  · subst hj
    rw [if_pos rfl, if_pos (by simpa using hk)]
    simp [hk]
  · rw [if_neg hj]
    by_cases h20 : j < 20
    · simp only [List.getElem?_map, List.getElem?_range h20, Option.map_some]
      by_cases hjk : j < k
      · rw [if_pos hjk, if_pos (by omega)]
      · rw [if_neg hjk, if_neg (by omega)]
    · rw [List.getElem?_eq_none (by simp; omega), List.getElem?_eq_none (by simp; omega)]

set_option maxHeartbeats 400000 in
set_option maxRecDepth 100000 in
theorem dec_any (s : ByteArray) (hs : s.size = 40) (w : World) : Calls Try.prog 53 #[.string s] w fun e w' => e = .returned (.agg (dec s 20)) ∧ Below w.heap.size w w' := by
  go_enter Try.func53, Try.ntmps53
  go_wp2
  go_loopw [4] (fun i wr => ∃ k : Nat, k ≤ 20 ∧ i = .int .i64 k ∧ wr.heap[w.heap.size + 1]? = some (.cells (dec s k) 70 (0, 0)) ∧ wr.heap[w.heap.size]? = some (.cells (dec s 0) 70 (0, 0)) ∧ Below w.heap.size w wr) (fun i _ => 20 - (intOf i).toNat)
  case atStart => exact ⟨0, by omega, rfl, heap_alloc2_new _ _ _, heap_alloc2_old _ _ _, ((Below.refl _ _).alloc (Nat.le_refl _) _).alloc (by simp) _⟩
  case round =>
    obtain ⟨k, hk, rfl, hr1, hr0, hb⟩ := hrel
    by_cases hlt : k < 20
    · have hold : wr.cell? ⟨w.heap.size + 1, k, none⟩ = some (.int .u8 0) := by rw [cell_of_row _ _ _ _ _ _ hr1]; simp [dec, hlt]
      have hfz := frozen_of_row wr (w.heap.size + 1) k _ _ hr1
      have k0 : (0 : Int) ≤ (k : Int) := by omega
      have k1 : (k : Int) < 20 := by omega
      have b1 : (2 : Int) * (k : Int) < (s.size : Int) := by omega
      have b2 : (2 : Int) * (k : Int) + 1 < (s.size : Int) := by omega
      have b3 : (0 : Int) ≤ (2 : Int) * (k : Int) := by omega
      have b4 : (0 : Int) ≤ (2 : Int) * (k : Int) + 1 := by omega
      have c1 : IntKind.i64.wrap (2 * (k : Int)) = 2 * (k : Int) := by rw [IntKind.wrap_i64]; omega
      have c2 : IntKind.i64.wrap (2 * (k : Int) + 1) = 2 * (k : Int) + 1 := by rw [IntKind.wrap_i64]; omega
      clear hs
      go_wp2
      have R1 : Hid ((wr.setCell ⟨w.heap.size + 1, k, none⟩ (.int .u8 (16 * nib (byteAt s (2 * k)) + nib (byteAt s (2 * k + 1))))).heap[w.heap.size + 1]? = some (.cells (dec s (k + 1)) 70 (0, 0))) := by
        have := heap_setCell_same wr (w.heap.size + 1) k _ _ (.int .u8 (16 * nib (byteAt s (2 * k)) + nib (byteAt s (2 * k + 1)))) hr1
        rw [dec_set s k hlt] at this
        exact this
      have R2 : Hid ((wr.setCell ⟨w.heap.size + 1, k, none⟩ (.int .u8 (16 * nib (byteAt s (2 * k)) + nib (byteAt s (2 * k + 1))))).heap[w.heap.size]? = some (.cells (dec s 0) 70 (0, 0))) :=
        (heap_setCell_other wr ⟨w.heap.size + 1, k, none⟩ w.heap.size _ (by simp)).trans hr0
      have R3 : Hid (Below w.heap.size w (wr.setCell ⟨w.heap.size + 1, k, none⟩ (.int .u8 (16 * nib (byteAt s (2 * k)) + nib (byteAt s (2 * k + 1)))))) := hb.setCell (by simp) _
      clear hr1 hr0 hb
      go_region_with (go_at_call 69; refine (nib_byte _ _).mono ?_; rintro e w' ⟨rfl, rfl⟩)
      all_goals
        simp only [store_val]
        clear hold hfz c1 c2
        go_wp2
        go_roundw
        case rel => exact ⟨k + 1, by omega, by go_num, R1.out, R2.out, R3.out.drew⟩
        case measure => simp [intOf]; omega
    · obtain rfl : k = 20 := by omega
      clear hk hlt
      have e1 : Try.prog.underlying 70 = some (.array 20 5) := Try.underlying70
      have e2 : (Try.prog.info? 70).map (·.size) = some (dec s 20).size := by rw [show (dec s 20).size = 20 by simp [dec]]; kernel_rfl
      have e3 : (dec s 20).all (·.oneCell') = true := by
        simp [dec, Value.oneCell']
      have R1 := hr1
      have R0 := hr0
      clear hr1 hr0
      go_wp2_with (first | (refine wpList_load_row rfl 70 (.tmp 3) rfl (w.heap.size + 1) rfl 70 (dec s 20) (0, 0) _ R1 e1 rfl e2 ?_) | (refine wpList_store_row rfl 70 (.tmp 2) (.tmp 24) rfl w.heap.size (dec s 20) rfl rfl 70 (dec s 0) R0 e2 (by simp [dec]) e3 ?_))
      have hb2 : Below w.heap.size w (wr.setRow w.heap.size (dec s 20)) := by
        refine hb.trans ⟨rfl, rfl, rfl, by simp, fun k hk => ?_⟩
        simp only [World.setRow, Array.getElem?_modify]
        rw [if_neg (by omega)]
      refine bodyPost_ret (v := .agg (dec s 20)) ?_ rfl ⟨rfl, hb2⟩
      exact results_cell_row Try.results53 _ _ w.heap.size 70 (dec s 20) (0, 0) _ rfl (setRow_heap wr w.heap.size (dec s 0) (dec s 20) 70 (0, 0) R0) e1 rfl e2
end Go.Proofs.Qxb6001659a.Hex
