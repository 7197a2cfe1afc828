import Derived.Test.Qxb6001659aHexE
namespace Go.Proofs.Qxb6001659a.Hex
open Go.RowKit

/-- A lower hex sign. -/
def low (x : Int) : Bool := decide (48 ≤ x ∧ x ≤ 57) || decide (97 ≤ x ∧ x ≤ 102)
def allLow (s : ByteArray) (k : Nat) : Bool := (List.range k).all fun j => low (byteAt s j)
theorem allLow_succ (s : ByteArray) (k : Nat) : allLow s (k + 1) = (allLow s k && low (byteAt s k)) := by
  simp [allLow, List.range_succ]
theorem allLow_no (s : ByteArray) (k n : Nat) (hk : k < n) (h : low (byteAt s k) = false) : allLow s n = false := by
  cases hh : allLow s n
  · rfl
  · unfold allLow at hh
    rw [List.all_eq_true] at hh
    have := hh k (by simpa using hk)
    rw [h] at this
    cases this

set_option maxHeartbeats 400000 in
theorem run_short (s : ByteArray) (hs : ((s.size : Int) != 40) = true) (w : World) : Calls Try.prog 54 #[.string s] w fun e w' => e = .returned (.bool false) ∧ w' = w := by
  go_enter Try.func54, Try.ntmps54
  go_wp2
  go_ret
  exact ⟨rfl, rfl⟩

set_option maxHeartbeats 1000000 in
set_option maxRecDepth 100000 in
theorem run_full (s : ByteArray) (hs : s.size = 40) (w : World) : Calls Try.prog 54 #[.string s] w fun e w' => e = .returned (.bool (allLow s 40)) ∧ Below w.heap.size w w' := by
  have hne : ((s.size : Int) != 40) = false := by simp; omega
  have kc := run_bytes_of_string (P := Try.prog) w 9 25 5 s Try.underlying9 Try.underlying25 Try.underlying5
  have hcells : ∀ j, j < 40 → (w.drew.alloc (.cells (bytesRow s (grownCap w s.size 0 5)) 5 ((bytesRow s (grownCap w s.size 0 5)).size, (bytesRow s (grownCap w s.size 0 5)).size + 1))).cell? ⟨w.heap.size, j, none⟩ = some (.int .u8 (byteAt s j)) := fun j hj => by
    have hj' : j < s.data.size := by
      have : s.data.size = s.size := rfl
      omega
    rw [show w.heap.size = w.drew.heap.size from rfl, World.cell?_alloc_mark, bytesRow_at s _ j hj', ← byte_lit s j (by omega)]
    rfl
  have hbel : Below w.heap.size w (w.drew.alloc (.cells (bytesRow s (grownCap w s.size 0 5)) 5 ((bytesRow s (grownCap w s.size 0 5)).size, (bytesRow s (grownCap w s.size 0 5)).size + 1))) := ((Below.refl _ _).drew).alloc (Nat.le_refl _) _
  generalize (w.drew.alloc (.cells (bytesRow s (grownCap w s.size 0 5)) 5 ((bytesRow s (grownCap w s.size 0 5)).size, (bytesRow s (grownCap w s.size 0 5)).size + 1))) = w1 at *
  generalize grownCap w s.size 0 5 = cap at *
  rw [hs] at kc
  have HS : Hid (s.size = 40) := hs
  go_enter Try.func54, Try.ntmps54
  go_wp2
  clear kc hs hne
  go_loop [11] (fun i => ∃ k : Nat, k ≤ 40 ∧ i = .int .i64 k ∧ allLow s k = true) (fun i => 40 - (intOf i).toNat)
  case atStart => exact ⟨0, by omega, rfl, rfl⟩
  case round =>
    obtain ⟨k, hk, rfl, ho⟩ := hrel
    by_cases hlt : k < 40
    · have hcell := hcells k hlt
      have B := byteAt_b s k
      have H1 : Hid (allLow s (k + 1) = (allLow s k && low (byteAt s k))) := allLow_succ s k
      have H2 : Hid (low (byteAt s k) = false → allLow s 40 = false) := allLow_no s k 40 hlt
      have HO : Hid (allLow s k = true) := ho
      clear hcells ho
      generalize byteAt s k = x at *
      obtain ⟨x0, x1⟩ := B
      by_cases c1 : x < 48
      · have hl : low x = false := by simp [low]; omega
        go_wp2
        go_ret
        exact ⟨by rw [H2.out hl]; rfl, hbel⟩
      by_cases c2 : x ≤ 57
      · have hl : low x = true := by simp [low]; omega
        go_wp2
        go_round
        case rel => exact ⟨k + 1, by omega, by go_num, by rw [H1.out, HO.out, hl]; rfl⟩
        case measure => simp [intOf]; omega
      by_cases c3 : x < 97
      · have hl : low x = false := by simp [low]; omega
        go_wp2
        go_ret
        exact ⟨by rw [H2.out hl]; rfl, hbel⟩
      by_cases c4 : x ≤ 102
      · have hl : low x = true := by simp [low]; omega
        go_wp2
        go_round
        case rel => exact ⟨k + 1, by omega, by go_num, by rw [H1.out, HO.out, hl]; rfl⟩
        case measure => simp [intOf]; omega
      · have hl : low x = false := by simp [low]; omega
        go_wp2
        go_ret
        exact ⟨by rw [H2.out hl]; rfl, hbel⟩
    · obtain rfl : k = 40 := by omega
      go_wp2
      go_ret
      exact ⟨rfl, hbel⟩
end Go.Proofs.Qxb6001659a.Hex
