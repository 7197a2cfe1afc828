import Derived.Test.Qxb6001659aRows
import Derived.WalkKit
import Derived.WalkSpells
import Derived.WalkLawsBesides
namespace Go.Proofs.Qxb6001659a.Stat
open Go.RowKit

/-! The plain side: the flags as a list of byte strings. -/
def isO (s : ByteArray) : Bool := s.toList == [111, 95, 100, 111, 119, 110]
def isS (s : ByteArray) : Bool := s.toList == [115, 95, 100, 111, 119, 110]
def code (ss : List ByteArray) : Nat := if ss.any isO then 2 else if ss.any isS then 1 else 0
def word (n : Nat) : ByteArray := if n = 0 then ⟨#[111, 107]⟩ else if n = 1 then ⟨#[115, 100, 111, 119, 110]⟩ else ⟨#[111, 100, 111, 119, 110]⟩

theorem code_le (ss : List ByteArray) : code ss ≤ 2 := by
  unfold code; split
  · omega
  · split <;> omega

theorem code_app (a b : List ByteArray) : code (a ++ b) = max (code a) (code b) := by
  unfold code
  cases ha : a.any isO <;> cases hb : b.any isO <;> cases hc : a.any isS <;> cases hd : b.any isS <;> simp [List.any_append, ha, hb, hc, hd]

theorem take_any_succ (p : ByteArray → Bool) (ss : List ByteArray) (k : Nat) (hk : k < ss.length) : (ss.take (k + 1)).any p = ((ss.take k).any p || p (ss.getD k ByteArray.empty)) := by
  rw [List.take_succ_eq_append_getElem hk, List.any_append]
  simp [List.getD, hk]

/-- What the loop of 'status' holds in s after k flags, none of which was o_down. -/
def sofar (ss : List ByteArray) (k : Nat) : ByteArray := if (ss.take k).any isS then ⟨#[115, 100, 111, 119, 110]⟩ else ⟨#[111, 107]⟩

theorem sofar_S (ss : List ByteArray) (k : Nat) (hk : k < ss.length) (h : isS (ss.getD k ByteArray.empty) = true) : sofar ss (k + 1) = ⟨#[115, 100, 111, 119, 110]⟩ := by
  unfold sofar
  rw [take_any_succ _ _ _ hk, h]
  simp
theorem sofar_no (ss : List ByteArray) (k : Nat) (hk : k < ss.length) (h : isS (ss.getD k ByteArray.empty) = false) : sofar ss (k + 1) = sofar ss k := by
  unfold sofar
  rw [take_any_succ _ _ _ hk, h]
  simp
theorem code_O (ss : List ByteArray) (k : Nat) (hk : k < ss.length) (h : isO (ss.getD k ByteArray.empty) = true) : word (code ss) = ⟨#[111, 100, 111, 119, 110]⟩ := by
  have : ss.any isO = true := by
    rw [List.any_eq_true]
    exact ⟨ss[k], List.getElem_mem hk, by simpa [List.getD, hk] using h⟩
  simp [code, this, word]
theorem code_end (ss : List ByteArray) (k : Nat) (hk : ¬ k < ss.length) (h : (ss.take k).any isO = false) : word (code ss) = sofar ss k := by
  have e : ss.take k = ss := List.take_of_length_le (by omega)
  rw [e] at h
  unfold sofar code word
  rw [e, h]
  cases ss.any isS <;> simp

set_option maxHeartbeats 400000 in
theorem status_some (b off cap : Nat) (ss : List ByteArray) (w : World) (hl : ss.length ≤ 1048576) (hc : ∀ i, i < ss.length → w.cell? ⟨b, off + i, none⟩ = some (.string (ss.getD i ByteArray.empty))) :
    Calls Try.prog 66 #[.slice (some ⟨b, off, none⟩) ss.length cap] w fun e w' => e = .returned (.string (word (code ss))) ∧ w' = w := by
  go_enter Try.func66, Try.ntmps66
  go_wp2
  go_loop [3, 8] (fun s i => ∃ k : Nat, k ≤ ss.length ∧ i = .int .i64 k ∧ s = .string (sofar ss k) ∧ (ss.take k).any isO = false) (fun _ i => ss.length - (intOf i).toNat)
  case atStart => exact ⟨0, Nat.zero_le _, rfl, by simp [sofar], by simp⟩
  case round =>
    obtain ⟨k, hk, rfl, rfl, ho⟩ := hrel
    by_cases hlt : k < ss.length
    · have hcell := hc k hlt
      clear hc
      have H1 : Hid ((ss.take (k + 1)).any isO = ((ss.take k).any isO || isO (ss.getD k ByteArray.empty))) := take_any_succ isO ss k hlt
      have H2 : Hid (isO (ss.getD k ByteArray.empty) = true → word (code ss) = ⟨#[111, 100, 111, 119, 110]⟩) := code_O ss k hlt
      have H3 : Hid (isS (ss.getD k ByteArray.empty) = true → sofar ss (k + 1) = ⟨#[115, 100, 111, 119, 110]⟩) := sofar_S ss k hlt
      have H4 : Hid (isS (ss.getD k ByteArray.empty) = false → sofar ss (k + 1) = sofar ss k) := sofar_no ss k hlt
      have HO : Hid ((ss.take k).any isO = false) := ho
      clear ho
      generalize ss.getD k ByteArray.empty = s at hcell H1 H2 H3 H4
      go_wp2
      · go_ret
        exact ⟨by rw [H2.out (by unfold isO; assumption)]; rfl, rfl⟩
      · go_round
        case rel => exact ⟨k + 1, by omega, by go_num, by rw [H3.out (by unfold isS; assumption)], by rw [H1.out, HO.out]; simp only [Bool.false_or]; unfold isO; assumption⟩
        case measure => simp [intOf]; omega
      · go_round
        case rel => exact ⟨k + 1, by omega, by go_num, by rw [H4.out (by unfold isS; assumption)], by rw [H1.out, HO.out]; simp only [Bool.false_or]; unfold isO; assumption⟩
        case measure => simp [intOf]; omega
    · have H := code_end ss k hlt ho
      go_wp2
      go_ret
      exact ⟨rfl, rfl⟩

set_option maxHeartbeats 400000 in
theorem status_zero (a : Option Addr) (cap : Nat) (w : World) :
    Calls Try.prog 66 #[.slice a 0 cap] w fun e w' => e = .returned (.string (word (code []))) ∧ w' = w := by
  go_enter Try.func66, Try.ntmps66
  go_wp2
  refine wp_loop_rounds 1 ?_
  rw [rounds_succ]
  go_wp2
  go_ret
  exact ⟨rfl, rfl⟩

/-- A slice value that reads as the strings ss in the world w. -/
def Strs (w : World) (a : Option Addr) (ss : List ByteArray) : Prop :=
  ss = [] ∨ ∃ b off, a = some ⟨b, off, none⟩ ∧ b < w.heap.size ∧ ∀ i, i < ss.length → w.cell? ⟨b, off + i, none⟩ = some (.string (ss.getD i ByteArray.empty))

theorem status_any (a : Option Addr) (cap : Nat) (ss : List ByteArray) (w : World) (hl : ss.length ≤ 1048576) (h : Strs w a ss) :
    Calls Try.prog 66 #[.slice a ss.length cap] w fun e w' => e = .returned (.string (word (code ss))) ∧ w' = w := by
  rcases h with rfl | ⟨b, off, rfl, _, hc⟩
  · exact status_zero a cap w
  · exact status_some b off cap ss w hl hc

theorem zzStatus_any (a : Option Addr) (n cap : Nat) (ss : List ByteArray) (w : World) (hn : n = ss.length) (hl : ss.length ≤ 1048576) (h : Strs w a ss) :
    Calls Try.prog 43 #[.slice a n cap] w fun e w' => e = .returned (.string (word (code ss))) ∧ w' = w := by
  subst hn
  have H := h
  go_enter Try.func43, Try.ntmps43
  go_wp2_with (go_at_call 66; refine (status_any a cap ss _ hl h).mono ?_; rintro e w' ⟨rfl, rfl⟩)
  go_ret
  exact ⟨rfl, rfl⟩

theorem rank_any (n : Nat) (hn : n ≤ 2) (w : World) : Calls Try.prog 42 #[.string (word n)] w fun e w' => e = .returned (.int .i64 n) ∧ w' = w := by
  match n, hn with
  | 0, _ =>
    simp only [word]
    go_enter Try.func42, Try.ntmps42
    go_wp2
    go_ret
    exact ⟨rfl, rfl⟩
  | 1, _ =>
    simp only [word]
    go_enter Try.func42, Try.ntmps42
    go_wp2
    go_ret
    exact ⟨rfl, rfl⟩
  | 2, _ =>
    simp only [word]
    go_enter Try.func42, Try.ntmps42
    go_wp2
    go_ret
    exact ⟨rfl, rfl⟩
end Go.Proofs.Qxb6001659a.Stat
