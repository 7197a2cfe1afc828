import Derived.Test.Qxb6600356aCk6
namespace Go.Proofs.Qxb6600356a.Ck
open Go.RowKit Go.Proofs.Qxb6600356a.Tb

/-- How many of the first k are 0, and how many are not. -/
def cz (f : Nat → Int) : Nat → Nat
  | 0 => 0
  | k + 1 => cz f k + (if f k = 0 then 1 else 0)
def co (f : Nat → Int) : Nat → Nat
  | 0 => 0
  | k + 1 => co f k + (if f k = 0 then 0 else 1)
theorem cz_le (f : Nat → Int) : ∀ k, cz f k ≤ k
  | 0 => Nat.le_refl _
  | k + 1 => by
    have := cz_le f k
    simp only [cz]
    split <;> omega
theorem co_le (f : Nat → Int) : ∀ k, co f k ≤ k
  | 0 => Nat.le_refl _
  | k + 1 => by
    have := co_le f k
    simp only [co]
    split <;> omega

def sel (z o : Bool) (b : Nat) : Bool := if b = 0 then z else o
def qI (m : Nat → Int) (z o : Bool) (i b : Nat) : Bool := !ob (m i) b || sel z o b
def pI (m : Nat → Int) (z o : Bool) (i : Nat) : Bool := allTo (qI m z o i) 2
def qV (m : Nat → Int) (b i : Nat) : Bool := hold (m i) b 1
def pV (m : Nat → Int) (n : Nat) (z o : Bool) (b : Nat) : Bool := !sel (z && !o) (o && !z) b || allTo (qV m b) n
def qU (m : Nat → Int) (i j : Nat) : Bool := !(hold (m i) 0 1 && hold (m j) 1 1)
def pU (m : Nat → Int) (n i : Nat) : Bool := allTo (qU m i) n
def rC (m : Nat → Int) (i j b : Nat) : Bool := !(hold (m i) b 1 && !ob (m j) b)
def qC (m : Nat → Int) (i j : Nat) : Bool := allTo (rC m i j) 2
def pC (m : Nat → Int) (n i : Nat) : Bool := allTo (qC m i) n

/-- true came back, and what was there is as it was. -/
def Fine (w : World) (e : Ending) (w' : World) : Prop := e = .returned (.bool true) ∧ Below w.heap.size w w'

/-- What holds of the world while the law asks its questions. -/
structure Hall (w : World) (a : Option Addr) (m : Nat → Int) (n M P Q : Nat) (z o : Bool) (K : Obj) (W : World) : Prop where
  us : Us W a m n
  p : ∀ b, b < 2 → W.cell? ⟨P, b, none⟩ = some (.bool (sel z o b))
  q : ∀ b, b < 2 → W.cell? ⟨Q, b, none⟩ = some (.bool (sel (z && !o) (o && !z) b))
  m : W.heap[M]? = some K
  b : Below w.heap.size w W
theorem two_cells (W : World) (z o : Bool) (b : Nat) (hb : b < 2) : (W.alloc (.cells #[.bool z, .bool o] 31)).cell? ⟨W.heap.size, b, none⟩ = some (.bool (sel z o b)) := by
  rw [cell_of_row _ _ _ _ _ _ (heap_alloc_new W _)]
  match b, hb with
  | 0, _ => rfl
  | 1, _ => rfl
theorem Hall.made {w w4 : World} {a : Option Addr} {m : Nat → Int} {n M : Nat} {K : Obj} (z o A B : Bool) (hA : A = (z && !o)) (hB : B = (o && !z)) (us : Us w4 a m n) (hm : w4.heap[M]? = some K) (hb : Below w.heap.size w w4) :
    Hall w a m n M w4.heap.size (w4.heap.size + 1) z o K ((w4.alloc (.cells #[.bool z, .bool o] 31)).alloc (.cells #[.bool A, .bool B] 31)) := by
  have b1 : Below w4.heap.size w4 (w4.alloc (.cells #[.bool z, .bool o] 31)) := (Below.refl _ _).alloc (Nat.le_refl _) _
  have e1 : (w4.alloc (.cells #[.bool z, .bool o] 31)).heap.size = w4.heap.size + 1 := by simp
  have b2 : Below (w4.heap.size + 1) (w4.alloc (.cells #[.bool z, .bool o] 31)) ((w4.alloc (.cells #[.bool z, .bool o] 31)).alloc (.cells #[.bool A, .bool B] 31)) := (Below.refl _ _).alloc (by omega) _
  have b3 := b1.trans (b2.mono (Nat.le_succ _))
  refine ⟨us.below b3, fun b h => ?_, fun b h => ?_, by rw [b3.block M (lt_of_block hm)]; exact hm, hb.trans (b3.mono hb.size)⟩
  · rw [b2.cell (show w4.heap.size < w4.heap.size + 1 by omega)]
    exact two_cells w4 z o b h
  · have := two_cells (w4.alloc (.cells #[.bool z, .bool o] 31)) A B b h
    rw [e1] at this
    rw [this, hA, hB]

set_option maxRecDepth 100000 in
theorem early1 (a0 a1 : Option Addr) (n0 c0 n1 c1 : Nat) (w : World) (h : (1048576 : Int) < n0) : Calls Try.prog 8 #[.slice a0 n0 c0, .slice a1 n1 c1] w fun e w' => Fine w e w' := by
  go_enter Try.func8, Try.ntmps8
  go_wp2_with fail
  refine (zzb20 a0 a1 n0 c0 n1 c1 _).mono ?_
  rintro e w1 ⟨⟨q, rfl⟩, rfl⟩
  cases q
  · go_wp2
    go_ret
    exact ⟨rfl, Below.refl _ _⟩
  · go_wp2
    go_ret
    exact ⟨rfl, Below.refl _ _⟩
set_option maxRecDepth 100000 in
theorem early2 (a0 a1 : Option Addr) (n0 c0 n1 c1 : Nat) (w : World) (h0 : ¬ (1048576 : Int) < n0) (h : (1048576 : Int) < n1) : Calls Try.prog 8 #[.slice a0 n0 c0, .slice a1 n1 c1] w fun e w' => Fine w e w' := by
  go_enter Try.func8, Try.ntmps8
  go_wp2_with fail
  refine (zzb20 a0 a1 n0 c0 n1 c1 _).mono ?_
  rintro e w1 ⟨⟨q, rfl⟩, rfl⟩
  cases q
  · go_wp2
    go_ret
    exact ⟨rfl, Below.refl _ _⟩
  · go_wp2
    go_ret
    exact ⟨rfl, Below.refl _ _⟩
set_option maxRecDepth 100000 in
theorem early3 (a0 a1 : Option Addr) (n0 c0 n1 c1 : Nat) (w : World) (h0 : ¬ (1048576 : Int) < n0) (h1 : ¬ (1048576 : Int) < n1) (h : (1048576 : Int) < n0 + n1) : Calls Try.prog 8 #[.slice a0 n0 c0, .slice a1 n1 c1] w fun e w' => Fine w e w' := by
  go_enter Try.func8, Try.ntmps8
  go_wp2_with fail
  refine (zzb20 a0 a1 n0 c0 n1 c1 _).mono ?_
  rintro e w1 ⟨⟨q, rfl⟩, rfl⟩
  cases q
  · go_wp2
    go_ret
    exact ⟨rfl, Below.refl _ _⟩
  · go_wp2
    go_ret
    exact ⟨rfl, Below.refl _ _⟩
set_option maxRecDepth 100000 in
theorem early4 (a0 a1 : Option Addr) (n0 c0 n1 c1 : Nat) (w : World) (h0 : ¬ (1048576 : Int) < n0) (h1 : ¬ (1048576 : Int) < n1) (h2 : ¬ (1048576 : Int) < n0 + n1) (h : (4096 : Int) < n1) : Calls Try.prog 8 #[.slice a0 n0 c0, .slice a1 n1 c1] w fun e w' => Fine w e w' := by
  go_enter Try.func8, Try.ntmps8
  go_wp2_with fail
  refine (zzb20 a0 a1 n0 c0 n1 c1 _).mono ?_
  rintro e w1 ⟨⟨q, rfl⟩, rfl⟩
  cases q
  · go_wp2
    go_ret
    exact ⟨rfl, Below.refl _ _⟩
  · go_wp2
    go_ret
    exact ⟨rfl, Below.refl _ _⟩
end Go.Proofs.Qxb6600356a.Ck
