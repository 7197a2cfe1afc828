import Derived.Test.Qxb6600356aCk4
import Derived.Deep.CutRange
namespace Go.Proofs.Qxb6600356a.Ck
open Go.RowKit Go.Proofs.Qxb6600356a.Tb

def allTo (p : Nat → Bool) : Nat → Bool
  | 0 => true
  | k + 1 => allTo p k && p k
def anyTo (p : Nat → Bool) : Nat → Bool
  | 0 => false
  | k + 1 => anyTo p k || p k
theorem allTo_iff (p : Nat → Bool) : ∀ k, allTo p k = true ↔ ∀ i, i < k → p i = true
  | 0 => by simp [allTo]
  | k + 1 => by
    simp only [allTo, Bool.and_eq_true, allTo_iff p k]
    constructor
    · rintro ⟨h, hk⟩ i hi
      by_cases e : i = k
      · rw [e]; exact hk
      · exact h i (by omega)
    · intro h
      exact ⟨fun i hi => h i (by omega), h k (by omega)⟩
theorem anyTo_iff (p : Nat → Bool) : ∀ k, anyTo p k = true ↔ ∃ i, i < k ∧ p i = true
  | 0 => by simp [anyTo]
  | k + 1 => by
    simp only [anyTo, Bool.or_eq_true, anyTo_iff p k]
    constructor
    · rintro (⟨i, hi, h⟩ | h)
      · exact ⟨i, by omega, h⟩
      · exact ⟨k, by omega, h⟩
    · rintro ⟨i, hi, h⟩
      by_cases e : i = k
      · right; rw [← e]; exact h
      · exact .inl ⟨i, by omega, h⟩

/-- Is the bit b among the first k inputs? -/
def inb (f : Nat → Int) (k : Nat) (b : Nat) : Bool := anyTo (fun i => f i == (b : Int)) k
def irow (f : Nat → Int) (k : Nat) (j : Nat) : Value := .bool (inb f k j)
def O4.at (o : O4) (j : Nat) : Bool := if j = 0 then o.a else if j = 1 then o.b else if j = 2 then o.c else o.d
/-- Does one of the first k outputs hold the j-th flag? -/
def sm (o : Nat → O4) (k j : Nat) : Bool := anyTo (fun i => (o i).at j) k
/-- The row of flags when k outputs are done, and p flags of the next. -/
def srow (o : Nat → O4) (k p j : Nat) : Value := .bool (sm o k j || (decide (j < p) && (o k).at j))

theorem srow_at (o : Nat → O4) (k p : Nat) : srow o k p p = .bool (sm o k p) := by
  unfold srow
  rw [decide_eq_false (Nat.lt_irrefl p), Bool.false_and, Bool.or_false]
theorem srow_done {w : World} {g N : Nat} {t : TypeId} {o : Nat → O4} {k p : Nat} {v : Bool} {w1 : World} (ht : Tab w g t N (srow o k p)) (hw : w1 = w.setCell ⟨g, p, none⟩ (.bool v)) (hv : v = (sm o k p || (o k).at p)) : Tab w1 g t N (srow o k (p + 1)) := by
  subst hw hv
  refine (ht.set p _).congr fun j _ => ?_
  unfold srow
  by_cases e : j = p
  · subst e
    rw [if_pos rfl, decide_eq_true (Nat.lt_succ_self j), Bool.true_and]
  · rw [if_neg e, show decide (j < p) = decide (j < p + 1) from decide_eq_decide.2 (by omega)]
theorem srow_next {w : World} {g : Nat} {t : TypeId} {o : Nat → O4} {k : Nat} (ht : Tab w g t 4 (srow o k 4)) : Tab w g t 4 (srow o (k + 1) 0) := by
  refine ht.congr fun j hj => ?_
  unfold srow
  rw [decide_eq_true hj, Bool.true_and, decide_eq_false (Nat.not_lt_zero j), Bool.false_and, Bool.or_false]
  rfl
theorem irow_done {w : World} {g N : Nat} {t : TypeId} {f : Nat → Int} {k m : Nat} {w1 : World} (ht : Tab w g t N (irow f k)) (hw : w1 = w.setCell ⟨g, m, none⟩ (.bool true)) (hm : f k = m) : Tab w1 g t N (irow f (k + 1)) := by
  subst hw
  refine (ht.set m _).congr fun j _ => ?_
  unfold irow inb
  simp only [anyTo, hm]
  by_cases e : j = m
  · subst e
    simp
  · rw [if_neg e]
    have : ((m : Int) == (j : Int)) = false := by simp; omega
    rw [this, Bool.or_false]

/-- The store of 'true'. -/
theorem st4t {ops : Array Oper} {rest : List Oper} {a : Act} {w : World} {Q : Exit → Act → World → Prop} {X : Tmp} {d : Option Tmp} {ty : TypeId} {pos : String} {af : Array Edge} (g k : Nat) {N : Nat} {t : TypeId} {f : Nat → Value}
    (hx : a.eval (.tmp X) = .pointer (some ⟨g, k, none⟩)) (ht : Tab w g t N f) (hk : k < N)
    (h : ∀ w', w' = w.setCell ⟨g, k, none⟩ (.bool true) → wpList Try.prog ops Q rest (a.put d undef) w') :
    wpList Try.prog ops Q ({ dst := d, op := .store 4 (.tmp X) (.const (.bool true)), type := ty, pos := pos, after := af, guard := none } :: rest) a w := by
  have hc := ht.cell k hk
  have hf := ht.free k
  have H := h _ rfl
  clear h ht
  refine wpList_plain rfl fun K hK => ?_
  unfold Oper.wp execOp
  simp only [hx]
  go_simp
  exact hK _ _ H

theorem size33 : (Try.prog.info? 33).map (·.size) = some 4 := by kernel_rfl
/-- The load of outputs, as the walk meets it. -/
theorem ld33 {ops : Array Oper} {rest : List Oper} {a : Act} {w : World} {Q : Exit → Act → World → Prop} {T : Tmp} {d : Option Tmp} {ty : TypeId} {pos : String} {af : Array Edge} (g o : Nat) (c : O4)
    (hx : a.eval (.tmp T) = .pointer (some ⟨g, o, none⟩)) (hr : w.rangeAt g o c.cells) (h : wpList Try.prog ops Q rest (a.put d c.val) w) :
    wpList Try.prog ops Q ({ dst := d, op := .load 33 (.tmp T), type := ty, pos := pos, after := af, guard := none } :: rest) a w :=
  wpList_load_mid rfl 33 (.tmp T) rfl g o hx c.cells _ hr Try.underlying33 rfl size33 h

theorem run_mk (w : World) : (Instr.makeMap 46 none).run Try.prog w = .ok (.map (some w.heap.size)) (w.alloc k0) := run_makeMap 46 w

/-- An entry of the map literal, as the walk meets it. -/
theorem ins46 {ops : Array Oper} {rest : List Oper} {a : Act} {w : World} {Q : Exit → Act → World → Prop} {X : Tmp} {V : Operand} {d : Option Tmp} {ty : TypeId} {pos : String} {af : Array Edge} {k : Int} (g : Nat) (x : Bool) (o' : Obj)
    (hx : a.eval (.tmp X) = .map (some g)) (hv : a.eval V = .bool x) (hrun : (Instr.mapUpdate 46 (.map (some g)) (.int .i64 k) (.bool x)).run Try.prog w = .ok () (setMap w g o'))
    (h : ∀ w', w' = setMap w g o' → wpList Try.prog ops Q rest (a.put d undef) w') :
    wpList Try.prog ops Q ({ dst := d, op := .insert 46 (.tmp X) (.const (.int .i64 k)) V, type := ty, pos := pos, after := af, guard := none } :: rest) a w := by
  have H := h _ rfl
  clear h
  refine wpList_plain rfl fun K hK => ?_
  unfold Oper.wp execOp
  have hk : a.eval (.const (.int .i64 k)) = .int .i64 k := rfl
  simp only [hx, hv, hk]
  go_simp
  exact hK _ _ H
theorem upd46 {ops : Array Oper} {rest : List Oper} {a : Act} {w : World} {Q : Exit → Act → World → Prop} {X : Tmp} {V : Operand} {d : Option Tmp} {ty : TypeId} {pos : String} {af : Array Edge} {k : Int} (g : Nat) (x : Bool) (o' : Obj)
    (hx : a.eval (.tmp X) = .map (some g)) (hv : a.eval V = .bool x) (hrun : (Instr.mapUpdate 46 (.map (some g)) (.int .i64 k) (.bool x)).run Try.prog w = .ok () (setMap w g o'))
    (h : ∀ w', w' = setMap w g o' → wpList Try.prog ops Q rest (a.put d undef) w') :
    wpList Try.prog ops Q ({ dst := d, op := .mapUpdate 46 (.tmp X) (.const (.int .i64 k)) V, type := ty, pos := pos, after := af, guard := none } :: rest) a w := by
  have H := h _ rfl
  clear h
  refine wpList_plain rfl fun K hK => ?_
  unfold Oper.wp execOp
  have hk : a.eval (.const (.int .i64 k)) = .int .i64 k := rfl
  simp only [hx, hv, hk]
  go_simp
  exact hK _ _ H

/-- What the walk keeps while the map at M turns. -/
structure Kept (w0 : World) (f : Nat → Int) (ni : Nat) (o : Nat → O4) (n S M : Nat) (m : Obj) (w : World) : Prop where
  i : Tab w w0.heap.size 31 2 (irow f ni)
  s : Tab w S 33 4 (srow o n 0)
  b : Below w0.heap.size w0 w
  m : w.heap[M]? = some m
theorem Kept.set {w0 : World} {f : Nat → Int} {ni : Nat} {o : Nat → O4} {n S M : Nat} {m m' : Obj} {w w' : World} (h : Kept w0 f ni o n S M m w) (hw : w' = setMap w M m') (h1 : w0.heap.size < S) (h2 : S < M) : Kept w0 f ni o n S M m' w' := by
  subst hw
  exact ⟨h.i.kept (setMap_other h.m _ (by omega)), h.s.kept (setMap_other h.m _ (by omega)), setMap_below h.b h.m (by omega), setMap_same h.m⟩
theorem Kept.alloc {w0 : World} {f : Nat → Int} {ni : Nat} {o : Nat → O4} {n S M : Nat} {m : Obj} {w : World} (h : Kept w0 f ni o n S M m w) (x : Obj) : Kept w0 f ni o n S M m (w.alloc x) :=
  ⟨h.i.alloc x, h.s.alloc x, h.b.alloc h.b.size x, by rw [Below.heap_alloc w x M (lt_of_block h.m)]; exact h.m⟩
theorem Kept.below {w0 : World} {f : Nat → Int} {ni : Nat} {o : Nat → O4} {n S M : Nat} {m : Obj} {w w' : World} (h : Kept w0 f ni o n S M m w) (hb : Below w.heap.size w w') : Kept w0 f ni o n S M m w' :=
  ⟨h.i.below hb, h.s.below hb, h.b.trans (hb.mono h.b.size), by rw [hb.block M (lt_of_block h.m)]; exact h.m⟩

/-- All that the outputs hold. -/
def SO (o : Nat → O4) (n : Nat) : O4 := ⟨sm o n 0, sm o n 1, sm o n 2, sm o n 3⟩
theorem Kept.range {w0 : World} {f : Nat → Int} {ni : Nat} {o : Nat → O4} {n S M : Nat} {m : Obj} {w : World} (h : Kept w0 f ni o n S M m w) : w.rangeAt S 0 (SO o n).cells := by
  refine h.s.range 0 _ (by simp [O4.cells]) fun j v hj => ?_
  have hj4 : j < 4 := (List.getElem?_eq_some_iff.1 hj).1
  match j, hj4 with
  | 0, _ => simpa [O4.cells, srow, SO] using hj
  | 1, _ => simpa [O4.cells, srow, SO] using hj
  | 2, _ => simpa [O4.cells, srow, SO] using hj
  | 3, _ => simpa [O4.cells, srow, SO] using hj

def pgc (o : Nat → O4) (n b i : Nat) : Bool := !sm o n (2 * b + 1) || (o i).any b
def pva (f : Nat → Int) (ni : Nat) (o : Nat → O4) (b i : Nat) : Bool := !(inb f ni b && !inb f ni (1 - b)) || (o i).one b
def pin (f : Nat → Int) (ni : Nat) (o : Nat → O4) (n b : Nat) : Bool := !(SO o n).any b || inb f ni b
def gcT (o : Nat → O4) (n b : Nat) : Bool := allTo (fun b => allTo (pgc o n b) n) b
def vaT (f : Nat → Int) (ni : Nat) (o : Nat → O4) (n b : Nat) : Bool := allTo (fun b => allTo (pva f ni o b) n) b
def inT (f : Nat → Int) (ni : Nat) (o : Nat → O4) (n b : Nat) : Bool := allTo (pin f ni o n) b
theorem inT_no {f : Nat → Int} {ni : Nat} {o : Nat → O4} {n b : Nat} (h : ((SO o n).any b && !inb f ni b) = false) : inT f ni o n (b + 1) = inT f ni o n b := by
  unfold inT
  simp only [allTo]
  have : pin f ni o n b = true := by
    unfold pin
    cases h1 : (SO o n).any b <;> cases h2 : inb f ni b <;> simp_all
  rw [this, Bool.and_true]
theorem inT_yes {f : Nat → Int} {ni : Nat} {o : Nat → O4} {n b : Nat} (h : ((SO o n).any b && !inb f ni b) = true) : inT f ni o n (b + 1) = false := by
  unfold inT
  simp only [allTo]
  have : pin f ni o n b = false := by
    unfold pin
    cases h1 : (SO o n).any b <;> cases h2 : inb f ni b <;> simp_all
  rw [this, Bool.and_false]
theorem gc_no {p : Bool} {o : Nat → O4} {n b k : Nat} (h : (sm o n (2 * b + 1) && !(o k).any b) = false) : (p && allTo (pgc o n b) (k + 1)) = (p && allTo (pgc o n b) k) := by
  simp only [allTo]
  have : pgc o n b k = true := by
    unfold pgc
    cases h1 : sm o n (2 * b + 1) <;> cases h2 : (o k).any b <;> simp_all
  rw [this, Bool.and_true]
theorem gc_yes {p : Bool} {o : Nat → O4} {n b k : Nat} (h : (sm o n (2 * b + 1) && !(o k).any b) = true) : (p && allTo (pgc o n b) (k + 1)) = false := by
  simp only [allTo]
  have : pgc o n b k = false := by
    unfold pgc
    cases h1 : sm o n (2 * b + 1) <;> cases h2 : (o k).any b <;> simp_all
  rw [this, Bool.and_false, Bool.and_false]
theorem va_no {p : Bool} {f : Nat → Int} {ni : Nat} {o : Nat → O4} {b k : Nat} (h : (inb f ni b && !inb f ni (1 - b) && !(o k).one b) = false) : (p && allTo (pva f ni o b) (k + 1)) = (p && allTo (pva f ni o b) k) := by
  simp only [allTo]
  have : pva f ni o b k = true := by
    unfold pva
    cases h1 : (inb f ni b && !inb f ni (1 - b)) <;> cases h2 : (o k).one b <;> simp_all
  rw [this, Bool.and_true]
theorem va_yes {p : Bool} {f : Nat → Int} {ni : Nat} {o : Nat → O4} {b k : Nat} (h : (inb f ni b && !inb f ni (1 - b) && !(o k).one b) = true) : (p && allTo (pva f ni o b) (k + 1)) = false := by
  simp only [allTo]
  have : pva f ni o b k = false := by
    unfold pva
    cases h1 : (inb f ni b && !inb f ni (1 - b)) <;> cases h2 : (o k).one b <;> simp_all
  rw [this, Bool.and_false, Bool.and_false]
def unT (o : Nat → O4) (n : Nat) : Bool := !sm o n 1 || !sm o n 3
end Go.Proofs.Qxb6600356a.Ck
