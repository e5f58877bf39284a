/- The ground of the walks: slots of a frame, frames of memory, rules for regions of operations. -/
import Derived.Below
import Derived.Calls
import Derived.Deep.MidRow
import Derived.Laws.AppendOwn
import Derived.Lib.EndianMore
import Derived.Shelf.Abstract
import Derived.Laws.BytesString
import Derived.Laws.Cells
set_option linter.unusedVariables false
set_option linter.unusedSimpArgs false
namespace Go.Kq
open Go

/-! ### slots -/
def get (a : Act) (t : Nat) : Value := a.tmps.getD t undef
theorem eval_tmp (a : Act) (t : Nat) : a.eval (.tmp t) = get a t := rfl
theorem eval_const (a : Act) (v : Value) : a.eval (.const v) = v := rfl
theorem size_put (a : Act) (d : Option Tmp) (v : Value) : (a.put d v).tmps.size = a.tmps.size := by
  cases d <;> simp [Act.put]
theorem defers_put (a : Act) (d : Option Tmp) (v : Value) : (a.put d v).defers = a.defers := by
  cases d <;> simp [Act.put]
theorem get_put_same {a : Act} {d : Nat} {v : Value} (h : d < a.tmps.size) : get (a.put (some d) v) d = v := by
  simp [get, Act.put, Array.getD_eq_getD_getElem?, h]
theorem get_put_ne {a : Act} {d t : Nat} {v : Value} (h : d ≠ t) : get (a.put (some d) v) t = get a t := by
  simp [get, Act.put, Array.getD_eq_getD_getElem?, h]
theorem put_none (a : Act) (v : Value) : a.put none v = a := rfl

/-! ### operations one behind the other -/
/-- What an operation must lead to, as a thing of its own (that is not looked into). -/
structure OW (P : Program) (o : Oper) (a : Act) (w : World) (K : Act → World → Prop) (Q : Exit → Act → World → Prop) : Prop where
  sem : o.wp P a w K Q
def wpl (P : Program) (Q : Exit → Act → World → Prop) : List Oper → Act → World → Prop
  | [], a, w => Q .normal a w
  | o :: os, a, w => OW P o a w (wpl P Q os) Q

theorem wpl_nil {P : Program} {Q : Exit → Act → World → Prop} {a : Act} {w : World} : wpl P Q [] a w = Q .normal a w := rfl
theorem wpl_cons {P : Program} {Q : Exit → Act → World → Prop} {o : Oper} {os : List Oper} {a : Act} {w : World} :
    wpl P Q (o :: os) a w = OW P o a w (wpl P Q os) Q := rfl

theorem Oper.upon_mono {P : Program} {o : Oper} {a : Act} {Q : Exit → Act → World → Prop} {n1 n2 : Act → World → Prop} (h : ∀ a w, n1 a w → n2 a w) :
    ∀ r, o.upon P a n1 Q r → o.upon P a n2 Q r := by
  intro r hr
  unfold Oper.upon at hr ⊢
  split at hr
  · exact h _ _ hr
  · exact h _ _ hr
  · exact h _ _ hr
  · refine Calls.mono hr ?_
    intro e w' he
    cases e with
    | returned v => exact h _ _ he
    | panicked c => exact he
    | outgrown => exact he
  · exact Rows.mono hr fun v w' hv => h _ _ hv
  · exact hr
  · exact hr.elim

theorem wpOps_of_wpl {P : Program} {Q : Exit → Act → World → Prop} {ops : Array Oper} (hg : ∀ (i : Nat) (o : Oper), ops[i]? = some o → o.guard = none) :
    ∀ (n i : Nat) (a : Act) (w : World), i + n = ops.size → wpl P Q (ops.toList.drop i) a w → wpOps P ops Q (List.range' i n) a w := by
  intro n
  induction n with
  | zero =>
    intro i a w hi h
    have : ops.toList.drop i = [] := by apply List.drop_of_length_le; simp; omega
    rw [this] at h
    simpa [wpOps, wpl] using h
  | succ n ih =>
    intro i a w hi h
    have hlt : i < ops.size := by omega
    have hd : ops.toList.drop i = ops[i] :: ops.toList.drop (i + 1) := by
      rw [List.drop_eq_getElem_cons (by simpa using hlt)]; simp
    have hs : ops[i]? = some ops[i] := Array.getElem?_eq_getElem hlt
    rw [hd] at h
    simp only [List.range'_succ, wpOps, hs]
    have hw : Region.wanted ops[i] (yielded ops a.tmps) = true := by
      simp [Region.wanted, hg i _ hs]
    simp only [hw, if_true]
    left
    exact Oper.upon_mono (fun a w h => ih (i + 1) a w (by omega) h) _ h.sem

def unguarded : List Oper → Bool
  | [] => true
  | o :: os => o.guard.isNone && unguarded os

theorem unguarded_at {l : List Oper} (h : unguarded l = true) : ∀ (i : Nat) (o : Oper), l[i]? = some o → o.guard = none := by
  induction l with
  | nil => intro i o hi; simp at hi
  | cons x l ih =>
    intro i o hi
    simp only [unguarded, Bool.and_eq_true, Option.isNone_iff_eq_none] at h
    cases i with
    | zero => simp at hi; subst hi; exact h.1
    | succ i => simp at hi; exact ih h.2 i o hi

/-- A region that draws no order: its operations in their order. -/
theorem wp_reg {P : Program} {Q : Exit → Act → World → Prop} {id : Nat} {l : List Oper} {a : Act} {w : World}
    (h : wpl P Q l a w) (hg : unguarded l = true := by rfl) : (Code.region id ⟨l⟩ false).wp P Q a w := by
  refine wp_region ?_
  have := wpOps_of_wpl (P := P) (Q := Q) (ops := ⟨l⟩) (fun i o hi => unguarded_at hg i o (by simpa using hi)) l.length 0 a w (by simp) (by simpa using h)
  simpa [List.range_eq_range'] using this

end Go.Kq

/- Memory: what stays but for some ranges of cells. -/
namespace Go.Kq
open Go

/-- A range of cells: block, from, to. -/
structure Rng where
  b : Nat
  lo : Nat
  hi : Nat

theorem lt_of_block {w : World} {b : Nat} {o : Obj} (h : w.heap[b]? = some o) : b < w.heap.size := by
  by_cases hb : b < w.heap.size
  · exact hb
  · rw [Array.getElem?_eq_none (by omega)] at h; simp at h
theorem block_of_cell {w : World} {b o : Nat} {v : Value} (h : w.cell? ⟨b, o, none⟩ = some v) : ∃ cs T fz, w.heap[b]? = some (.cells cs T fz) ∧ cs[o]? = some v := by
  unfold World.cell? at h
  split at h
  · rename_i c T fz hb
    simp at h
    exact ⟨c, T, fz, hb, h⟩
  · simp at h
theorem cell_of_block {w : World} {b o : Nat} {cs : Array Value} {T : TypeId} {fz : Nat × Nat} (h : w.heap[b]? = some (.cells cs T fz)) : w.cell? ⟨b, o, none⟩ = cs[o]? := by
  simp [World.cell?, h]
theorem lt_of_cell {w : World} {b o : Nat} {v : Value} (h : w.cell? ⟨b, o, none⟩ = some v) : b < w.heap.size := by
  obtain ⟨_, _, _, h, _⟩ := block_of_cell h
  exact lt_of_block h

/-- What was there has not turned but in some ranges of cells. -/
structure Fr (l : List Rng) (w w' : World) : Prop where
  os : w'.os = w.os
  tape : w'.tape = w.tape
  output : w'.output = w.output
  size : w.heap.size ≤ w'.heap.size
  block : ∀ k, k < w.heap.size → (∀ r ∈ l, r.b ≠ k) → w'.heap[k]? = w.heap[k]?
  cells : ∀ (k : Nat) cs T fz, w.heap[k]? = some (.cells cs T fz) → ∃ cs', w'.heap[k]? = some (.cells cs' T fz) ∧ cs'.size = cs.size ∧
    ∀ j, (∀ r ∈ l, r.b = k → j < r.lo ∨ r.hi ≤ j) → cs'[j]? = cs[j]?

theorem Fr.refl (l : List Rng) (w : World) : Fr l w w := ⟨rfl, rfl, rfl, Nat.le_refl _, fun _ _ _ => rfl, fun _ cs _ _ h => ⟨cs, h, rfl, fun _ _ => rfl⟩⟩

/-- A range lies within one of a list, or in a block that is new against w. -/
def Rng.In (r : Rng) (l : List Rng) (w : World) : Prop := w.heap.size ≤ r.b ∨ ∃ x ∈ l, x.b = r.b ∧ x.lo ≤ r.lo ∧ r.hi ≤ x.hi

theorem Fr.trans {l l' : List Rng} {a b c : World} (h : Fr l a b) (k : Fr l' b c) (hl : ∀ r ∈ l', r.In l a) : Fr l a c where
  os := k.os.trans h.os
  tape := k.tape.trans h.tape
  output := k.output.trans h.output
  size := Nat.le_trans h.size k.size
  block i hi hn := by
    refine (k.block i (Nat.lt_of_lt_of_le hi h.size) (fun r hr e => ?_)).trans (h.block i hi hn)
    rcases hl r hr with h1 | ⟨x, hx, e1, _⟩
    · omega
    · exact hn x hx (e1.trans e)
  cells i cs T fz hc := by
    obtain ⟨c1, h1, s1, e1⟩ := h.cells i cs T fz hc
    obtain ⟨c2, h2, s2, e2⟩ := k.cells i c1 T fz h1
    refine ⟨c2, h2, s2.trans s1, fun j hj => ?_⟩
    refine (e2 j (fun r hr e => ?_)).trans (e1 j hj)
    rcases hl r hr with h3 | ⟨x, hx, e3, h4, h5⟩
    · have := lt_of_block hc; omega
    · have := hj x hx (e3.trans e); omega
theorem Rng.in_self {l : List Rng} {w : World} {r : Rng} (h : r ∈ l) : r.In l w := .inr ⟨r, h, rfl, Nat.le_refl _, Nat.le_refl _⟩
theorem Fr.tr {l : List Rng} {a b c : World} (h : Fr l a b) (k : Fr l b c) : Fr l a c := h.trans k fun _ hx => Rng.in_self hx
theorem Fr.mono {l l' : List Rng} {w w' : World} (h : Fr l w w') (hl : ∀ r ∈ l, r.In l' w) : Fr l' w w' := (Fr.refl l' w).trans h hl
theorem Fr.nil {l : List Rng} {w w' : World} (h : Fr [] w w') : Fr l w w' := h.mono (by simp)

theorem Fr.alloc (l : List Rng) (w : World) (o : Obj) : Fr l w (w.alloc o) :=
  ⟨rfl, rfl, rfl, by show w.heap.size ≤ (w.heap.push o).size; simp, fun k hk _ => RowKit.Below.heap_alloc _ _ _ (by omega),
    fun k cs _ _ h => ⟨cs, by rw [RowKit.Below.heap_alloc _ _ _ (lt_of_block h)]; exact h, rfl, fun _ _ => rfl⟩⟩
theorem Fr.drew (l : List Rng) (w : World) : Fr l w w.drew := ⟨rfl, rfl, rfl, Nat.le_refl _, fun _ _ _ => rfl, fun _ cs _ _ h => ⟨cs, h, rfl, fun _ _ => rfl⟩⟩
theorem Fr.set (w : World) (b o : Nat) (v : Value) : Fr [⟨b, o, o + 1⟩] w (w.setCell ⟨b, o, none⟩ v) where
  os := rfl
  tape := rfl
  output := rfl
  size := by simp [World.setCell]
  block k _ hn := RowKit.Below.heap_setCell _ _ _ _ (by have := hn ⟨b, o, o + 1⟩ (by simp); exact fun e => this e.symm)
  cells k cs T fz h := by
    by_cases e : k = b
    · subst e
      refine ⟨cs.setIfInBounds o v, ?_, by simp, fun j hj => ?_⟩
      · simp [World.setCell, Array.getElem?_modify, h]
      · have := hj ⟨k, o, o + 1⟩ (by simp) rfl
        simp only at this
        rw [Array.getElem?_setIfInBounds, if_neg (by omega)]
    · exact ⟨cs, by rw [RowKit.Below.heap_setCell _ _ _ _ e]; exact h, rfl, fun _ _ => rfl⟩
theorem Fr.sets (b : Nat) : ∀ (vs : List Value) (w : World) (o : Nat), Fr [⟨b, o, o + vs.length⟩] w (w.setCells b o vs)
  | [], w, o => Fr.refl _ w
  | v :: r, w, o => by
    have h1 := Fr.set w b o v
    have h2 := Fr.sets b r (w.setCell ⟨b, o, none⟩ v) (o + 1)
    refine (h1.mono (l' := [⟨b, o, o + (v :: r).length⟩]) ?_).trans h2 ?_
    · intro x hx; simp at hx; subst hx; exact .inr ⟨_, List.mem_singleton.2 rfl, rfl, Nat.le_refl _, by simp⟩
    · intro x hx; simp at hx; subst hx; exact .inr ⟨_, List.mem_singleton.2 rfl, rfl, by simp, by simp; omega⟩

theorem Fr.below {w w' : World} (h : Fr [] w w') : RowKit.Below w.heap.size w w' :=
  ⟨h.os, h.tape, h.output, h.size, fun k hk => h.block k hk (by simp)⟩

/-- A range of cells and a list of ranges have nothing in common. -/
def Apart (l : List Rng) (b lo hi : Nat) : Prop := ∀ r ∈ l, r.b ≠ b ∨ hi ≤ r.lo ∨ r.hi ≤ lo

theorem Apart.nil {b lo hi : Nat} : Apart [] b lo hi := fun _ h => by cases h
theorem Apart.cons {r : Rng} {l : List Rng} {b lo hi : Nat} (h : r.b ≠ b ∨ hi ≤ r.lo ∨ r.hi ≤ lo) (t : Apart l b lo hi) : Apart (r :: l) b lo hi := fun x hx => by
  rcases List.mem_cons.1 hx with e | e
  · subst e; exact h
  · exact t x e

theorem Fr.cell {l : List Rng} {w w' : World} {b o : Nat} {v : Value} (h : Fr l w w') (hc : w.cell? ⟨b, o, none⟩ = some v) (ha : Apart l b o (o + 1)) : w'.cell? ⟨b, o, none⟩ = some v := by
  obtain ⟨cs, T, fz, hb, hv⟩ := block_of_cell hc
  obtain ⟨cs', hb', _, he⟩ := h.cells b cs T fz hb
  rw [cell_of_block hb', he o (fun r hr e => ?_), hv]
  have := ha r hr; omega
theorem Fr.range {l : List Rng} {w w' : World} {b o : Nat} {cs : List Value} (h : Fr l w w') (hc : w.rangeAt b o cs) (ha : Apart l b o (o + cs.length)) : w'.rangeAt b o cs := by
  intro j v hv
  have hj : j < cs.length := (List.getElem?_eq_some_iff.1 hv).1
  refine h.cell (hc j v hv) (fun r hr => ?_)
  have := ha r hr; omega
theorem there_iff {w : World} {b o n : Nat} : w.there b o n ↔ ∀ j, j < n → ∃ cs T fz, w.heap[b]? = some (.cells cs T fz) ∧ o + j < cs.size ∧ ¬ (fz.1 ≤ o + j ∧ o + j < fz.2) := by
  constructor
  · intro h j hj
    obtain ⟨h1, h2⟩ := h j hj
    obtain ⟨v, hv⟩ := Option.isSome_iff_exists.1 h1
    obtain ⟨cs, T, fz, hb, hc⟩ := block_of_cell hv
    refine ⟨cs, T, fz, hb, (Array.getElem?_eq_some_iff.1 hc).1, ?_⟩
    simp [World.frozen?, hb] at h2
    omega
  · intro h j hj
    obtain ⟨cs, T, fz, hb, hc, hf⟩ := h j hj
    refine ⟨by rw [cell_of_block hb]; simp [hc], ?_⟩
    simp [World.frozen?, hb]
    omega
theorem Fr.there {l : List Rng} {w w' : World} {b o n : Nat} (h : Fr l w w') (hc : w.there b o n) : w'.there b o n := by
  rw [there_iff] at hc ⊢
  intro j hj
  obtain ⟨cs, T, fz, hb, hlt, hf⟩ := hc j hj
  obtain ⟨cs', hb', hs, _⟩ := h.cells b cs T fz hb
  exact ⟨cs', T, fz, hb', by omega, hf⟩
theorem there_part {w : World} {b o n o' n' : Nat} (h : w.there b o n) (h1 : o ≤ o') (h2 : o' + n' ≤ o + n) : w.there b o' n' := fun j hj => by
  have := h (o' - o + j) (by omega)
  rw [show o + (o' - o + j) = o' + j from by omega] at this
  exact this
theorem there_lt {w : World} {b o n : Nat} (h : w.there b o n) (hn : 0 < n) : b < w.heap.size := by
  obtain ⟨cs, T, fz, hb, _⟩ := there_iff.1 h 0 hn
  exact lt_of_block hb
theorem range_lt {w : World} {b o : Nat} {cs : List Value} (h : w.rangeAt b o cs) (hn : cs ≠ []) : b < w.heap.size := by
  cases cs with
  | nil => exact absurd rfl hn
  | cons v r => exact lt_of_cell (h 0 v rfl)
theorem range_append {w : World} {b o : Nat} {xs ys : List Value} : w.rangeAt b o (xs ++ ys) ↔ w.rangeAt b o xs ∧ w.rangeAt b (o + xs.length) ys := by
  constructor
  · intro h
    refine ⟨fun j v hv => h j v ?_, fun j v hv => ?_⟩
    · rw [List.getElem?_append_left (List.getElem?_eq_some_iff.1 hv).1]; exact hv
    · have := h (xs.length + j) v (by rw [List.getElem?_append_right (by omega)]; simpa using hv)
      rw [show o + xs.length + j = o + (xs.length + j) from by omega]; exact this
  · rintro ⟨h1, h2⟩ j v hv
    by_cases hj : j < xs.length
    · rw [List.getElem?_append_left hj] at hv; exact h1 j v hv
    · rw [List.getElem?_append_right (by omega)] at hv
      have := h2 _ v hv
      rw [show o + xs.length + (j - xs.length) = o + j from by omega] at this; exact this
theorem range_one {w : World} {b o : Nat} {v : Value} : w.rangeAt b o [v] ↔ w.cell? ⟨b, o, none⟩ = some v := by
  constructor
  · intro h; exact h 0 v rfl
  · intro h j u hu
    cases j with
    | zero => simp at hu; subst hu; exact h
    | succ j => simp at hu
theorem range_cons {w : World} {b o : Nat} {v : Value} {cs : List Value} : w.rangeAt b o (v :: cs) ↔ w.cell? ⟨b, o, none⟩ = some v ∧ w.rangeAt b (o + 1) cs := by
  rw [show v :: cs = [v] ++ cs from rfl, range_append, range_one]; rfl
theorem range_nil {w : World} {b o : Nat} : w.rangeAt b o [] := fun _ _ h => by simp at h
/-- A part of a range. -/
theorem range_part {w : World} {b o : Nat} {cs : List Value} (h : w.rangeAt b o cs) (i n : Nat) : w.rangeAt b (o + i) ((cs.drop i).take n) := by
  intro j v hv
  rw [List.getElem?_take] at hv
  split at hv
  · rw [List.getElem?_drop] at hv
    have := h (i + j) v hv
    rwa [show o + (i + j) = o + i + j from by omega] at this
  · simp at hv
theorem range_set {w : World} {b o : Nat} {v : Value} (h : w.there b o 1) : (w.setCell ⟨b, o, none⟩ v).cell? ⟨b, o, none⟩ = some v := by
  have := (World.rangeAt_setCells_same w b o [v] h) 0 v rfl
  simpa [World.setCells] using this
/-- A cell in another place than what was stored. -/
theorem there_cell {w : World} {b o n : Nat} (h : w.there b o n) {j : Nat} (hj : o ≤ j) (hn : j < o + n) : ∃ v, w.cell? ⟨b, j, none⟩ = some v := by
  have := (h (j - o) (by omega)).1
  rw [show o + (j - o) = j from by omega] at this
  exact Option.isSome_iff_exists.1 this

/-- A new block. -/
theorem range_new (w : World) (cs : Array Value) (T : TypeId) (fz : Nat × Nat) : (w.alloc (.cells cs T fz)).rangeAt w.heap.size 0 cs.toList := by
  intro j v hv
  have hb : (w.alloc (.cells cs T fz)).heap[w.heap.size]? = some (.cells cs T fz) := by show (w.heap.push _)[w.heap.size]? = _; simp
  rw [cell_of_block hb]; simpa using hv
theorem there_new (w : World) (cs : Array Value) (T : TypeId) : (w.alloc (.cells cs T (0, 0))).there w.heap.size 0 cs.size := by
  rw [there_iff]
  intro j hj
  refine ⟨cs, T, (0, 0), by show (w.heap.push _)[w.heap.size]? = _; simp, by omega, by simp⟩
theorem size_alloc (w : World) (o : Obj) : (w.alloc o).heap.size = w.heap.size + 1 := by show (w.heap.push o).size = _; simp
theorem Fr.grown {w w' : World} {row : Option Nat} (h : w.grownBy w' row) (hr : ∀ k, row = some k → w.heap.size ≤ k) : Fr [] w w' where
  os := h.os
  tape := h.tape
  output := h.output
  size := h.size
  block k hk _ := h.block k hk (fun e => by have := hr k e.symm; omega)
  cells k cs T fz hc := ⟨cs, by rw [h.block k (lt_of_block hc) (fun e => by have := hr k e.symm; have := lt_of_block hc; omega)]; exact hc, rfl, fun _ _ => rfl⟩

end Go.Kq

/- What the values of messages are, and how they lie in memory. -/
namespace Go.Kq
open Go

/-- What a field holds: a number (a bool is 0 or 1), octets, nothing (nil), things, tags. -/
inductive V where
  | n (i : Int)
  | s (l : List UInt8)
  | nil
  | l (xs : List V)
  | t (kv : List (Nat × V))
  deriving Inhabited

/-- The types of fields. -/
inductive Ty where
  | int (k : IntKind)
  | bool
  | f64
  | str
  | pstr
  | bytes
  | uuid
  | tags
  | arr (t : Ty)
  | st (fs : List Ty)
  | ptr (t : Ty)
  deriving Inhabited

mutual
def Ty.size : Ty → Nat
  | .uuid => 16
  | .st fs => Ty.sizes fs
  | _ => 1
def Ty.sizes : List Ty → Nat
  | [] => 0
  | t :: ts => t.size + Ty.sizes ts
end

def octets (l : List UInt8) : List Value := l.map fun b => .int .u8 b.toNat
theorem length_octets (l : List UInt8) : (octets l).length = l.length := by simp [octets]

/-- Octets that lie in memory behind a slice; nil, or not. -/
def Octs (w : World) (A : Nat → Prop) (v : Value) (x : Option (List UInt8)) : Prop :=
  (v = .slice none 0 0 ∧ x = none) ∨
  ∃ b o cap l, A b ∧ v = .slice (some ⟨b, o, none⟩) l.length cap ∧ (l.length ≤ cap ∧ l.length ≤ 4294967296) ∧ w.rangeAt b o (octets l) ∧ x = some l

def V.oct : Option (List UInt8) → V
  | none => .nil
  | some y => .s y

/-- The entries of a map of tags. -/
def Entries (w : World) (A : Nat → Prop) : List MapEntry → List (Nat × V) → Prop
  | [], kv => kv = []
  | e :: es, kv => ∃ k x r, kv = (k, .oct x) :: r ∧ k < 4294967296 ∧ e.key = .int .u32 k ∧ Octs w A e.val x ∧ Entries w A es r

/-- No key twice; no stamp twice, each behind the clock. -/
def TagOk (es : Array MapEntry) (clock : Nat) (kv : List (Nat × V)) : Prop := (es.toList.map (·.born)).Nodup ∧ (∀ e ∈ es.toList, e.born < clock) ∧ (kv.map (·.1)).Nodup

mutual
/-- So many cells, read as a type, hold a value; what they lead to lies in blocks of A. -/
def Rep (w : World) (A : Nat → Prop) : Ty → List Value → V → Prop
  | .int k, cs, x => ∃ i, cs = [.int k i] ∧ x = .n i ∧ k.min ≤ i ∧ i ≤ k.max
  | .bool, cs, x => ∃ b : Bool, cs = [.bool b] ∧ x = .n (if b then 1 else 0)
  | .f64, cs, x => ∃ i : Nat, cs = [.float .f64 i] ∧ x = .n i ∧ i < 18446744073709551616
  | .str, cs, x => ∃ s : ByteArray, cs = [.string s] ∧ x = .s s.data.toList ∧ s.data.toList.length ≤ 4294967296
  | .pstr, cs, x => (cs = [.pointer none] ∧ x = .nil) ∨ ∃ b o, ∃ s : ByteArray, A b ∧ cs = [.pointer (some ⟨b, o, none⟩)] ∧ w.cell? ⟨b, o, none⟩ = some (.string s) ∧ x = .s s.data.toList ∧ s.data.toList.length ≤ 4294967296
  | .bytes, cs, x => ∃ v y, cs = [v] ∧ Octs w A v y ∧ x = .oct y
  | .uuid, cs, x => ∃ l, l.length = 16 ∧ cs = octets l ∧ x = .s l
  | .tags, cs, x => (cs = [.map none] ∧ x = .nil) ∨ ∃ r es clock kv, A r ∧ cs = [.map (some r)] ∧ w.heap[r]? = some (.map es clock) ∧ Entries w A es.toList kv ∧ x = .t kv ∧ TagOk es clock kv
  | .arr t, cs, x => (cs = [.slice none 0 0] ∧ x = .nil) ∨
      ∃ b o cap xs, A b ∧ cs = [.slice (some ⟨b, o, none⟩) xs.length cap] ∧ (xs.length ≤ cap ∧ xs.length ≤ 4294967296) ∧ x = .l xs ∧
        ∀ i y, xs[i]? = some y → ∃ es, w.rangeAt b (o + i * t.size) es ∧ es.length = t.size ∧ Rep w A t es y
  | .st fs, cs, x => ∃ xs, x = .l xs ∧ Reps w A fs cs xs
  | .ptr t, cs, x => (cs = [.pointer none] ∧ x = .nil) ∨
      ∃ b o es, A b ∧ cs = [.pointer (some ⟨b, o, none⟩)] ∧ w.rangeAt b o es ∧ es.length = t.size ∧ Rep w A t es x
def Reps (w : World) (A : Nat → Prop) : List Ty → List Value → List V → Prop
  | [], cs, xs => cs = [] ∧ xs = []
  | t :: ts, cs, xs => ∃ c1 c2 x r, cs = c1 ++ c2 ∧ xs = x :: r ∧ Rep w A t c1 x ∧ Reps w A ts c2 r
end

mutual
theorem Rep.length {w : World} {A : Nat → Prop} : ∀ {t : Ty} {cs : List Value} {x : V}, Rep w A t cs x → cs.length = t.size
  | .int k, cs, x, h => by obtain ⟨i, rfl, _⟩ := h; rfl
  | .bool, cs, x, h => by obtain ⟨i, rfl, _⟩ := h; rfl
  | .f64, cs, x, h => by obtain ⟨i, rfl, _⟩ := h; rfl
  | .str, cs, x, h => by obtain ⟨i, rfl, _⟩ := h; rfl
  | .pstr, cs, x, h => by rcases h with ⟨rfl, _⟩ | ⟨_, _, _, _, rfl, _⟩ <;> rfl
  | .bytes, cs, x, h => by obtain ⟨v, y, rfl, _⟩ := h; rfl
  | .uuid, cs, x, h => by obtain ⟨l, hl, rfl, _⟩ := h; rw [length_octets, hl]; rfl
  | .tags, cs, x, h => by rcases h with ⟨rfl, _⟩ | ⟨_, _, _, _, _, rfl, _⟩ <;> rfl
  | .arr t, cs, x, h => by rcases h with ⟨rfl, _⟩ | ⟨_, _, _, _, _, rfl, _⟩ <;> rfl
  | .ptr t, cs, x, h => by rcases h with ⟨rfl, _⟩ | ⟨_, _, _, _, rfl, _⟩ <;> rfl
  | .st fs, cs, x, h => by obtain ⟨xs, _, h⟩ := h; exact Reps.length h
theorem Reps.length {w : World} {A : Nat → Prop} : ∀ {ts : List Ty} {cs : List Value} {xs : List V}, Reps w A ts cs xs → cs.length = Ty.sizes ts
  | [], cs, xs, h => by obtain ⟨rfl, _⟩ := h; rfl
  | t :: ts, cs, xs, h => by
    obtain ⟨c1, c2, x, r, rfl, _, h1, h2⟩ := h
    rw [List.length_append, Rep.length h1, Reps.length h2]; rfl
end

theorem Octs.kept {w w' : World} {A A' : Nat → Prop} {l : List Rng} {v : Value} {x : Option (List UInt8)} (h : Octs w A v x) (hf : Fr l w w') (hl : ∀ r ∈ l, ¬ A r.b) (hA : ∀ b, A b → A' b) : Octs w' A' v x := by
  rcases h with h | ⟨b, o, cap, l', hb, hv, hc, hr, hx⟩
  · exact .inl h
  · exact .inr ⟨b, o, cap, l', hA b hb, hv, hc, hf.range hr (fun r hr => .inl (fun e => hl r hr (e ▸ hb))), hx⟩
theorem Entries.kept {w w' : World} {A A' : Nat → Prop} {l : List Rng} (hf : Fr l w w') (hl : ∀ r ∈ l, ¬ A r.b) (hA : ∀ b, A b → A' b) :
    ∀ {es : List MapEntry} {kv : List (Nat × V)}, Entries w A es kv → Entries w' A' es kv
  | [], kv, h => h
  | e :: es, kv, h => by
    obtain ⟨k, x, r, h1, h2, h3, h4, h5⟩ := h
    exact ⟨k, x, r, h1, h2, h3, h4.kept hf hl hA, Entries.kept hf hl hA h5⟩
mutual
theorem Rep.kept {w w' : World} {A A' : Nat → Prop} {l : List Rng} (hf : Fr l w w') (hl : ∀ r ∈ l, ¬ A r.b) (hA : ∀ b, A b → A' b) :
    ∀ {t : Ty} {cs : List Value} {x : V}, Rep w A t cs x → Rep w' A' t cs x
  | .int k, cs, x, h => h
  | .bool, cs, x, h => h
  | .f64, cs, x, h => h
  | .str, cs, x, h => h
  | .pstr, cs, x, h => by
    rcases h with h | ⟨b, o, s, hb, h1, h2, h3⟩
    · exact .inl h
    · exact .inr ⟨b, o, s, hA b hb, h1, hf.cell h2 (fun r hr => .inl (fun e => hl r hr (e ▸ hb))), h3⟩
  | .bytes, cs, x, h => by obtain ⟨v, y, h1, h2, h3⟩ := h; exact ⟨v, y, h1, h2.kept hf hl hA, h3⟩
  | .uuid, cs, x, h => h
  | .tags, cs, x, h => by
    rcases h with h | ⟨r, es, clock, kv, hr, h1, h2, h3, h4⟩
    · exact .inl h
    · exact .inr ⟨r, es, clock, kv, hA r hr, h1, by rw [hf.block r (lt_of_block h2) (fun x hx e => hl x hx (e ▸ hr))]; exact h2, h3.kept hf hl hA, h4⟩
  | .arr t, cs, x, h => by
    rcases h with h | ⟨b, o, cap, xs, hb, h1, h2, h3, h4⟩
    · exact .inl h
    · refine .inr ⟨b, o, cap, xs, hA b hb, h1, h2, h3, fun i y hy => ?_⟩
      obtain ⟨es, h5, h6, h7⟩ := h4 i y hy
      exact ⟨es, hf.range h5 (fun r hr => .inl (fun e => hl r hr (e ▸ hb))), h6, Rep.kept hf hl hA h7⟩
  | .ptr t, cs, x, h => by
    rcases h with h | ⟨b, o, es, hb, h1, h2, h3, h4⟩
    · exact .inl h
    · exact .inr ⟨b, o, es, hA b hb, h1, hf.range h2 (fun r hr => .inl (fun e => hl r hr (e ▸ hb))), h3, Rep.kept hf hl hA h4⟩
  | .st fs, cs, x, h => by obtain ⟨xs, h1, h2⟩ := h; exact ⟨xs, h1, Reps.kept hf hl hA h2⟩
theorem Reps.kept {w w' : World} {A A' : Nat → Prop} {l : List Rng} (hf : Fr l w w') (hl : ∀ r ∈ l, ¬ A r.b) (hA : ∀ b, A b → A' b) :
    ∀ {ts : List Ty} {cs : List Value} {xs : List V}, Reps w A ts cs xs → Reps w' A' ts cs xs
  | [], cs, xs, h => h
  | t :: ts, cs, xs, h => by
    obtain ⟨c1, c2, x, r, h1, h2, h3, h4⟩ := h
    exact ⟨c1, c2, x, r, h1, h2, Rep.kept hf hl hA h3, Reps.kept hf hl hA h4⟩
end

/-! ### what is kept, in parts -/
theorem Reps.append {w : World} {A : Nat → Prop} : ∀ {ts us : List Ty} {cs ds : List Value} {xs ys : List V}, Reps w A ts cs xs → Reps w A us ds ys → Reps w A (ts ++ us) (cs ++ ds) (xs ++ ys)
  | [], us, cs, ds, xs, ys, h, h' => by obtain ⟨rfl, rfl⟩ := h; exact h'
  | t :: ts, us, cs, ds, xs, ys, h, h' => by
    obtain ⟨c1, c2, x, r, rfl, rfl, h3, h4⟩ := h
    exact ⟨c1, c2 ++ ds, x, r ++ ys, by simp, by simp, h3, Reps.append h4 h'⟩
theorem Ty.sizes_append : ∀ (ts us : List Ty), Ty.sizes (ts ++ us) = Ty.sizes ts + Ty.sizes us
  | [], us => by simp [Ty.sizes]
  | t :: ts, us => by simp [Ty.sizes, Ty.sizes_append ts us]; omega

end Go.Kq

/- Tags as plain lists. -/
namespace Go.Kq
open Go

/-! ### tags as a list -/
def kvSet : List (Nat × V) → Nat → V → List (Nat × V)
  | [], k, x => [(k, x)]
  | p :: r, k, x => if p.1 = k then (k, x) :: r else p :: kvSet r k x
theorem kvSet_keys : ∀ (kv : List (Nat × V)) (k : Nat) (x : V), (kvSet kv k x).map (·.1) = if k ∈ kv.map (·.1) then kv.map (·.1) else kv.map (·.1) ++ [k]
  | [], k, x => by simp [kvSet]
  | p :: r, k, x => by
    unfold kvSet
    by_cases h : p.1 = k
    · simp [h]
    · have ih := kvSet_keys r k x
      rw [if_neg h, List.map_cons, ih]
      by_cases hk : k ∈ r.map (·.1)
      · rw [if_pos hk, if_pos (by simp only [List.map_cons]; exact List.mem_cons_of_mem _ hk)]; rfl
      · rw [if_neg hk, if_neg (by simp only [List.map_cons, List.mem_cons, not_or]; exact ⟨fun e => h e.symm, hk⟩)]; rfl
theorem kvSet_nodup {kv : List (Nat × V)} {k : Nat} {x : V} (h : (kv.map (·.1)).Nodup) : ((kvSet kv k x).map (·.1)).Nodup := by
  rw [kvSet_keys]
  split
  · exact h
  · rename_i hk
    rw [List.nodup_append]
    exact ⟨h, by simp, fun a ha b hb e => by simp at hb; subst hb; exact hk (e ▸ ha)⟩
theorem kvSet_set : ∀ {kv : List (Nat × V)} {j k : Nat} {x y : V}, (kv.map (·.1)).Nodup → kv[j]? = some (k, x) → kvSet kv k y = kv.set j (k, y)
  | [], j, k, x, y, _, h => by simp at h
  | p :: r, 0, k, x, y, _, h => by simp at h; subst h; simp [kvSet]
  | p :: r, j + 1, k, x, y, hn, h => by
    simp only [List.map_cons, List.nodup_cons] at hn
    have hm : (k, x) ∈ r := List.mem_of_getElem? (by simpa using h)
    have hne : p.1 ≠ k := fun e => hn.1 (by rw [e]; exact List.mem_map.2 ⟨_, hm, rfl⟩)
    rw [kvSet, if_neg hne, kvSet_set hn.2 (by simpa using h)]; rfl
theorem kvSet_push : ∀ {kv : List (Nat × V)} {k : Nat} {y : V}, (∀ p ∈ kv, p.1 ≠ k) → kvSet kv k y = kv ++ [(k, y)]
  | [], k, y, _ => rfl
  | p :: r, k, y, h => by rw [kvSet, if_neg (h p (by simp)), kvSet_push (fun q hq => h q (by simp [hq]))]; rfl

def tagKv : V → List (Nat × V)
  | .t kv => kv
  | _ => []
def tagSet (x : V) (k : Nat) (y : V) : V := .t (kvSet (tagKv x) k y)
/-! ### lists -/
theorem nodup_sub_len : ∀ {l m : List Nat}, l.Nodup → (∀ x ∈ l, x ∈ m) → l.length ≤ m.length
  | [], m, _, _ => by simp
  | x :: l, m, hn, hs => by
    have hx := hs x (by simp)
    have := nodup_sub_len (l := l) (m := m.erase x) (List.nodup_cons.1 hn).2 (fun y hy => by
      have hne : y ≠ x := fun e => (List.nodup_cons.1 hn).1 (e ▸ hy)
      exact (List.mem_erase_of_ne hne).2 (hs y (by simp [hy])))
    rw [List.length_erase_of_mem hx] at this
    have := List.length_pos_of_mem hx
    simp only [List.length_cons]; omega
theorem nodup_lt_len : ∀ {n : Nat} {l : List Nat}, l.Nodup → (∀ x ∈ l, x < n) → l.length ≤ n := by
  intro n l hn hl
  have := nodup_sub_len (m := List.range n) hn (fun x hx => List.mem_range.2 (hl x hx))
  simpa using this
theorem perm_of_same : ∀ {l m : List Nat}, l.Nodup → m.Nodup → (∀ x, x ∈ l ↔ x ∈ m) → l.Perm m
  | [], m, _, _, h => by
    cases m with
    | nil => exact List.Perm.refl _
    | cons y r => exact absurd ((h y).2 (by simp)) (by simp)
  | x :: l, m, hl, hm, h => by
    have hx : x ∈ m := (h x).1 (by simp)
    refine (List.Perm.cons x (perm_of_same (List.nodup_cons.1 hl).2 (hm.erase x) (fun y => ?_))).trans (List.perm_cons_erase hx).symm
    constructor
    · intro hy
      have hne : y ≠ x := fun e => (List.nodup_cons.1 hl).1 (e ▸ hy)
      exact (List.mem_erase_of_ne hne).2 ((h y).1 (by simp [hy]))
    · intro hy
      have hne : y ≠ x := fun e => by subst e; exact (List.Nodup.mem_erase_iff hm).1 hy |>.1 rfl
      have := (h y).2 (List.mem_of_mem_erase hy)
      simpa [hne] using this
theorem sorted_eq : ∀ {l m : List Nat}, l.Perm m → l.Pairwise (· ≤ ·) → m.Pairwise (· ≤ ·) → l = m
  | [], m, h, _, _ => (List.Perm.nil_eq h)
  | x :: l, [], h, _, _ => absurd h.length_eq (by simp)
  | x :: l, y :: m, h, h1, h2 => by
    have hxy : x = y := by
      have hx : x ∈ y :: m := h.mem_iff.1 (by simp)
      have hy : y ∈ x :: l := h.mem_iff.2 (by simp)
      have a1 : y ≤ x := by
        rcases List.mem_cons.1 hx with e | e
        · omega
        · exact (List.pairwise_cons.1 h2).1 x e
      have a2 : x ≤ y := by
        rcases List.mem_cons.1 hy with e | e
        · omega
        · exact (List.pairwise_cons.1 h1).1 y e
      omega
    subst hxy
    rw [sorted_eq (List.Perm.cons_inv h) (List.pairwise_cons.1 h1).2 (List.pairwise_cons.1 h2).2]

/-- Tags by rising keys. -/
def insKv (p : Nat × V) : List (Nat × V) → List (Nat × V)
  | [] => [p]
  | q :: r => if p.1 ≤ q.1 then p :: q :: r else q :: insKv p r
def sortKv (kv : List (Nat × V)) : List (Nat × V) := kv.foldr insKv []
theorem insKv_perm (p : Nat × V) : ∀ l, (insKv p l).Perm (p :: l)
  | [] => List.Perm.refl _
  | q :: r => by
    unfold insKv
    split
    · exact List.Perm.refl _
    · exact ((insKv_perm p r).cons q).trans (List.Perm.swap p q r)
theorem sortKv_perm : ∀ kv, (sortKv kv).Perm kv
  | [] => List.Perm.refl _
  | p :: r => (insKv_perm p _).trans ((sortKv_perm r).cons p)
theorem insKv_sorted (p : Nat × V) : ∀ l, l.Pairwise (fun a b => a.1 ≤ b.1) → (insKv p l).Pairwise (fun a b => a.1 ≤ b.1)
  | [], _ => by simp [insKv]
  | q :: r, h => by
    obtain ⟨h1, h2⟩ := List.pairwise_cons.1 h
    unfold insKv
    split
    · rename_i hpq
      refine List.pairwise_cons.2 ⟨fun a ha => ?_, h⟩
      rcases List.mem_cons.1 ha with rfl | ha
      · exact hpq
      · exact Nat.le_trans hpq (h1 a ha)
    · rename_i hpq
      refine List.pairwise_cons.2 ⟨fun a ha => ?_, insKv_sorted p r h2⟩
      rcases List.mem_cons.1 ((insKv_perm p r).mem_iff.1 ha) with rfl | ha
      · omega
      · exact h1 a ha
theorem sortKv_sorted : ∀ kv, (sortKv kv).Pairwise (fun a b => a.1 ≤ b.1)
  | [] => List.Pairwise.nil
  | p :: r => insKv_sorted p _ (sortKv_sorted r)
theorem sortKv_keys {kv : List (Nat × V)} {ks : List Nat} (hp : ks.Perm (kv.map (·.1))) (hs : ks.Pairwise (· ≤ ·)) : (sortKv kv).map (·.1) = ks := by
  refine sorted_eq (((sortKv_perm kv).map _).trans hp.symm) ?_ hs
  exact List.pairwise_map.2 (sortKv_sorted kv)

def V.octs : V → List UInt8
  | .s y => y
  | _ => []
/-- Unknown tags, told: by rising numbers. -/
def tagsT (x : V) : List (Nat × List UInt8) := (sortKv (tagKv x)).map fun p => (p.1, p.2.octs)

end Go.Kq

/- The reader's state and what each of its methods gives: plain functions. -/
namespace Go.Kq
open Go

/-- The octets that are left; whether the source is nil; whether the reader has gone bad. -/
structure RSt where
  xs : List UInt8
  nil : Bool
  bad : Bool
  deriving Inhabited, DecidableEq

def RSt.fail : RSt := ⟨[], true, true⟩

/-- k octets from the head. -/
def rdTake (k : Nat) (st : RSt) : Option (List UInt8) × RSt :=
  if st.xs.length < k then (none, .fail) else (some (st.xs.take k), { st with xs := st.xs.drop k })
def rdNum (kd : IntKind) (k : Nat) (st : RSt) : Int × RSt :=
  match rdTake k st with
  | (none, s) => (0, s)
  | (some l, s) => (kd.wrap (Lib.beNat l), s)
/-- Span: so many octets, nil if there are not so many. -/
def rdSpan (l : Int) (st : RSt) : Option (List UInt8) × RSt :=
  if (st.xs.length : Int) < l ∨ l < 0 then (none, .fail)
  else (if st.nil then none else some (st.xs.take l.toNat), { st with xs := st.xs.drop l.toNat })
def rdArrayLen (st : RSt) : Int × RSt :=
  let (r, s) := rdNum .i32 4 st
  if (s.xs.length : Int) < r then (0, .fail) else (r, s)
def rdString (st : RSt) : List UInt8 × RSt :=
  let (l, s) := rdNum .i16 2 st
  let (x, s) := rdSpan l s
  (x.getD [], s)

theorem rdNum_len (kd : IntKind) (k : Nat) (st : RSt) : (rdNum kd k st).2.xs.length ≤ st.xs.length := by
  unfold rdNum rdTake
  split <;> rename_i h <;> split at h <;> simp at h <;> first | (rw [← h.2]; simp [RSt.fail]) | (rw [← h]; simp [RSt.fail])
theorem rdSpan_len (l : Int) (st : RSt) : ((rdSpan l st).1.getD []).length ≤ st.xs.length := by
  unfold rdSpan
  split
  · simp
  · split <;> simp <;> omega
theorem rdString_length (st : RSt) : (rdString st).1.length ≤ st.xs.length := by
  unfold rdString
  exact Nat.le_trans (rdSpan_len _ _) (rdNum_len _ _ _)
theorem rdNum_i16 (st : RSt) : -32768 ≤ (rdNum .i16 2 st).1 ∧ (rdNum .i16 2 st).1 ≤ 32767 := by
  unfold rdNum
  split
  · simp
  · simp [IntKind.wrap, IntKind.bits, IntKind.signed]
    split <;> omega
theorem rdNum_i32 (st : RSt) : -2147483648 ≤ (rdNum .i32 4 st).1 ∧ (rdNum .i32 4 st).1 ≤ 2147483647 := by
  unfold rdNum
  split
  · simp
  · simp [IntKind.wrap, IntKind.bits, IntKind.signed]
    split <;> omega

/-- The reader in memory: its block, the block of the source. -/
def RW (w : World) (rb sb : Nat) (st : RSt) : Prop :=
  rb ≠ sb ∧ w.there rb 0 2 ∧ ∃ sv, w.rangeAt rb 0 [sv, .bool st.bad] ∧
    ((st.nil = true ∧ st.xs = [] ∧ sv = .slice none 0 0) ∨
     (st.nil = false ∧ ∃ o cap, sv = .slice (some ⟨sb, o, none⟩) st.xs.length cap ∧ (st.xs.length ≤ cap ∧ st.xs.length ≤ 4294967296) ∧ w.rangeAt sb o (octets st.xs)))

theorem RW.kept {w w' : World} {rb sb : Nat} {st : RSt} {l : List Rng} (h : RW w rb sb st) (hf : Fr l w w') (hl : ∀ r ∈ l, r.b ≠ rb ∧ r.b ≠ sb) : RW w' rb sb st := by
  obtain ⟨h1, h2, sv, h3, h4⟩ := h
  refine ⟨h1, hf.there h2, sv, hf.range h3 (fun r hr => .inl (hl r hr).1), ?_⟩
  rcases h4 with h4 | ⟨h4, o, cap, h5, h6, h7⟩
  · exact .inl h4
  · exact .inr ⟨h4, o, cap, h5, h6, hf.range h7 (fun r hr => .inl (hl r hr).2)⟩
theorem RW.cells {w : World} {rb sb : Nat} {st : RSt} (h : RW w rb sb st) : ∃ sv, w.cell? ⟨rb, 0, none⟩ = some sv ∧ w.cell? ⟨rb, 1, none⟩ = some (.bool st.bad) ∧ w.frozen? ⟨rb, 0, none⟩ = false ∧ w.frozen? ⟨rb, 1, none⟩ = false ∧ rb < w.heap.size ∧
    ((st.nil = true ∧ st.xs = [] ∧ sv = .slice none 0 0) ∨
     (st.nil = false ∧ ∃ o cap, sv = .slice (some ⟨sb, o, none⟩) st.xs.length cap ∧ (st.xs.length ≤ cap ∧ st.xs.length ≤ 4294967296) ∧ w.rangeAt sb o (octets st.xs))) := by
  obtain ⟨h1, h2, sv, h3, h4⟩ := h
  rw [range_cons, range_one] at h3
  exact ⟨sv, h3.1, h3.2, (h2 0 (by omega)).2, (h2 1 (by omega)).2, lt_of_cell h3.1, h4⟩
/-- .. as a slice, whatever it is. -/
theorem RW.slice {w : World} {rb sb : Nat} {st : RSt} (h : RW w rb sb st) : ∃ q cap, w.cell? ⟨rb, 0, none⟩ = some (.slice q st.xs.length cap) ∧ w.cell? ⟨rb, 1, none⟩ = some (.bool st.bad) ∧ w.frozen? ⟨rb, 0, none⟩ = false ∧ w.frozen? ⟨rb, 1, none⟩ = false ∧ rb < w.heap.size := by
  obtain ⟨sv, h1, h2, h3, h4, h5, h6⟩ := h.cells
  rcases h6 with ⟨_, hx, rfl⟩ | ⟨_, o, cap, rfl, _⟩
  · exact ⟨none, 0, by rw [hx]; exact h1, h2, h3, h4, h5⟩
  · exact ⟨_, cap, h1, h2, h3, h4, h5⟩
/-- .. of at least one octet. -/
theorem RW.some {w : World} {rb sb : Nat} {st : RSt} (h : RW w rb sb st) (hx : st.xs ≠ []) : ∃ o cap, w.cell? ⟨rb, 0, none⟩ = some (.slice (some ⟨sb, o, none⟩) st.xs.length cap) ∧ w.cell? ⟨rb, 1, none⟩ = some (.bool st.bad) ∧
    w.frozen? ⟨rb, 0, none⟩ = false ∧ w.frozen? ⟨rb, 1, none⟩ = false ∧ rb < w.heap.size ∧ sb < w.heap.size ∧ st.xs.length ≤ cap ∧ w.rangeAt sb o (octets st.xs) ∧ st.nil = false := by
  obtain ⟨sv, h1, h2, h3, h4, h5, h6⟩ := h.cells
  rcases h6 with ⟨_, hx', rfl⟩ | ⟨hn, o, cap, rfl, hc, hr⟩
  · exact absurd hx' hx
  · exact ⟨o, cap, h1, h2, h3, h4, h5, range_lt hr (by simpa [octets] using hx), hc.1, hr, hn⟩
theorem RW.gone {w : World} {rb sb : Nat} {st : RSt} (h : RW w rb sb st) : RW ((w.setCell ⟨rb, 1, none⟩ (.bool true)).setCell ⟨rb, 0, none⟩ (.slice none 0 0)) rb sb .fail ∧
    Fr [⟨rb, 0, 2⟩] w ((w.setCell ⟨rb, 1, none⟩ (.bool true)).setCell ⟨rb, 0, none⟩ (.slice none 0 0)) := by
  obtain ⟨h1, h2, _⟩ := h
  have f1 := Fr.set w rb 1 (.bool true)
  have f2 := Fr.set (w.setCell ⟨rb, 1, none⟩ (.bool true)) rb 0 (.slice none 0 0)
  have t1 := f1.there h2
  refine ⟨⟨h1, f2.there t1, .slice none 0 0, ?_, .inl ⟨rfl, rfl, rfl⟩⟩, ?_⟩
  · rw [range_cons, range_one]
    exact ⟨range_set (there_part t1 (Nat.le_refl _) (by omega)), f2.cell (range_set (there_part h2 (by omega) (by omega))) (Apart.cons (.inr (.inr (by simp))) .nil)⟩
  · exact (f1.mono (by intro r hr; simp at hr; subst hr; exact .inr ⟨_, List.mem_singleton.2 rfl, rfl, by simp, by simp⟩)).trans f2
      (by intro r hr; simp at hr; subst hr; exact .inr ⟨_, List.mem_singleton.2 rfl, rfl, by simp, by simp⟩)
theorem RW.big {w : World} {rb sb : Nat} {st : RSt} (h : RW w rb sb st) : st.xs.length ≤ 4294967296 := by
  obtain ⟨_, _, sv, _, h4⟩ := h
  rcases h4 with h4 | ⟨_, _, _, _, h6, _⟩
  · rw [h4.2.1]; simp
  · exact h6.2
theorem octets_drop (k : Nat) (l : List UInt8) : (octets l).drop k = octets (l.drop k) := by simp [octets, List.map_drop]
theorem octets_take (k : Nat) (l : List UInt8) : (octets l).take k = octets (l.take k) := by simp [octets, List.map_take]
theorem octets_range {w : World} {b o : Nat} {l : List UInt8} (h : w.rangeAt b o (octets l)) (i n : Nat) : w.rangeAt b (o + i) (octets ((l.drop i).take n)) := by
  have := range_part h i n
  rwa [octets_drop, octets_take] at this
theorem octets_from {w : World} {b o : Nat} {l : List UInt8} (h : w.rangeAt b o (octets l)) (i : Nat) : w.rangeAt b (o + i) (octets (l.drop i)) := by
  have := octets_range h i (l.drop i).length
  rwa [List.take_length] at this
/-- k octets read on. -/
theorem RW.on {w w1 : World} {rb sb : Nat} {st : RSt} {k o cap : Nat} (h : RW w rb sb st) (hs : w.cell? ⟨rb, 0, none⟩ = .some (.slice (.some ⟨sb, o, none⟩) st.xs.length cap)) (hr : w.rangeAt sb o (octets st.xs)) (hc : st.xs.length ≤ cap)
    (hn : st.nil = false) (hk : k ≤ st.xs.length) (f : Fr [] w w1) {v : Value} (hv : v = .slice (if cap = k then .some ⟨sb, o, none⟩ else (.some ⟨sb, o + k, none⟩)) (st.xs.length - k) (cap - k)) :
    RW (w1.setCell ⟨rb, 0, none⟩ v) rb sb { st with xs := st.xs.drop k } ∧ Fr [⟨rb, 0, 2⟩] w (w1.setCell ⟨rb, 0, none⟩ v) := by
  have h := h.kept f (by simp)
  have hr := f.range hr .nil
  obtain ⟨h1, h2, sv, h3, h4⟩ := h
  have hbig : st.xs.length ≤ 4294967296 := by
    rcases h4 with h4 | ⟨_, _, _, _, h6, _⟩
    · rw [h4.2.1]; simp
    · exact h6.2
  have f2 := Fr.set w1 rb 0 v
  rw [range_cons, range_one] at h3
  refine ⟨⟨h1, f2.there h2, v, ?_, .inr ⟨hn, ?_⟩⟩, (Fr.nil f).trans f2 (by intro r hr; simp at hr; subst hr; exact .inr ⟨_, List.mem_singleton.2 rfl, rfl, by simp, by simp⟩)⟩
  · rw [range_cons, range_one]
    exact ⟨range_set (there_part h2 (Nat.le_refl _) (by omega)), f2.cell h3.2 (Apart.cons (.inr (.inr (by simp))) .nil)⟩
  · by_cases e : cap = k
    · rw [if_pos e] at hv
      refine ⟨o, cap - k, by rw [hv]; simp, ⟨by simp; omega, by simp; omega⟩, ?_⟩
      have : st.xs.drop k = [] := List.drop_of_length_le (by omega)
      simp only [this]; exact range_nil
    · rw [if_neg e] at hv
      exact ⟨o + k, cap - k, by rw [hv]; simp, ⟨by simp; omega, by simp; omega⟩, f2.range (octets_from hr k) (Apart.cons (.inl h1) .nil)⟩
theorem be2 (a b : UInt8) : Lib.beNat [a, b] = a.toNat * 256 + b.toNat := by simp [Lib.beNat, Lib.beFrom]
theorem be4 (a b c d : UInt8) : Lib.beNat [a, b, c, d] = ((a.toNat * 256 + b.toNat) * 256 + c.toNat) * 256 + d.toNat := by simp [Lib.beNat, Lib.beFrom]
theorem be8 (a b c d e f g h : UInt8) : Lib.beNat [a, b, c, d, e, f, g, h] = ((((((a.toNat * 256 + b.toNat) * 256 + c.toNat) * 256 + d.toNat) * 256 + e.toNat) * 256 + f.toNat) * 256 + g.toNat) * 256 + h.toNat := by simp [Lib.beNat, Lib.beFrom]

end Go.Kq

/- What each operation does, over any program: the rules that a walk by hand takes, one for each operation. -/
namespace Go.Kq
open Go Go.Proofs

/-! ### what a program's types are -/
/-- A type of one cell that is neither a struct nor an array. -/
def scal (P : Program) (t : TypeId) : Bool :=
  (match P.underlying t with | some (.struct _) => false | some (.array _ _) => false | some _ => true | none => false) && ((P.info? t).map (·.size)) == some 1
/-- A struct's type (or an array's) of so many cells. -/
def aggr (P : Program) (t : TypeId) (n : Nat) : Bool :=
  (match P.underlying t with | some (.struct _) => true | some (.array _ _) => true | _ => false) && ((P.info? t).map (·.size)) == some n
/-- Where a field of a struct lies; its type takes at least one cell. -/
def fieldOf (P : Program) (t : TypeId) (k o : Nat) : Bool :=
  match P.underlying t with
  | some (.struct fs) => match fs[k]? with
    | some f => f.offset == o && (match P.info? f.type with | some i => i.size != 0 | none => false)
    | none => false
  | _ => false
/-- A slice's type: its element's type, how many cells and bytes that one takes, what it is at nought. -/
def sliceOf (P : Program) (t e n b : Nat) : Bool :=
  (match P.underlying t with | some (.slice e') => e' == e | _ => false) && (match P.info? e with | some i => i.size == n && i.bytes == b && i.zero.isSome && 0 < n | none => false)
def intOf (P : Program) (t : TypeId) (k : IntKind) : Bool := match P.underlying t with | some (.int k') => k' == k | _ => false
def boolTy (P : Program) (t : TypeId) : Bool := match P.underlying t with | some .bool => true | _ => false
def strTy (P : Program) (t : TypeId) : Bool := match P.underlying t with | some .string => true | _ => false

theorem scal_isAgg {P : Program} {t : TypeId} (h : scal P t = true) (w : World) : (isAgg t).run P w = .ok false w := by
  unfold scal at h
  cases hu : P.underlying t with
  | none => simp [hu] at h
  | some d => cases d <;> simp_all [isAgg, run_underlying hu]
theorem scal_size {P : Program} {t : TypeId} (h : scal P t = true) (w : World) : (sizeOf t).run P w = .ok 1 w := by
  unfold scal at h
  simp only [Bool.and_eq_true, beq_iff_eq] at h
  cases hi : P.info? t with
  | none => simp [hi] at h
  | some i => simp [hi] at h; simp [sizeOf, typeInfo, hi, h.2]

variable {P : Program} {a : Act} {w : World} {K : Act → World → Prop} {Q : Exit → Act → World → Prop} {d : Option Tmp} {t : TypeId} {p : String} {af : Array Edge} {g : Option (Nat × Bool)}

theorem wp_val {o : Oper} {v : Value} {w' : World} (h : (execOp a.eval o).run P w = .ok (.value v) w') (k : K (a.put o.dst v) w') : OW P o a w K Q := by
  constructor
  unfold Oper.wp; rw [h]; exact k

theorem wp_move {x : Operand} : OW P ⟨d, .move x, t, p, af, g⟩ a w K Q = K (a.put d (a.eval x)) w := propext ⟨fun h => h.sem, fun h => ⟨h⟩⟩
theorem wp_assign {x : Operand} : OW P ⟨d, .assign x, t, p, af, g⟩ a w K Q = K (a.put d (a.eval x)) w := propext ⟨fun h => h.sem, fun h => ⟨h⟩⟩

theorem wp_nilCheck {x : Operand} {q : Addr} (hx : a.eval x = .pointer (some q)) (k : K (a.put d (.pointer (some q))) w) : OW P ⟨d, .nilCheck x, t, p, af, g⟩ a w K Q :=
  wp_val (by simp [execOp, hx]) k

theorem add_addr (b o n : Nat) : (⟨b, o, none⟩ : Addr).add n = ⟨b, o + n, none⟩ := Addr.add_mid b o n

theorem wp_fieldAddr {s : TypeId} {x : Operand} {f o b i : Nat} (hf : fieldOf P s f o = true) (hx : a.eval x = .pointer (some ⟨b, i, none⟩))
    (k : K (a.put d (.pointer (some ⟨b, i + o, none⟩))) w) : OW P ⟨d, .fieldAddr s x f, t, p, af, g⟩ a w K Q := by
  unfold fieldOf at hf
  cases hu : P.underlying s with
  | none => simp [hu] at hf
  | some e =>
    cases e <;> simp only [hu] at hf <;> first | (simp at hf; done) | skip
    rename_i fs
    cases hfs : fs[f]? with
    | none => simp [hfs] at hf
    | some fl =>
      simp only [hfs, Bool.and_eq_true, beq_iff_eq] at hf
      obtain ⟨rfl, hs⟩ := hf
      cases hi : P.info? fl.type with
      | none => simp [hi] at hs
      | some inf =>
        simp only [hi, bne_iff_ne] at hs
        refine wp_val (v := .pointer (some ⟨b, i + fl.offset, none⟩)) (w' := w) ?_ k
        simp [execOp, hx, Instr.fieldAt, run_underlying hu, hfs, Instr.sureAddr, fieldPlace, sizeOf, typeInfo, hi, hs, add_addr]

theorem wp_load {s : TypeId} {x : Operand} {b o : Nat} {v : Value} (hs : scal P s = true) (hx : a.eval x = .pointer (some ⟨b, o, none⟩)) (hc : w.cell? ⟨b, o, none⟩ = some v)
    (k : K (a.put d v) w) : OW P ⟨d, .load s x, t, p, af, g⟩ a w K Q := by
  refine wp_val (v := v) (w' := w) ?_ k
  simp [execOp, hx, Instr.loadAt, Instr.sureAddr, loadVar, scal_isAgg hs, hc]

theorem wp_store {s : TypeId} {x y : Operand} {b o : Nat} {v : Value} (hs : scal P s = true) (hx : a.eval x = .pointer (some ⟨b, o, none⟩)) (hy : a.eval y = v) (h1 : v.oneCell' = true)
    (hc : w.there b o 1) (k : K (a.put d undef) (w.setCell ⟨b, o, none⟩ v)) : OW P ⟨d, .store s x y, t, p, af, g⟩ a w K Q := by
  have hcs : v.cells = #[v] := by cases v <;> first | rfl | (simp [Value.oneCell'] at h1)
  obtain ⟨h2, h3⟩ := hc 0 (by omega)
  simp only [Nat.add_zero] at h2 h3
  obtain ⟨u, hu⟩ := Option.isSome_iff_exists.1 h2
  constructor
  unfold Oper.wp
  have : (execOp a.eval ⟨d, .store s x y, t, p, af, g⟩).run P w = .ok .skip (w.setCell ⟨b, o, none⟩ v) := by
    simp only [execOp, hx, hy, Instr.storeAt, Instr.sureAddr, Sem.run_bind, Sem.run_pure, Result.andThen_ok, storeVar, scal_size hs, hcs]
    simp [storeCells, run_store, h1, Addr.add, hu, h3]
  rw [this]
  exact k

theorem wp_call {f : FuncId} {xs : Array Operand} {ts : Array TypeId} {vs : Array Value} (he : Enters P f) (hx : xs.map a.eval = vs)
    (k : Calls P f vs w fun
      | .returned v, w' => K (a.put d v) w'
      | .panicked chain, w' => Q (.panic chain) a w'
      | .outgrown, _ => LetsOut Q) : OW P ⟨d, .call ⟨.value (.func f), xs, ts⟩, t, p, af, g⟩ a w K Q := by
  constructor
  unfold Oper.wp
  have : (execOp a.eval ⟨d, .call ⟨.value (.func f), xs, ts⟩, t, p, af, g⟩).run P w = .ok (.enter f vs) w := by
    have := he vs w
    simp [execOp, resolve, Act.eval, Deferred.ofValue, invoke, hx, this]
  rw [this]
  exact k
/-- A call of a function that returns. -/
theorem wp_calls {f : FuncId} {xs : Array Operand} {ts : Array TypeId} {vs : Array Value} {R : Value → World → Prop} (he : Enters P f) (hx : xs.map a.eval = vs)
    (hc : Calls P f vs w fun e w' => ∃ v, e = .returned v ∧ R v w') (k : ∀ v w', R v w' → K (a.put d v) w') : OW P ⟨d, .call ⟨.value (.func f), xs, ts⟩, t, p, af, g⟩ a w K Q :=
  wp_call he hx (hc.mono (by rintro e w' ⟨v, rfl, h⟩; exact k v w' h))

theorem wp_not {s : TypeId} {x : Operand} {b : Bool} (hx : a.eval x = .bool b) (k : K (a.put d (.bool !b)) w) : OW P ⟨d, .unOp .not s x, t, p, af, g⟩ a w K Q :=
  wp_val (by simp [execOp, hx, Op.unary]) k

theorem wp_lss {s u : TypeId} {x y : Operand} {k1 : IntKind} {i j : Int} (hx : a.eval x = .int k1 i) (hy : a.eval y = .int k1 j) (k : K (a.put d (.bool (decide (i < j)))) w) :
    OW P ⟨d, .binOp .lss s x y u, t, p, af, g⟩ a w K Q := wp_val (by simp [execOp, hx, hy, eqGuard, binOp, Op.intCmp]) k
theorem wp_gtr {s u : TypeId} {x y : Operand} {k1 : IntKind} {i j : Int} (hx : a.eval x = .int k1 i) (hy : a.eval y = .int k1 j) (k : K (a.put d (.bool (decide (i > j)))) w) :
    OW P ⟨d, .binOp .gtr s x y u, t, p, af, g⟩ a w K Q := wp_val (by simp [execOp, hx, hy, eqGuard, binOp, Op.intCmp]) k
theorem wp_geq {s u : TypeId} {x y : Operand} {k1 : IntKind} {i j : Int} (hx : a.eval x = .int k1 i) (hy : a.eval y = .int k1 j) (k : K (a.put d (.bool (decide (i ≥ j)))) w) :
    OW P ⟨d, .binOp .geq s x y u, t, p, af, g⟩ a w K Q := wp_val (by simp [execOp, hx, hy, eqGuard, binOp, Op.intCmp]) k
theorem wp_leq {s u : TypeId} {x y : Operand} {k1 : IntKind} {i j : Int} (hx : a.eval x = .int k1 i) (hy : a.eval y = .int k1 j) (k : K (a.put d (.bool (decide (i ≤ j)))) w) :
    OW P ⟨d, .binOp .leq s x y u, t, p, af, g⟩ a w K Q := wp_val (by simp [execOp, hx, hy, eqGuard, binOp, Op.intCmp]) k
theorem wp_eql {s u : TypeId} {x y : Operand} {k1 : IntKind} {i j : Int} (hx : a.eval x = .int k1 i) (hy : a.eval y = .int k1 j) (k : K (a.put d (.bool (i == j))) w) :
    OW P ⟨d, .binOp .eql s x y u, t, p, af, g⟩ a w K Q := wp_val (by simp [execOp, hx, hy, eqGuard, binOp, Op.intCmp]) k
theorem wp_neq {s u : TypeId} {x y : Operand} {k1 : IntKind} {i j : Int} (hx : a.eval x = .int k1 i) (hy : a.eval y = .int k1 j) (k : K (a.put d (.bool (i != j))) w) :
    OW P ⟨d, .binOp .neq s x y u, t, p, af, g⟩ a w K Q := wp_val (by simp [execOp, hx, hy, eqGuard, binOp, Op.intCmp]) k
theorem wp_add {s u : TypeId} {x y : Operand} {k1 : IntKind} {i j : Int} (hx : a.eval x = .int k1 i) (hy : a.eval y = .int k1 j) (k : K (a.put d (.int k1 (k1.wrap (i + j)))) w) :
    OW P ⟨d, .binOp .add s x y u, t, p, af, g⟩ a w K Q := wp_val (by simp [execOp, hx, hy, eqGuard, binOp, Op.intArith]) k
theorem wp_sub {s u : TypeId} {x y : Operand} {k1 : IntKind} {i j : Int} (hx : a.eval x = .int k1 i) (hy : a.eval y = .int k1 j) (k : K (a.put d (.int k1 (k1.wrap (i - j)))) w) :
    OW P ⟨d, .binOp .sub s x y u, t, p, af, g⟩ a w K Q := wp_val (by simp [execOp, hx, hy, eqGuard, binOp, Op.intArith]) k

theorem under_int {s : TypeId} {k1 : IntKind} (h : intOf P s k1 = true) : P.underlying s = some (.int k1) := by
  unfold intOf at h
  cases hu : P.underlying s with
  | none => simp [hu] at h
  | some e => cases e <;> simp [hu] at h; subst h; rfl
theorem wp_convert {s u : TypeId} {x : Operand} {k0 k1 k2 : IntKind} {i : Int} (h1 : intOf P s k0 = true) (h2 : intOf P u k2 = true) (hx : a.eval x = .int k1 i)
    (k : K (a.put d (.int k2 (k2.wrap i))) w) : OW P ⟨d, .convert s u x, t, p, af, g⟩ a w K Q :=
  wp_val (by simp [execOp, hx, convert, run_underlying (under_int h1), run_underlying (under_int h2), Conv.intToInt]) k

theorem under_slice {s e n b : Nat} (h : sliceOf P s e n b = true) : P.underlying s = some (.slice e) ∧ ∃ i z, P.info? e = some i ∧ i.size = n ∧ i.bytes = b ∧ i.zero = some z ∧ 0 < n := by
  unfold sliceOf at h
  simp only [Bool.and_eq_true] at h
  obtain ⟨h1, h2⟩ := h
  constructor
  · cases hu : P.underlying s with
    | none => simp [hu] at h1
    | some e => cases e <;> simp [hu] at h1; subst h1; rfl
  · cases hi : P.info? e with
    | none => simp [hi] at h2
    | some i =>
      simp only [hi, Bool.and_eq_true, beq_iff_eq, Option.isSome_iff_exists, decide_eq_true_eq] at h2
      obtain ⟨⟨⟨h3, h4⟩, z, h5⟩, h6⟩ := h2
      exact ⟨i, z, rfl, h3, h4, h5, h6⟩

theorem wp_indexAddr {s e n bs : Nat} {x y : Operand} {b o len cap : Nat} {k1 : IntKind} {i : Int} (h : sliceOf P s e n bs = true) (hx : a.eval x = .slice (some ⟨b, o, none⟩) len cap) (hy : a.eval y = .int k1 i)
    (h0 : 0 ≤ i) (h1 : i < len) (k : K (a.put d (.pointer (some ⟨b, o + i.toNat * n, none⟩))) w) : OW P ⟨d, .indexAddr s x y, t, p, af, g⟩ a w K Q := by
  obtain ⟨hu, i0, z, hi, hs, hb, hz, hn⟩ := under_slice h
  refine wp_val (v := .pointer (some ⟨b, o + i.toNat * n, none⟩)) (w' := w) ?_ k
  simp [execOp, hx, hy, Instr.indexAt, asIntOf, run_underlying hu, h0, h1, sizeOf, typeInfo, hi, hs, add_addr]

/-- 'a[:0]' -/
theorem wp_slice0 {s e n bs : Nat} {x : Operand} {q : Option Addr} {len cap : Nat} (h : sliceOf P s e n bs = true) (hx : a.eval x = .slice q len cap)
    (k : K (a.put d (.slice q 0 cap)) w) : OW P ⟨d, .slice s x none (some (.const (.int .i64 0))) none, t, p, af, g⟩ a w K Q := by
  obtain ⟨hu, i0, z, hi, hs, hb, hz, hn⟩ := under_slice h
  refine wp_val (v := .slice q 0 cap) (w' := w) ?_ k
  cases q with
  | none => simp [execOp, hx, eval_const, Instr.sliceAt, Instr.slice, Instr.sliceBounds, Instr.sliceBound, asIntOf, run_underlying hu, sizeOf, typeInfo, hi]
  | some q => simp [execOp, hx, eval_const, Instr.sliceAt, Instr.slice, Instr.sliceBounds, Instr.sliceBound, asIntOf, run_underlying hu, sizeOf, typeInfo, hi, Addr.add]
/-- 'a[l:]' -/
theorem wp_sliceLo {s e n bs : Nat} {x y : Operand} {q : Option Addr} {len cap l : Nat} {k1 : IntKind} (h : sliceOf P s e n bs = true) (hx : a.eval x = .slice q len cap) (hy : a.eval y = .int k1 l)
    (hl : l ≤ len) (k : K (a.put d (.slice (if cap = l then q else q.map (·.add (l * n))) (len - l) (cap - l))) w) : OW P ⟨d, .slice s x (some y) none none, t, p, af, g⟩ a w K Q := by
  obtain ⟨hu, i0, z, hi, hs, hb, hz, hn⟩ := under_slice h
  refine wp_val (w' := w) ?_ k
  simp [execOp, hx, hy, Instr.sliceAt, Instr.slice, Instr.sliceBounds, Instr.sliceBound, asIntOf, run_underlying hu, sizeOf, typeInfo, hi, hs, hl]
/-- 'a[:h:h]' -/
theorem wp_sliceHi2 {s e n bs : Nat} {x y y' : Operand} {q : Option Addr} {len cap l : Nat} {k1 k2 : IntKind} (h : sliceOf P s e n bs = true) (hx : a.eval x = .slice q len cap) (hy : a.eval y = .int k1 l) (hy' : a.eval y' = .int k2 l)
    (hl : l ≤ cap) (k : K (a.put d (.slice q l l)) w) : OW P ⟨d, .slice s x none (some y) (some y'), t, p, af, g⟩ a w K Q := by
  obtain ⟨hu, i0, z, hi, hs, hb, hz, hn⟩ := under_slice h
  refine wp_val (v := .slice q l l) (w' := w) ?_ k
  cases q with
  | none => simp [execOp, hx, hy, hy', Instr.sliceAt, Instr.slice, Instr.sliceBounds, Instr.sliceBound, asIntOf, run_underlying hu, sizeOf, typeInfo, hi, hs, hl]
  | some q => simp [execOp, hx, hy, hy', Instr.sliceAt, Instr.slice, Instr.sliceBounds, Instr.sliceBound, asIntOf, run_underlying hu, sizeOf, typeInfo, hi, hs, hl, Addr.add]
/-- 'a[:h]' -/
theorem wp_sliceHi {s e n bs : Nat} {x y : Operand} {q : Option Addr} {len cap l : Nat} {k1 : IntKind} (h : sliceOf P s e n bs = true) (hx : a.eval x = .slice q len cap) (hy : a.eval y = .int k1 l)
    (hl : l ≤ cap) (k : K (a.put d (.slice q l cap)) w) : OW P ⟨d, .slice s x none (some y) none, t, p, af, g⟩ a w K Q := by
  obtain ⟨hu, i0, z, hi, hs, hb, hz, hn⟩ := under_slice h
  refine wp_val (v := .slice q l cap) (w' := w) ?_ k
  cases q with
  | none => simp [execOp, hx, hy, Instr.sliceAt, Instr.slice, Instr.sliceBounds, Instr.sliceBound, asIntOf, run_underlying hu, sizeOf, typeInfo, hi, hs, hl]
  | some q => simp [execOp, hx, hy, Instr.sliceAt, Instr.slice, Instr.sliceBounds, Instr.sliceBound, asIntOf, run_underlying hu, sizeOf, typeInfo, hi, hs, hl, Addr.add]

theorem wp_len {s e n bs : Nat} {x : Operand} {q : Option Addr} {len cap : Nat} (h : sliceOf P s e n bs = true) (hx : a.eval x = .slice q len cap)
    (k : K (a.put d (.int .i64 len)) w) : OW P ⟨d, .call ⟨.builtin .len, #[x], #[s]⟩, t, p, af, g⟩ a w K Q := by
  obtain ⟨hu, _⟩ := under_slice h
  refine wp_val (v := .int .i64 len) (w' := w) ?_ k
  simp [execOp, resolve, invoke, builtin, Builtin.len_, hx, run_underlying hu, goInt]

theorem zero_of {s : TypeId} {i : TypeInfo} {z : Value} (hi : P.info? s = some i) (hz : i.zero = some z) (w : World) : (zeroValue s).run P w = .ok z w := by
  simp [zeroValue, typeInfo, hi, hz]
def zeroOf (P : Program) (s : TypeId) (z : Value) : Prop := ∃ i, P.info? s = some i ∧ i.zero = some z
theorem wp_alloc {s : TypeId} {z : Value} (hz : zeroOf P s z) (k : K (a.put d (.pointer (some ⟨w.heap.size, 0, none⟩))) (w.alloc (.cells z.cells s))) :
    OW P ⟨d, .alloc s, t, p, af, g⟩ a w K Q := by
  obtain ⟨i, hi, hz⟩ := hz
  refine wp_val (v := .pointer (some ⟨w.heap.size, 0, none⟩)) (w' := w.alloc (.cells z.cells s)) ?_ k
  simp [execOp, Instr.alloc, zero_of hi hz, newVar, newRow]

end Go.Kq

/- A text made of octets, and octets made of a text. -/
namespace Go.Kq
open Go

def strOf (l : List UInt8) : ByteArray := ⟨l.toArray⟩
theorem strOf_list (l : List UInt8) : (strOf l).data.toList = l := by simp [strOf]
theorem strOf_size (l : List UInt8) : (strOf l).size = l.length := by simp [strOf, ByteArray.size]

theorem foldl_push : ∀ (l : List UInt8) (s : ByteArray), (l.map fun b => ((b.toNat : Nat) : Int)).foldl (fun r n => r.push (UInt8.ofNat n.toNat)) s = ⟨s.data ++ l.toArray⟩
  | [], s => by simp
  | b :: l, s => by
    simp only [List.map_cons, List.foldl_cons]
    rw [foldl_push l]
    simp only [ByteArray.push, Int.toNat_natCast, UInt8.ofNat_toNat]
    congr 1
    apply Array.ext'
    simp

theorem run_bytesToString_octs {P : Program} {w : World} {A : Nat → Prop} {v : Value} {x : Option (List UInt8)} (h : Octs w A v x) : (Conv.bytesToString v).run P w = .ok (.string (strOf (x.getD []))) w := by
  rcases h with ⟨rfl, rfl⟩ | ⟨b, o, cap, l, _, rfl, _, hr, rfl⟩
  · rfl
  · have hl : (loadCells ⟨b, o, none⟩ l.length).run P w = .ok ((l.map fun b => ((b.toNat : Nat) : Int)).map (Value.int .u8)).toArray w := by
      have := run_loadCells_list (P := P) w ⟨b, o, none⟩ (octets l) (fun j v hv => by rw [Addr.add_mid]; exact hr j v hv)
      rw [length_octets] at this
      rw [this]
      simp [octets, Function.comp_def]
    rw [run_bytesToString w _ _ cap _ hl, foldl_push]
    simp [strOf]
def byteSl (P : Program) (s : TypeId) : Bool := match P.underlying s with | some (.slice e) => intOf P e .u8 | _ => false
theorem under_bytes {P : Program} {s : TypeId} (h : byteSl P s = true) : ∃ e, P.underlying s = some (.slice e) ∧ P.underlying e = some (.int .u8) := by
  unfold byteSl at h
  cases hu : P.underlying s with
  | none => simp [hu] at h
  | some d => cases d <;> simp [hu] at h; exact ⟨_, rfl, under_int h⟩
theorem under_str {P : Program} {s : TypeId} (h : strTy P s = true) : P.underlying s = some .string := by
  unfold strTy at h
  cases hu : P.underlying s with
  | none => simp [hu] at h
  | some d => cases d <;> simp [hu] at h; rfl
/-- 'string(b)' -/
theorem run_toString {P : Program} {w : World} {A : Nat → Prop} {v : Value} {x : Option (List UInt8)} {s t : TypeId} (hs : byteSl P s = true) (ht : strTy P t = true) (h : Octs w A v x) :
    (convert s t v).run P w = .ok (.string (strOf (x.getD []))) w := by
  obtain ⟨e, h1, h2⟩ := under_bytes hs
  have h3 := under_str ht
  have hr := run_bytesToString_octs (P := P) h
  rcases h with ⟨rfl, rfl⟩ | ⟨b, o, cap, l, _, rfl, _, _, rfl⟩
  · simp [convert, run_underlying h1, run_underlying h2, run_underlying h3, hr]
  · simp [convert, run_underlying h1, run_underlying h2, run_underlying h3, hr]
variable {P : Program} {a : Act} {w : World} {K : Act → World → Prop} {Q : Exit → Act → World → Prop} {d : Option Tmp} {t : TypeId} {p : String} {af : Array Edge} {g : Option (Nat × Bool)}
theorem wp_toString {A : Nat → Prop} {x : Operand} {y : Option (List UInt8)} {s u : TypeId} {v : Value} (hs : byteSl P s = true) (ht : strTy P u = true) (hx : a.eval x = v) (h : Octs w A v y)
    (k : K (a.put d (.string (strOf (y.getD [])))) w) : OW P ⟨d, .convert s u x, t, p, af, g⟩ a w K Q :=
  wp_val (by simp only [execOp, hx, Sem.run_bind, run_toString hs ht h, Result.andThen_ok, Sem.run_pure]) k
end Go.Kq

/- How generated code reads: judgements on pieces of code, and a rule for each shape. -/
namespace Go.Kq
open Go Go.Proofs

/-! ### slots that are kept -/
structure Kept (m : Nat) (a a' : Act) : Prop where
  size : a'.tmps.size = a.tmps.size
  defers : a'.defers = a.defers
  get : ∀ t, t < m → get a' t = get a t
theorem Kept.refl (m : Nat) (a : Act) : Kept m a a := ⟨rfl, rfl, fun _ _ => rfl⟩
theorem Kept.trans {m : Nat} {a b c : Act} (h : Kept m a b) (k : Kept m b c) : Kept m a c := ⟨k.size.trans h.size, k.defers.trans h.defers, fun t ht => (k.get t ht).trans (h.get t ht)⟩
theorem Kept.mono {m m' : Nat} {a b : Act} (h : Kept m a b) (hm : m' ≤ m) : Kept m' a b := ⟨h.size, h.defers, fun t ht => h.get t (by omega)⟩
theorem Kept.put {m d : Nat} {a b : Act} (h : Kept m a b) (hd : m ≤ d) (v : Value) : Kept m a (b.put (some d) v) :=
  ⟨(size_put _ _ _).trans h.size, (defers_put _ _ _).trans h.defers, fun t ht => (get_put_ne (by omega)).trans (h.get t ht)⟩
theorem Kept.put0 {m d : Nat} {a : Act} (hd : m ≤ d) (v : Value) : Kept m a (a.put (some d) v) := (Kept.refl m a).put hd v

/-- The slots that a reading function goes by: how many there are; the reader's address, the struct's, the version, is it flexible?, unsafe?, the result. -/
structure Cx where
  N : Nat
  tb : Nat
  ts : Nat
  tv : Nat
  tf : Option Nat
  tu : Nat
  tr : Nat
/-- What stands in them: the reader's block, the source's; the version; flexible?; unsafe?; the error. -/
structure Env where
  rb : Nat
  sb : Nat
  ver : Int
  flex : Bool
  uns : Bool
  er : Value

structure Slots (cx : Cx) (e : Env) (pb po : Nat) (a : Act) : Prop where
  size : a.tmps.size = cx.N
  defers : a.defers = []
  b : get a cx.tb = .pointer (some ⟨e.rb, 0, none⟩)
  s : get a cx.ts = .pointer (some ⟨pb, po, none⟩)
  v : get a cx.tv = .int .i16 e.ver
  f : ∀ n, cx.tf = some n → get a n = .bool e.flex
  u : get a cx.tu = .bool e.uns
/-- All of them lie below m. -/
def Cx.below (cx : Cx) (m : Nat) : Bool := decide (cx.tb < m) && decide (cx.ts < m) && decide (cx.tv < m) && (match cx.tf with | some n => decide (n < m) | none => true) && decide (cx.tu < m) && decide (cx.tr < m) && decide (m ≤ cx.N)
theorem Cx.below_spec {cx : Cx} {m : Nat} (h : cx.below m = true) : cx.tb < m ∧ cx.ts < m ∧ cx.tv < m ∧ (∀ n, cx.tf = some n → n < m) ∧ cx.tu < m ∧ cx.tr < m ∧ m ≤ cx.N := by
  simp only [Cx.below, Bool.and_eq_true, decide_eq_true_eq] at h
  obtain ⟨⟨⟨⟨⟨⟨h1, h2⟩, h3⟩, h4⟩, h5⟩, h6⟩, h7⟩ := h
  refine ⟨h1, h2, h3, fun n hn => ?_, h5, h6, h7⟩
  rw [hn] at h4
  simpa using h4
theorem Slots.kept {cx : Cx} {e : Env} {pb po m : Nat} {a a' : Act} (h : Slots cx e pb po a) (hm : cx.below m = true) (k : Kept m a a') : Slots cx e pb po a' := by
  obtain ⟨h1, h2, h3, h4, h5, h6, h7⟩ := Cx.below_spec hm
  exact ⟨k.size.trans h.size, k.defers.trans h.defers, (k.get _ h1).trans h.b, (k.get _ h2).trans h.s, (k.get _ h3).trans h.v, fun n hn => (k.get _ (h4 n hn)).trans (h.f n hn), (k.get _ h5).trans h.u⟩

/-- Where what is read may lead to: the source, and new blocks. -/
def Foot (sb lo hi : Nat) (b : Nat) : Prop := b = sb ∨ (lo ≤ b ∧ b < hi)
def NoFoot (_ : Nat) : Prop := False

/-- What is given: a value or an early return; the version and whether it is flexible are known. -/
abbrev Rd := Int → Bool → RSt → Option (V × RSt)

/-- The memory that a piece of reading code starts from. -/
structure Mem (e : Env) (pb po : Nat) (ge : Nat) (w : World) (st : RSt) : Prop where
  rw : RW w e.rb e.sb st
  er : w.cell? ⟨ge, 0, none⟩ = some e.er
  gp : ge ≠ pb
  gr : ge ≠ e.rb
  pr : pb ≠ e.rb
  ps : pb ≠ e.sb
  sl : e.sb < w.heap.size

theorem Mem.kept {e : Env} {pb po ge : Nat} {w w' : World} {st st' : RSt} {l : List Rng} (h : Mem e pb po ge w st) (hf : Fr l w w') (hl : ∀ r ∈ l, r.b = e.rb ∨ r.b = pb) (hr : RW w' e.rb e.sb st') : Mem e pb po ge w' st' :=
  ⟨hr, hf.cell h.er (fun r hr => .inl (fun e1 => by
    rcases hl r hr with e2 | e2
    · exact h.gr (e1.symm.trans e2)
    · exact h.gp (e1.symm.trans e2))), h.gp, h.gr, h.pr, h.ps, Nat.lt_of_lt_of_le h.sl hf.size⟩

/-- A piece of code reads the cells of a type into the struct: what it gives is a function of the version and the reader's state. 'ge': the error's global. -/
def Fld (P : Program) (ge : Nat) (cx : Cx) (m : Nat) (c : Code) (o : Nat) (ty : Ty) (dv : V) (f : Rd) : Prop :=
  ∀ (e : Env) (pb po : Nat) (K : Act → World → Prop) (Q : Exit → Act → World → Prop) (a : Act) (w : World) (st : RSt),
    Slots cx e pb po a → Mem e pb po ge w st → w.there pb (po + o) ty.size → (∃ z, w.rangeAt pb (po + o) z ∧ Rep w NoFoot ty z dv) →
    (∀ a' w' x st', f e.ver e.flex st = some (x, st') → Kept m a a' → RW w' e.rb e.sb st' → Fr [⟨e.rb, 0, 2⟩, ⟨pb, po + o, po + o + ty.size⟩] w w' →
      (∃ z, w'.rangeAt pb (po + o) z ∧ Rep w' (Foot e.sb w.heap.size w'.heap.size) ty z x) → K a' w') →
    (f e.ver e.flex st = none → ∀ a' w', a'.tmps.size = cx.N → a'.defers = [] → get a' cx.tr = e.er → Fr [⟨e.rb, 0, 2⟩, ⟨pb, po + o, po + o + ty.size⟩] w w' → Q .ret a' w') →
    c.wp P (Exit.then K Q) a w

/-! ### one field behind the other -/
def rdSt0 : Rd := fun _ _ st => some (.l [], st)
def consV (x : V) : V → V
  | .l xs => .l (x :: xs)
  | v => v
def rdCons (f g : Rd) : Rd := fun v fl st =>
  match f v fl st with
  | none => none
  | some (x, s) => match g v fl s with
    | none => none
    | some (y, s) => some (consV x y, s)

theorem rep_size_pos {w : World} {A : Nat → Prop} {b o : Nat} {z : List Value} {ty : Ty} {x : V} (h : w.rangeAt b o z) (hr : Rep w A ty z x) (hn : 0 < ty.size) : b < w.heap.size :=
  range_lt h (by intro e; have := hr.length; rw [e] at this; simp at this; omega)

theorem Foot.mono {sb lo hi lo' hi' b : Nat} (h : Foot sb lo hi b) (h1 : lo' ≤ lo) (h2 : hi ≤ hi') : Foot sb lo' hi' b := by
  rcases h with h | ⟨h3, h4⟩
  · exact .inl h
  · exact .inr ⟨by omega, by omega⟩

theorem Fld.one {P : Program} {ge : Nat} {cx : Cx} {m : Nat} {c : Code} {o : Nat} {ty : Ty} {dv : V} {f : Rd} (h : Fld P ge cx m c o ty dv f) : Fld P ge cx m c o (.st [ty]) (.l [dv]) (rdCons f rdSt0) := by
  intro e pb po K Q a w st hs hm ht hz hk hq
  have hsz : (Ty.st [ty]).size = ty.size := by simp [Ty.size, Ty.sizes]
  simp only [hsz] at ht hk hq
  obtain ⟨z, hz1, xs, hxs, hz2⟩ := hz
  obtain ⟨c1, c2, x, r, rfl, rfl, h1, rfl, rfl⟩ := hz2
  simp at hxs hz1
  subst hxs
  refine h e pb po K Q a w st hs hm ht ⟨c1, hz1, h1⟩ ?_ ?_
  · rintro a' w' x st' hf hka hrw hfr ⟨z, hz3, hz4⟩
    refine hk a' w' (.l [x]) st' ?_ hka hrw hfr ⟨z, hz3, [x], rfl, z, [], x, [], by simp, rfl, hz4, rfl, rfl⟩
    simp [rdCons, hf, rdSt0, consV]
  · intro hf
    exact hq (by simp [rdCons, hf])

theorem Fld.cons {P : Program} {ge : Nat} {cx : Cx} {m m' : Nat} {c c' : Code} {o o' : Nat} {ty : Ty} {dv : V} {f g : Rd} {ts : List Ty} {ds : List V}
    (h : Fld P ge cx m c o ty dv f) (h' : Fld P ge cx m' c' o' (.st ts) (.l ds) g) (ho : o' = o + ty.size) (hb : cx.below m = true) (hm : m ≤ m') (hn : 0 < ty.size) :
    Fld P ge cx m (.seq c c') o (.st (ty :: ts)) (.l (dv :: ds)) (rdCons f g) := by
  intro e pb po K Q a w st hs hm0 ht hz hk hq
  subst ho
  have hsz : (Ty.st (ty :: ts)).size = ty.size + (Ty.st ts).size := by simp [Ty.size, Ty.sizes]
  simp only [hsz] at ht hk hq
  obtain ⟨z, hz1, xs, hxs, hz2⟩ := hz
  obtain ⟨c1, c2, x, r, rfl, rfl, h1, h2⟩ := hz2
  simp at hxs
  obtain ⟨rfl, rfl⟩ := hxs
  rw [range_append] at hz1
  have hl1 := h1.length
  refine wp_seq_k fun K1 hK1 => ?_
  have hpb : pb < w.heap.size := there_lt ht (by omega)
  refine h e pb po K1 (Exit.then K Q) a w st hs hm0 (there_part ht (by omega) (by omega)) ⟨c1, hz1.1, h1⟩ ?_ ?_
  · rintro a1 w1 x st1 hf hka hrw hfr ⟨z1, hz3, hz4⟩
    refine hK1 a1 w1 ?_
    have hm1 : Mem e pb po ge w1 st1 := hm0.kept hfr (by simp) hrw
    have hap : Apart [⟨e.rb, 0, 2⟩, ⟨pb, po + o, po + o + ty.size⟩] pb (po + o + ty.size) (po + o + ty.size + c2.length) :=
      .cons (.inl (fun h => hm0.pr h.symm)) (.cons (.inr (.inr (by simp))) .nil)
    refine h' e pb po K Q a1 w1 st1 (hs.kept hb hka) hm1 ?_ ⟨c2, ?_, ?_⟩ ?_ ?_
    · have := hfr.there (there_part ht (o' := po + o + ty.size) (n' := (Ty.st ts).size) (by omega) (by omega))
      rwa [show po + (o + ty.size) = po + o + ty.size from by omega]
    · have := hfr.range (cs := c2) (b := pb) (o := po + o + ty.size) (by have := hz1.2; rwa [hl1] at this) hap
      rwa [show po + (o + ty.size) = po + o + ty.size from by omega]
    · exact ⟨ds, rfl, Reps.kept hfr (fun _ _ h => h) (fun _ h => h) h2⟩
    · rintro a2 w2 y st2 hg hka2 hrw2 hfr2 ⟨z2, hz5, ys, rfl, hz6⟩
      have hfr' : Fr [⟨e.rb, 0, 2⟩, ⟨pb, po + o, po + o + (ty.size + (Ty.st ts).size)⟩] w w2 := by
        refine (hfr.mono (l' := [⟨e.rb, 0, 2⟩, ⟨pb, po + o, po + o + (ty.size + (Ty.st ts).size)⟩]) ?_).trans hfr2 ?_
        · intro r hr
          simp at hr
          rcases hr with rfl | rfl
          · exact .inr ⟨_, by simp, rfl, by simp, by simp⟩
          · exact .inr ⟨⟨pb, po + o, po + o + (ty.size + (Ty.st ts).size)⟩, by simp, rfl, by simp, by simp <;> omega⟩
        · intro r hr
          simp at hr
          rcases hr with rfl | rfl
          · exact .inr ⟨_, by simp, rfl, by simp, by simp⟩
          · exact .inr ⟨⟨pb, po + o, po + o + (ty.size + (Ty.st ts).size)⟩, by simp, rfl, by simp <;> omega, by simp <;> omega⟩
      refine hk a2 w2 (.l (x :: ys)) st2 ?_ (hka.trans (hka2.mono hm)) hrw2 hfr' ⟨z1 ++ z2, ?_, x :: ys, rfl, z1, z2, x, ys, rfl, rfl, ?_, ?_⟩
      · simp [rdCons, hf, hg, consV]
      · rw [range_append]
        have hl3 := hz4.length
        refine ⟨hfr2.range hz3 (.cons (.inl (fun h => hm0.pr h.symm)) (.cons (.inr (.inl (by simp <;> omega))) .nil)), ?_⟩
        rw [hl3]
        rwa [show po + (o + ty.size) = po + o + ty.size from by omega] at hz5
      · refine Rep.kept hfr2 ?_ (fun b hb => hb.mono (Nat.le_refl _) hfr2.size) hz4
        intro r hr hF
        simp at hr
        have h3 := lt_of_cell (range_cons.1 hm0.rw.2.2.choose_spec.1).1
        rcases hr with rfl | rfl
        · rcases hF with hF | ⟨hF, _⟩
          · exact hm0.rw.1 hF
          · simp at hF; omega
        · rcases hF with hF | ⟨hF, _⟩
          · exact hm0.ps hF
          · simp at hF; omega
      · exact Reps.kept (Fr.refl [] w2) (by simp) (fun b hb => hb.mono hfr.size (Nat.le_refl _)) hz6
    · intro hg a2 w2 hN hd hr hfr2
      refine hq (by simp [rdCons, hf, hg]) a2 w2 hN hd hr ?_
      refine (hfr.mono (l' := [⟨e.rb, 0, 2⟩, ⟨pb, po + o, po + o + (ty.size + (Ty.st ts).size)⟩]) ?_).trans hfr2 ?_
      · intro r hr
        simp at hr
        rcases hr with rfl | rfl
        · exact .inr ⟨_, by simp, rfl, by simp, by simp⟩
        · exact .inr ⟨⟨pb, po + o, po + o + (ty.size + (Ty.st ts).size)⟩, by simp, rfl, by simp, by simp <;> omega⟩
      · intro r hr
        simp at hr
        rcases hr with rfl | rfl
        · exact .inr ⟨_, by simp, rfl, by simp, by simp⟩
        · exact .inr ⟨⟨pb, po + o, po + o + (ty.size + (Ty.st ts).size)⟩, by simp, rfl, by simp <;> omega, by simp <;> omega⟩
  · intro hf a1 w1 hN hd hr hfr
    refine hq (by simp [rdCons, hf]) a1 w1 hN hd hr (hfr.mono ?_)
    intro r hr
    simp at hr
    rcases hr with rfl | rfl
    · exact .inr ⟨_, by simp, rfl, by simp, by simp⟩
    · exact .inr ⟨⟨pb, po + o, po + o + (ty.size + (Ty.st ts).size)⟩, by simp, rfl, by simp, by simp <;> omega⟩

end Go.Kq
