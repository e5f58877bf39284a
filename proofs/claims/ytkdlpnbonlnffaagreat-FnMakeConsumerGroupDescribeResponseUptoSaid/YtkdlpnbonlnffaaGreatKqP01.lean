/- A part of the library: rules of reasoning about the program's operations and what its shared functions do. -/
import Derived.Below
import Derived.Calls
import Derived.Deep.MidRow
import Derived.Laws.AppendOwn
import Derived.Shelf.Abstract
import Derived.Lib.EndianMore
import Derived.Laws.BytesString
import Derived.Laws.Cells
import Derived.Orders
import Derived.Lib.Hide
import Derived.ArgAppend
import Derived.Lib.ConvBytes
import Derived.Great.BuildSlice
import Derived.Lib.SliceRun
import Derived.Laws.Small
set_option linter.unusedVariables false
set_option linter.unusedSimpArgs false
namespace Go.Kq
open Go
def get (a : Act) (t : Nat) : Value := a.tmps.getD t undef
theorem eTm (a : Act) (t : Nat) : a.eval (.tmp t) = get a t := rfl
theorem eCo (a : Act) (v : Value) : a.eval (.const v) = v := rfl
theorem sPu (a : Act) (d : Option Tmp) (v : Value) : (a.put d v).tmps.size = a.tmps.size := by
  cases d <;> simp [Act.put]
theorem dPu (a : Act) (d : Option Tmp) (v : Value) : (a.put d v).defers = a.defers := by
  cases d <;> simp [Act.put]
theorem gPs {a : Act} {d : Nat} {v : Value} (h : d < a.tmps.size) : get (a.put (some d) v) d = v := by
  simp [get, Act.put, Array.getD_eq_getD_getElem?, h]
theorem gPn {a : Act} {d t : Nat} {v : Value} (h : d ≠ t) : get (a.put (some d) v) t = get a t := by
  simp [get, Act.put, Array.getD_eq_getD_getElem?, h]
theorem pNo (a : Act) (v : Value) : a.put none v = a := rfl
structure OW (P : Program) (o : Oper) (a : Act) (w : World) (K : Act → World → Prop) (Q : Exit → Act → World → Prop) : Prop where
  sem : o.wp P a w K Q
def wpl (P : Program) (Q : Exit → Act → World → Prop) : List Oper → Act → World → Prop
  | [], a, w => Q .normal a w
  | o :: os, a, w => OW P o a w (wpl P Q os) Q
theorem wNi {P : Program} {Q : Exit → Act → World → Prop} {a : Act} {w : World} : wpl P Q [] a w = Q .normal a w := rfl
theorem wCo {P : Program} {Q : Exit → Act → World → Prop} {o : Oper} {os : List Oper} {a : Act} {w : World} :
    wpl P Q (o :: os) a w = OW P o a w (wpl P Q os) Q := rfl
theorem Oper.upon_mono {P : Program} {o : Oper} {a : Act} {Q : Exit → Act → World → Prop} {n1 n2 : Act → World → Prop} (h : ∀ a w, n1 a w → n2 a w) :
    ∀ r, o.upon P a n1 Q r → o.upon P a n2 Q r := by
  intro r hr;unfold Oper.upon at hr ⊢
  split at hr
  · exact h _ _ hr
  · exact h _ _ hr
  · exact h _ _ hr
  · refine Calls.mono hr ?_;intro e w' he
    cases e with
    | returned v => exact h _ _ he
    | panicked c => exact he
    | outgrown => exact he
  · exact Rows.mono hr fun v w' hv => h _ _ hv
  · exact hr
  exact hr.elim
theorem wpOps_of_wpl {P : Program} {Q : Exit → Act → World → Prop} {ops : Array Oper} (hg : ∀ (i : Nat) (o : Oper), ops[i]? = some o → o.guard = none) :
    ∀ (n i : Nat) (a : Act) (w : World), i + n = ops.size → wpl P Q (ops.toList.drop i) a w → wpOps P ops Q (List.range' i n) a w := by
  intro n
  induction n with
  | zero =>
    intro i a w hi h;have : ops.toList.drop i = [] := by apply List.drop_of_length_le; simp; omega
    rw [this] at h
    simpa [wpOps, wpl] using h
  | succ n ih =>
    intro i a w hi h;have hlt : i < ops.size := by omega
    have hd : ops.toList.drop i = ops[i] :: ops.toList.drop (i + 1) := by
      rw [List.drop_eq_getElem_cons (by simpa using hlt)]; simp
    have hs : ops[i]? = some ops[i] := Array.getElem?_eq_getElem hlt;rw [hd] at h;simp only [List.range'_succ, wpOps, hs];have hw : Region.wanted ops[i] (yielded ops a.tmps) = true := by
      simp [Region.wanted, hg i _ hs]
    simp only [hw, if_true]
    left
    exact Oper.upon_mono (fun a w h => ih (i + 1) a w (by omega) h) _ h.sem
def unguarded : List Oper → Bool
  | [] => true
  | o :: os => o.guard.isNone && unguarded os
theorem unguarded_at {l : List Oper} (h : unguarded l = true) : ∀ (i : Nat) (o : Oper), l[i]? = some o → o.guard = none := by
  induction l with
  | nil => intro i o hi; simp at hi
  | cons x l ih =>
    intro i o hi;simp only [unguarded, Bool.and_eq_true, Option.isNone_iff_eq_none] at h
    cases i with
    | zero => simp at hi; subst hi; exact h.1
    | succ i => simp at hi; exact ih h.2 i o hi
theorem wp_reg {P : Program} {Q : Exit → Act → World → Prop} {id : Nat} {l : List Oper} {a : Act} {w : World}
    (h : wpl P Q l a w) (hg : unguarded l = true := by rfl) : (Code.region id ⟨l⟩ false).wp P Q a w := by
  refine wp_region ?_;have := wpOps_of_wpl (P := P) (Q := Q) (ops := ⟨l⟩) (fun i o hi => unguarded_at hg i o (by simpa using hi)) l.length 0 a w (by simp) (by simpa using h)
  simpa [List.range_eq_range'] using this
/-- Short names for what is used often. -/
theorem zZ {a : Act} {d : Option Tmp} {v : Value} {n : Nat} (h : a.tmps.size = n) : (a.put d v).tmps.size = n := (sPu _ _ _).trans h
theorem dZ {a : Act} {d : Option Tmp} {v : Value} {l : List Deferred} (h : a.defers = l) : (a.put d v).defers = l := (dPu _ _ _).trans h
theorem nZ {a : Act} {d t : Nat} {v : Value} (h : d ≠ t) : get (a.put (some d) v) t = get a t := gPn h
theorem kP {a a' b : Act} {s : Nat} {v : Value} (ha : b = a') (h : get a s = v) (hp : get a' s = get a s := by (repeat first | rw [nZ (by decide)] | rw [pNo]); try rfl) : get b s = v := by rw [ha]; exact hp.trans h
theorem kS {a a' b : Act} {n : Nat} (ha : b = a') (h : a.tmps.size = n) (hp : a'.tmps.size = a.tmps.size := by (repeat first | rw [sPu] | rw [pNo]); try rfl) : b.tmps.size = n := by rw [ha]; exact hp.trans h
theorem kD {a a' b : Act} {l : List Deferred} (ha : b = a') (h : a.defers = l) (hp : a'.defers = a.defers := by (repeat first | rw [dPu] | rw [pNo]); try rfl) : b.defers = l := by rw [ha]; exact hp.trans h
theorem gQ {a : Act} {d : Nat} {v : Value} (h : d < a.tmps.size := by first | omega | (simp only [sPu]; omega)) : get (a.put (some d) v) d = v := gPs h
theorem gR {a : Act} {d t : Nat} {v : Value} (h : d ≠ t := by omega) : get (a.put (some d) v) t = get a t := gPn h
theorem sX {a0 a1 : Act} {N d : Nat} {v : Value} (h : a0.tmps.size = N) (hs : a1.tmps.size = a0.tmps.size := by (repeat first | rw [sPu] | rw [pNo]); try rfl) (hd : d < N := by decide) : get (a1.put (some d) v) d = v := gPs (by rw [hs, h]; exact hd)
theorem lZ {a0 a : Act} {N d : Nat} (h : a0.tmps.size = N) (hs : a.tmps.size = a0.tmps.size := by (repeat first | rw [sPu] | rw [pNo]); try rfl) (hd : d < N := by decide) : d < a.tmps.size := by rw [hs, h]; exact hd
theorem eS {a0 a : Act} {N d : Nat} {v : Value} (h : a0.tmps.size = N) (hp : a0.tmps.size = N → get a d = v := by intro h; (repeat rw [nZ (by decide)]); exact sX h) : a.eval (.tmp d) = v := hp h
theorem eK {a0 a : Act} {d : Nat} {v : Value} (h : get a0 d = v) (hp : get a d = get a0 d := by (repeat first | rw [nZ (by decide)] | rw [pNo]); try rfl) : a.eval (.tmp d) = v := hp.trans h
theorem kG {a0 a b : Act} {N d : Nat} {v : Value} (ha : b = a) (h : a0.tmps.size = N) (hp : a0.tmps.size = N → get a d = v := by intro h; (repeat first | rw [nZ (by decide)] | rw [pNo]); exact sX h) : get b d = v := by rw [ha]; exact hp h
theorem gS {a0 a : Act} {N d : Nat} {v : Value} (h : a0.tmps.size = N) (hp : a0.tmps.size = N → get a d = v := by intro h; (repeat rw [nZ (by decide)]); exact sX h) : get a d = v := hp h
theorem gK {a0 a : Act} {d : Nat} {v : Value} (h : get a0 d = v) (hp : get a d = get a0 d := by (repeat first | rw [nZ (by decide)] | rw [pNo]); try rfl) : get a d = v := hp.trans h
theorem lX1 {a : Act} {x : Operand} {v : Value} (h : a.eval x = v) : [x].map a.eval = [v] := by simp [h]
theorem lX2 {a : Act} {x y : Operand} {v u : Value} (h : a.eval x = v) (h2 : a.eval y = u) : [x, y].map a.eval = [v, u] := by simp [h, h2]
theorem lX3 {a : Act} {x y z : Operand} {v u t : Value} (h : a.eval x = v) (h2 : a.eval y = u) (h3 : a.eval z = t) : [x, y, z].map a.eval = [v, u, t] := by simp [h, h2, h3]
theorem lX4 {a : Act} {x y z o : Operand} {v u t s : Value} (h : a.eval x = v) (h2 : a.eval y = u) (h3 : a.eval z = t) (h4 : a.eval o = s) : [x, y, z, o].map a.eval = [v, u, t, s] := by simp [h, h2, h3, h4]
theorem mX1 {a : Act} {x : Operand} {v : Value} (h : a.eval x = v) : #[x].map a.eval = #[v] := by simp [h]
theorem mX2 {a : Act} {x y : Operand} {v u : Value} (h : a.eval x = v) (h2 : a.eval y = u) : #[x, y].map a.eval = #[v, u] := by simp [h, h2]
theorem mX3 {a : Act} {x y z : Operand} {v u t : Value} (h : a.eval x = v) (h2 : a.eval y = u) (h3 : a.eval z = t) : #[x, y, z].map a.eval = #[v, u, t] := by simp [h, h2, h3]
theorem mX4 {a : Act} {x y z o : Operand} {v u t s : Value} (h : a.eval x = v) (h2 : a.eval y = u) (h3 : a.eval z = t) (h4 : a.eval o = s) : #[x, y, z, o].map a.eval = #[v, u, t, s] := by simp [h, h2, h3, h4]
theorem wC {P : Program} {Q : Exit → Act → World → Prop} {o : Oper} {os : List Oper} {a : Act} {w : World} (h : OW P o a w (wpl P Q os) Q) : wpl P Q (o :: os) a w := h
theorem sZ {a : Act} {N d : Nat} {v : Value} (h : a.tmps.size = N) (hd : d < N) : get (a.put (some d) v) d = v := gPs (h ▸ hd)

/-- Short words for operations. -/
abbrev oM (d s : Tmp) (t : TypeId) (p : String) (e : Array Edge) : Oper := ⟨some d, .move (.tmp s), t, p, e, none⟩
abbrev oA (d : Tmp) (x : Operand) (t : TypeId) (p : String) (e : Array Edge) : Oper := ⟨some d, .assign x, t, p, e, none⟩
abbrev oT (d s : Tmp) (t : TypeId) (p : String) (e : Array Edge) : Oper := ⟨some d, .assign (.tmp s), t, p, e, none⟩
abbrev oL (d : Tmp) (T : TypeId) (s : Tmp) (t : TypeId) (p : String) (e : Array Edge) : Oper := ⟨some d, .load T (.tmp s), t, p, e, none⟩
abbrev oF (d : Tmp) (T : TypeId) (s : Tmp) (k : Nat) (t : TypeId) (p : String) (e : Array Edge) : Oper := ⟨some d, .fieldAddr T (.tmp s) k, t, p, e, none⟩
abbrev oS (T : TypeId) (x y : Tmp) (t : TypeId) (p : String) (e : Array Edge) : Oper := ⟨none, .store T (.tmp x) (.tmp y), t, p, e, none⟩
abbrev oC (d : Tmp) (f : FuncId) (l : Array Operand) (a : Array TypeId) (t : TypeId) (p : String) (e : Array Edge) : Oper := ⟨some d, .call ⟨.value (.func f), l, a⟩, t, p, e, none⟩
end Go.Kq

namespace Go.Kq
open Go
structure Rng where
  b : Nat
  lo : Nat
  hi : Nat
theorem lt_of_block {w : World} {b : Nat} {o : Obj} (h : w.heap[b]? = some o) : b < w.heap.size := by
  by_cases hb : b < w.heap.size
  · exact hb
  rw [Array.getElem?_eq_none (by omega)] at h; simp at h
theorem block_of_cell {w : World} {b o : Nat} {v : Value} (h : w.cell? ⟨b, o, none⟩ = some v) : ∃ cs T fz, w.heap[b]? = some (.cells cs T fz) ∧ cs[o]? = some v := by
  unfold World.cell? at h
  split at h
  · rename_i c T fz hb
    simp at h
    exact ⟨c, T, fz, hb, h⟩
  simp at h
theorem cell_of_block {w : World} {b o : Nat} {cs : Array Value} {T : TypeId} {fz : Nat × Nat} (h : w.heap[b]? = some (.cells cs T fz)) : w.cell? ⟨b, o, none⟩ = cs[o]? := by
  simp [World.cell?, h]
theorem lt_of_cell {w : World} {b o : Nat} {v : Value} (h : w.cell? ⟨b, o, none⟩ = some v) : b < w.heap.size := by
  obtain ⟨_, _, _, h, _⟩ := block_of_cell h;exact lt_of_block h
structure Fr (l : List Rng) (w w' : World) : Prop where
  os : w'.os = w.os
  tape : w'.tape = w.tape
  output : w'.output = w.output
  size : w.heap.size ≤ w'.heap.size
  block : ∀ k, k < w.heap.size → (∀ r ∈ l, r.b ≠ k) → w'.heap[k]? = w.heap[k]?
  cells : ∀ (k : Nat) cs T fz, w.heap[k]? = some (.cells cs T fz) → ∃ cs', w'.heap[k]? = some (.cells cs' T fz) ∧ cs'.size = cs.size ∧
    ∀ j, (∀ r ∈ l, r.b = k → j < r.lo ∨ r.hi ≤ j) → cs'[j]? = cs[j]?
theorem Fr.refl (l : List Rng) (w : World) : Fr l w w := ⟨rfl, rfl, rfl, Nat.le_refl _, fun _ _ _ => rfl, fun _ cs _ _ h => ⟨cs, h, rfl, fun _ _ => rfl⟩⟩
def Rng.In (r : Rng) (l : List Rng) (w : World) : Prop := w.heap.size ≤ r.b ∨ ∃ x ∈ l, x.b = r.b ∧ x.lo ≤ r.lo ∧ r.hi ≤ x.hi
theorem Fr.trans {l l' : List Rng} {a b c : World} (h : Fr l a b) (k : Fr l' b c) (hl : ∀ r ∈ l', r.In l a) : Fr l a c where
  os := k.os.trans h.os
  tape := k.tape.trans h.tape
  output := k.output.trans h.output
  size := Nat.le_trans h.size k.size
  block i hi hn := by
    refine (k.block i (Nat.lt_of_lt_of_le hi h.size) (fun r hr e => ?_)).trans (h.block i hi hn)
    rcases hl r hr with h1 | ⟨x, hx, e1, _⟩
    · omega
    exact hn x hx (e1.trans e)
  cells i cs T fz hc := by
    obtain ⟨c1, h1, s1, e1⟩ := h.cells i cs T fz hc;obtain ⟨c2, h2, s2, e2⟩ := k.cells i c1 T fz h1;refine ⟨c2, h2, s2.trans s1, fun j hj => ?_⟩;refine (e2 j (fun r hr e => ?_)).trans (e1 j hj)
    rcases hl r hr with h3 | ⟨x, hx, e3, h4, h5⟩
    · have := lt_of_block hc; omega
    have := hj x hx (e3.trans e); omega
theorem Rng.in_self {l : List Rng} {w : World} {r : Rng} (h : r ∈ l) : r.In l w := .inr ⟨r, h, rfl, Nat.le_refl _, Nat.le_refl _⟩
theorem Fr.tr {l : List Rng} {a b c : World} (h : Fr l a b) (k : Fr l b c) : Fr l a c := h.trans k fun _ hx => Rng.in_self hx
theorem Fr.mono {l l' : List Rng} {w w' : World} (h : Fr l w w') (hl : ∀ r ∈ l, r.In l' w) : Fr l' w w' := (Fr.refl l' w).trans h hl
theorem Fr.nil {l : List Rng} {w w' : World} (h : Fr [] w w') : Fr l w w' := h.mono (by simp)
theorem Fr.alloc (l : List Rng) (w : World) (o : Obj) : Fr l w (w.alloc o) :=
  ⟨rfl, rfl, rfl, by show w.heap.size ≤ (w.heap.push o).size; simp, fun k hk _ => RowKit.Below.heap_alloc _ _ _ (by omega),
    fun k cs _ _ h => ⟨cs, by rw [RowKit.Below.heap_alloc _ _ _ (lt_of_block h)]; exact h, rfl, fun _ _ => rfl⟩⟩
theorem Fr.drew (l : List Rng) (w : World) : Fr l w w.drew := ⟨rfl, rfl, rfl, Nat.le_refl _, fun _ _ _ => rfl, fun _ cs _ _ h => ⟨cs, h, rfl, fun _ _ => rfl⟩⟩
theorem Fr.set (w : World) (b o : Nat) (v : Value) : Fr [⟨b, o, o + 1⟩] w (w.setCell ⟨b, o, none⟩ v) where
  os := rfl
  tape := rfl
  output := rfl
  size := by simp [World.setCell]
  block k _ hn := RowKit.Below.heap_setCell _ _ _ _ (by have := hn ⟨b, o, o + 1⟩ (by simp); exact fun e => this e.symm)
  cells k cs T fz h := by
    by_cases e : k = b
    · subst e;refine ⟨cs.setIfInBounds o v, ?_, by simp, fun j hj => ?_⟩
      · simp [World.setCell, Array.getElem?_modify, h]
      have := hj ⟨k, o, o + 1⟩ (by simp) rfl;simp only at this;rw [Array.getElem?_setIfInBounds, if_neg (by omega)]
    exact ⟨cs, by rw [RowKit.Below.heap_setCell _ _ _ _ e]; exact h, rfl, fun _ _ => rfl⟩
theorem Fr.sets (b : Nat) : ∀ (vs : List Value) (w : World) (o : Nat), Fr [⟨b, o, o + vs.length⟩] w (w.setCells b o vs)
  | [], w, o => Fr.refl _ w
  | v :: r, w, o => by
    have h1 := Fr.set w b o v;have h2 := Fr.sets b r (w.setCell ⟨b, o, none⟩ v) (o + 1);refine (h1.mono (l' := [⟨b, o, o + (v :: r).length⟩]) ?_).trans h2 ?_
    · intro x hx; simp at hx; subst hx; exact .inr ⟨_, List.mem_singleton.2 rfl, rfl, Nat.le_refl _, by simp⟩
    intro x hx; simp at hx; subst hx; exact .inr ⟨_, List.mem_singleton.2 rfl, rfl, by simp, by simp; omega⟩
theorem Fr.below {w w' : World} (h : Fr [] w w') : RowKit.Below w.heap.size w w' :=
  ⟨h.os, h.tape, h.output, h.size, fun k hk => h.block k hk (by simp)⟩
def Apart (l : List Rng) (b lo hi : Nat) : Prop := ∀ r ∈ l, r.b ≠ b ∨ hi ≤ r.lo ∨ r.hi ≤ lo
theorem Apart.nil {b lo hi : Nat} : Apart [] b lo hi := fun _ h => by cases h
theorem Apart.cons {r : Rng} {l : List Rng} {b lo hi : Nat} (h : r.b ≠ b ∨ hi ≤ r.lo ∨ r.hi ≤ lo) (t : Apart l b lo hi) : Apart (r :: l) b lo hi := fun x hx => by
  rcases List.mem_cons.1 hx with e | e
  · subst e; exact h
  exact t x e
theorem Fr.cell {l : List Rng} {w w' : World} {b o : Nat} {v : Value} (h : Fr l w w') (hc : w.cell? ⟨b, o, none⟩ = some v) (ha : Apart l b o (o + 1)) : w'.cell? ⟨b, o, none⟩ = some v := by
  obtain ⟨cs, T, fz, hb, hv⟩ := block_of_cell hc;obtain ⟨cs', hb', _, he⟩ := h.cells b cs T fz hb;rw [cell_of_block hb', he o (fun r hr e => ?_), hv];have := ha r hr; omega
theorem Fr.range {l : List Rng} {w w' : World} {b o : Nat} {cs : List Value} (h : Fr l w w') (hc : w.rangeAt b o cs) (ha : Apart l b o (o + cs.length)) : w'.rangeAt b o cs := by
  intro j v hv;have hj : j < cs.length := (List.getElem?_eq_some_iff.1 hv).1;refine h.cell (hc j v hv) (fun r hr => ?_);have := ha r hr; omega
theorem there_iff {w : World} {b o n : Nat} : w.there b o n ↔ ∀ j, j < n → ∃ cs T fz, w.heap[b]? = some (.cells cs T fz) ∧ o + j < cs.size ∧ ¬ (fz.1 ≤ o + j ∧ o + j < fz.2) := by
  constructor
  · intro h j hj;obtain ⟨h1, h2⟩ := h j hj;obtain ⟨v, hv⟩ := Option.isSome_iff_exists.1 h1;obtain ⟨cs, T, fz, hb, hc⟩ := block_of_cell hv;refine ⟨cs, T, fz, hb, (Array.getElem?_eq_some_iff.1 hc).1, ?_⟩;simp [World.frozen?, hb] at h2
    omega
  intro h j hj;obtain ⟨cs, T, fz, hb, hc, hf⟩ := h j hj;refine ⟨by rw [cell_of_block hb]; simp [hc], ?_⟩;simp [World.frozen?, hb]
  omega
theorem Fr.there {l : List Rng} {w w' : World} {b o n : Nat} (h : Fr l w w') (hc : w.there b o n) : w'.there b o n := by
  rw [there_iff] at hc ⊢;intro j hj;obtain ⟨cs, T, fz, hb, hlt, hf⟩ := hc j hj;obtain ⟨cs', hb', hs, _⟩ := h.cells b cs T fz hb;exact ⟨cs', T, fz, hb', by omega, hf⟩
theorem there_part {w : World} {b o n o' n' : Nat} (h : w.there b o n) (h1 : o ≤ o') (h2 : o' + n' ≤ o + n) : w.there b o' n' := fun j hj => by
  have := h (o' - o + j) (by omega);rw [show o + (o' - o + j) = o' + j from by omega] at this;exact this
theorem there_lt {w : World} {b o n : Nat} (h : w.there b o n) (hn : 0 < n) : b < w.heap.size := by
  obtain ⟨cs, T, fz, hb, _⟩ := there_iff.1 h 0 hn;exact lt_of_block hb
theorem range_append {w : World} {b o : Nat} {xs ys : List Value} : w.rangeAt b o (xs ++ ys) ↔ w.rangeAt b o xs ∧ w.rangeAt b (o + xs.length) ys := by
  constructor
  · intro h;refine ⟨fun j v hv => h j v ?_, fun j v hv => ?_⟩
    · rw [List.getElem?_append_left (List.getElem?_eq_some_iff.1 hv).1]; exact hv
    have := h (xs.length + j) v (by rw [List.getElem?_append_right (by omega)]; simpa using hv);rw [show o + xs.length + j = o + (xs.length + j) from by omega]; exact this
  rintro ⟨h1, h2⟩ j v hv
  by_cases hj : j < xs.length
  · rw [List.getElem?_append_left hj] at hv; exact h1 j v hv
  rw [List.getElem?_append_right (by omega)] at hv;have := h2 _ v hv;rw [show o + xs.length + (j - xs.length) = o + j from by omega] at this; exact this
theorem range_one {w : World} {b o : Nat} {v : Value} : w.rangeAt b o [v] ↔ w.cell? ⟨b, o, none⟩ = some v := by
  constructor
  · intro h; exact h 0 v rfl
  intro h j u hu
  cases j with
  | zero => simp at hu; subst hu; exact h
  | succ j => simp at hu
theorem range_cons {w : World} {b o : Nat} {v : Value} {cs : List Value} : w.rangeAt b o (v :: cs) ↔ w.cell? ⟨b, o, none⟩ = some v ∧ w.rangeAt b (o + 1) cs := by
  rw [show v :: cs = [v] ++ cs from rfl, range_append, range_one]; rfl
theorem range_nil {w : World} {b o : Nat} : w.rangeAt b o [] := fun _ _ h => by simp at h
theorem range_part {w : World} {b o : Nat} {cs : List Value} (h : w.rangeAt b o cs) (i n : Nat) : w.rangeAt b (o + i) ((cs.drop i).take n) := by
  intro j v hv;rw [List.getElem?_take] at hv
  split at hv
  · rw [List.getElem?_drop] at hv;have := h (i + j) v hv
    rwa [show o + (i + j) = o + i + j from by omega] at this
  simp at hv
theorem range_set {w : World} {b o : Nat} {v : Value} (h : w.there b o 1) : (w.setCell ⟨b, o, none⟩ v).cell? ⟨b, o, none⟩ = some v := by
  have := (World.rangeAt_setCells_same w b o [v] h) 0 v rfl
  simpa [World.setCells] using this
theorem range_new (w : World) (cs : Array Value) (T : TypeId) (fz : Nat × Nat) : (w.alloc (.cells cs T fz)).rangeAt w.heap.size 0 cs.toList := by
  intro j v hv;have hb : (w.alloc (.cells cs T fz)).heap[w.heap.size]? = some (.cells cs T fz) := by show (w.heap.push _)[w.heap.size]? = _; simp
  rw [cell_of_block hb]; simpa using hv
theorem there_new (w : World) (cs : Array Value) (T : TypeId) : (w.alloc (.cells cs T (0, 0))).there w.heap.size 0 cs.size := by
  rw [there_iff];intro j hj;refine ⟨cs, T, (0, 0), by show (w.heap.push _)[w.heap.size]? = _; simp, by omega, by simp⟩
theorem size_alloc (w : World) (o : Obj) : (w.alloc o).heap.size = w.heap.size + 1 := by show (w.heap.push o).size = _; simp
end Go.Kq

namespace Go.Kq
open Go Go.Proofs
def scal (P : Program) (t : TypeId) : Bool :=
  (match P.underlying t with | some (.struct _) => false | some (.array _ _) => false | some _ => true | none => false) && ((P.info? t).map (·.size)) == some 1
def aggr (P : Program) (t : TypeId) (n : Nat) : Bool :=
  (match P.underlying t with | some (.struct _) => true | some (.array _ _) => true | _ => false) && ((P.info? t).map (·.size)) == some n
def fieldOf (P : Program) (t : TypeId) (k o : Nat) : Bool :=
  match P.underlying t with
  | some (.struct fs) => match fs[k]? with
    | some f => f.offset == o && (match P.info? f.type with | some i => i.size != 0 | none => false)
    | none => false
  | _ => false
def sliceOf (P : Program) (t e n b : Nat) : Bool :=
  (match P.underlying t with | some (.slice e') => e' == e | _ => false) && (match P.info? e with | some i => i.size == n && i.bytes == b && i.zero.isSome && 0 < n | none => false)
def intOf (P : Program) (t : TypeId) (k : IntKind) : Bool := match P.underlying t with | some (.int k') => k' == k | _ => false
def strTy (P : Program) (t : TypeId) : Bool := match P.underlying t with | some .string => true | _ => false
theorem scal_isAgg {P : Program} {t : TypeId} (h : scal P t = true) (w : World) : (isAgg t).run P w = .ok false w := by
  unfold scal at h
  cases hu : P.underlying t with
  | none => simp [hu] at h
  | some d => cases d <;> simp_all [isAgg, run_underlying hu]
theorem scal_size {P : Program} {t : TypeId} (h : scal P t = true) (w : World) : (sizeOf t).run P w = .ok 1 w := by
  unfold scal at h;simp only [Bool.and_eq_true, beq_iff_eq] at h
  cases hi : P.info? t with
  | none => simp [hi] at h
  | some i => simp [hi] at h; simp [sizeOf, typeInfo, hi, h.2]
variable {P : Program} {a : Act} {w : World} {K : Act → World → Prop} {Q : Exit → Act → World → Prop} {d : Option Tmp} {t : TypeId} {p : String} {af : Array Edge} {g : Option (Nat × Bool)}
theorem wp_val {o : Oper} {v : Value} {w' : World} (h : (execOp a.eval o).run P w = .ok (.value v) w') (k : K (a.put o.dst v) w') : OW P o a w K Q := by
  constructor
  unfold Oper.wp; rw [h]; exact k
theorem wMw {x : Operand} : OW P ⟨d, .move x, t, p, af, g⟩ a w K Q = K (a.put d (a.eval x)) w := propext ⟨fun h => h.sem, fun h => ⟨h⟩⟩
theorem wAg {x : Operand} : OW P ⟨d, .assign x, t, p, af, g⟩ a w K Q = K (a.put d (a.eval x)) w := propext ⟨fun h => h.sem, fun h => ⟨h⟩⟩
theorem wNc {x : Operand} {q : Addr} (hx : a.eval x = .pointer (some q)) (k : K (a.put d (.pointer (some q))) w) : OW P ⟨d, .nilCheck x, t, p, af, g⟩ a w K Q :=
  wp_val (by simp [execOp, hx]) k
theorem add_addr (b o n : Nat) : (⟨b, o, none⟩ : Addr).add n = ⟨b, o + n, none⟩ := Addr.add_mid b o n
theorem wFa {s : TypeId} {x : Operand} {f o b i : Nat} (hf : fieldOf P s f o = true) (hx : a.eval x = .pointer (some ⟨b, i, none⟩))
    (k : K (a.put d (.pointer (some ⟨b, i + o, none⟩))) w) : OW P ⟨d, .fieldAddr s x f, t, p, af, g⟩ a w K Q := by
  unfold fieldOf at hf
  cases hu : P.underlying s with
  | none => simp [hu] at hf
  | some e =>
    cases e <;> simp only [hu] at hf <;> first | (simp at hf; done) | skip
    rename_i fs
    cases hfs : fs[f]? with
    | none => simp [hfs] at hf
    | some fl =>
      simp only [hfs, Bool.and_eq_true, beq_iff_eq] at hf;obtain ⟨rfl, hs⟩ := hf
      cases hi : P.info? fl.type with
      | none => simp [hi] at hs
      | some inf =>
        simp only [hi, bne_iff_ne] at hs;refine wp_val (v := .pointer (some ⟨b, i + fl.offset, none⟩)) (w' := w) ?_ k;simp [execOp, hx, Instr.fieldAt, run_underlying hu, hfs, Instr.sureAddr, fieldPlace, sizeOf, typeInfo, hi, hs, add_addr]
theorem wp_load {s : TypeId} {x : Operand} {b o : Nat} {v : Value} (hs : scal P s = true) (hx : a.eval x = .pointer (some ⟨b, o, none⟩)) (hc : w.cell? ⟨b, o, none⟩ = some v)
    (k : K (a.put d v) w) : OW P ⟨d, .load s x, t, p, af, g⟩ a w K Q := by
  refine wp_val (v := v) (w' := w) ?_ k;simp [execOp, hx, Instr.loadAt, Instr.sureAddr, loadVar, scal_isAgg hs, hc]
theorem wp_store {s : TypeId} {x y : Operand} {b o : Nat} {v : Value} (hs : scal P s = true) (hx : a.eval x = .pointer (some ⟨b, o, none⟩)) (hy : a.eval y = v) (h1 : v.oneCell' = true)
    (hc : w.there b o 1) (k : K (a.put d undef) (w.setCell ⟨b, o, none⟩ v)) : OW P ⟨d, .store s x y, t, p, af, g⟩ a w K Q := by
  have hcs : v.cells = #[v] := by cases v <;> first | rfl | (simp [Value.oneCell'] at h1)
  obtain ⟨h2, h3⟩ := hc 0 (by omega);simp only [Nat.add_zero] at h2 h3;obtain ⟨u, hu⟩ := Option.isSome_iff_exists.1 h2
  constructor
  unfold Oper.wp;have : (execOp a.eval ⟨d, .store s x y, t, p, af, g⟩).run P w = .ok .skip (w.setCell ⟨b, o, none⟩ v) := by
    simp only [execOp, hx, hy, Instr.storeAt, Instr.sureAddr, Sem.run_bind, Sem.run_pure, Result.andThen_ok, storeVar, scal_size hs, hcs];simp [storeCells, run_store, h1, Addr.add, hu, h3]
  rw [this];exact k
theorem wp_call {f : FuncId} {xs : Array Operand} {ts : Array TypeId} {vs : Array Value} (he : Enters P f) (hx : xs.map a.eval = vs)
    (k : Calls P f vs w fun
      | .returned v, w' => K (a.put d v) w'
      | .panicked chain, w' => Q (.panic chain) a w'
      | .outgrown, _ => LetsOut Q) : OW P ⟨d, .call ⟨.value (.func f), xs, ts⟩, t, p, af, g⟩ a w K Q := by
  constructor
  unfold Oper.wp;have : (execOp a.eval ⟨d, .call ⟨.value (.func f), xs, ts⟩, t, p, af, g⟩).run P w = .ok (.enter f vs) w := by
    have := he vs w;simp [execOp, resolve, Act.eval, Deferred.ofValue, invoke, hx, this]
  rw [this];exact k
theorem wp_calls {f : FuncId} {xs : Array Operand} {ts : Array TypeId} {vs : Array Value} {R : Value → World → Prop} (he : Enters P f) (hx : xs.map a.eval = vs)
    (hc : Calls P f vs w fun e w' => ∃ v, e = .returned v ∧ R v w') (k : ∀ v w', R v w' → K (a.put d v) w') : OW P ⟨d, .call ⟨.value (.func f), xs, ts⟩, t, p, af, g⟩ a w K Q :=
  wp_call he hx (hc.mono (by rintro e w' ⟨v, rfl, h⟩; exact k v w' h))
theorem wp_not {s : TypeId} {x : Operand} {b : Bool} (hx : a.eval x = .bool b) (k : K (a.put d (.bool !b)) w) : OW P ⟨d, .unOp .not s x, t, p, af, g⟩ a w K Q :=
  wp_val (by simp [execOp, hx, Op.unary]) k
theorem wp_lss {s u : TypeId} {x y : Operand} {k1 : IntKind} {i j : Int} (hx : a.eval x = .int k1 i) (hy : a.eval y = .int k1 j) (k : K (a.put d (.bool (decide (i < j)))) w) :
    OW P ⟨d, .binOp .lss s x y u, t, p, af, g⟩ a w K Q := wp_val (by simp [execOp, hx, hy, eqGuard, binOp, Op.intCmp]) k
theorem wp_gtr {s u : TypeId} {x y : Operand} {k1 : IntKind} {i j : Int} (hx : a.eval x = .int k1 i) (hy : a.eval y = .int k1 j) (k : K (a.put d (.bool (decide (i > j)))) w) :
    OW P ⟨d, .binOp .gtr s x y u, t, p, af, g⟩ a w K Q := wp_val (by simp [execOp, hx, hy, eqGuard, binOp, Op.intCmp]) k
theorem wp_geq {s u : TypeId} {x y : Operand} {k1 : IntKind} {i j : Int} (hx : a.eval x = .int k1 i) (hy : a.eval y = .int k1 j) (k : K (a.put d (.bool (decide (i ≥ j)))) w) :
    OW P ⟨d, .binOp .geq s x y u, t, p, af, g⟩ a w K Q := wp_val (by simp [execOp, hx, hy, eqGuard, binOp, Op.intCmp]) k
theorem wp_leq {s u : TypeId} {x y : Operand} {k1 : IntKind} {i j : Int} (hx : a.eval x = .int k1 i) (hy : a.eval y = .int k1 j) (k : K (a.put d (.bool (decide (i ≤ j)))) w) :
    OW P ⟨d, .binOp .leq s x y u, t, p, af, g⟩ a w K Q := wp_val (by simp [execOp, hx, hy, eqGuard, binOp, Op.intCmp]) k
theorem wp_eql {s u : TypeId} {x y : Operand} {k1 : IntKind} {i j : Int} (hx : a.eval x = .int k1 i) (hy : a.eval y = .int k1 j) (k : K (a.put d (.bool (i == j))) w) :
    OW P ⟨d, .binOp .eql s x y u, t, p, af, g⟩ a w K Q := wp_val (by simp [execOp, hx, hy, eqGuard, binOp, Op.intCmp]) k
theorem wp_neq {s u : TypeId} {x y : Operand} {k1 : IntKind} {i j : Int} (hx : a.eval x = .int k1 i) (hy : a.eval y = .int k1 j) (k : K (a.put d (.bool (i != j))) w) :
    OW P ⟨d, .binOp .neq s x y u, t, p, af, g⟩ a w K Q := wp_val (by simp [execOp, hx, hy, eqGuard, binOp, Op.intCmp]) k
theorem wp_add {s u : TypeId} {x y : Operand} {k1 : IntKind} {i j : Int} (hx : a.eval x = .int k1 i) (hy : a.eval y = .int k1 j) (k : K (a.put d (.int k1 (k1.wrap (i + j)))) w) :
    OW P ⟨d, .binOp .add s x y u, t, p, af, g⟩ a w K Q := wp_val (by simp [execOp, hx, hy, eqGuard, binOp, Op.intArith]) k
theorem wp_sub {s u : TypeId} {x y : Operand} {k1 : IntKind} {i j : Int} (hx : a.eval x = .int k1 i) (hy : a.eval y = .int k1 j) (k : K (a.put d (.int k1 (k1.wrap (i - j)))) w) :
    OW P ⟨d, .binOp .sub s x y u, t, p, af, g⟩ a w K Q := wp_val (by simp [execOp, hx, hy, eqGuard, binOp, Op.intArith]) k
theorem under_int {s : TypeId} {k1 : IntKind} (h : intOf P s k1 = true) : P.underlying s = some (.int k1) := by
  unfold intOf at h
  cases hu : P.underlying s with
  | none => simp [hu] at h
  | some e => cases e <;> simp [hu] at h; subst h; rfl
theorem wCv {s u : TypeId} {x : Operand} {k0 k1 k2 : IntKind} {i : Int} (h1 : intOf P s k0 = true) (h2 : intOf P u k2 = true) (hx : a.eval x = .int k1 i)
    (k : K (a.put d (.int k2 (k2.wrap i))) w) : OW P ⟨d, .convert s u x, t, p, af, g⟩ a w K Q :=
  wp_val (by simp [execOp, hx, convert, run_underlying (under_int h1), run_underlying (under_int h2), Conv.intToInt]) k
theorem under_slice {s e n b : Nat} (h : sliceOf P s e n b = true) : P.underlying s = some (.slice e) ∧ ∃ i z, P.info? e = some i ∧ i.size = n ∧ i.bytes = b ∧ i.zero = some z ∧ 0 < n := by
  unfold sliceOf at h;simp only [Bool.and_eq_true] at h;obtain ⟨h1, h2⟩ := h
  constructor
  · cases hu : P.underlying s with
    | none => simp [hu] at h1
    | some e => cases e <;> simp [hu] at h1; subst h1; rfl
  cases hi : P.info? e with
  | none => simp [hi] at h2
  | some i =>
    simp only [hi, Bool.and_eq_true, beq_iff_eq, Option.isSome_iff_exists, decide_eq_true_eq] at h2;obtain ⟨⟨⟨h3, h4⟩, z, h5⟩, h6⟩ := h2;exact ⟨i, z, rfl, h3, h4, h5, h6⟩
theorem wp_indexAddr {s e n bs : Nat} {x y : Operand} {b o len cap : Nat} {k1 : IntKind} {i : Int} (h : sliceOf P s e n bs = true) (hx : a.eval x = .slice (some ⟨b, o, none⟩) len cap) (hy : a.eval y = .int k1 i)
    (h0 : 0 ≤ i) (h1 : i < len) (k : K (a.put d (.pointer (some ⟨b, o + i.toNat * n, none⟩))) w) : OW P ⟨d, .indexAddr s x y, t, p, af, g⟩ a w K Q := by
  obtain ⟨hu, i0, z, hi, hs, hb, hz, hn⟩ := under_slice h;refine wp_val (v := .pointer (some ⟨b, o + i.toNat * n, none⟩)) (w' := w) ?_ k;simp [execOp, hx, hy, Instr.indexAt, asIntOf, run_underlying hu, h0, h1, sizeOf, typeInfo, hi, hs, add_addr]
theorem wp_sliceHi {s e n bs : Nat} {x y : Operand} {q : Option Addr} {len cap l : Nat} {k1 : IntKind} (h : sliceOf P s e n bs = true) (hx : a.eval x = .slice q len cap) (hy : a.eval y = .int k1 l)
    (hl : l ≤ cap) (k : K (a.put d (.slice q l cap)) w) : OW P ⟨d, .slice s x none (some y) none, t, p, af, g⟩ a w K Q := by
  obtain ⟨hu, i0, z, hi, hs, hb, hz, hn⟩ := under_slice h;refine wp_val (v := .slice q l cap) (w' := w) ?_ k
  cases q with
  | none => simp [execOp, hx, hy, Instr.sliceAt, Instr.slice, Instr.sliceBounds, Instr.sliceBound, asIntOf, run_underlying hu, sizeOf, typeInfo, hi, hs, hl]
  | some q => simp [execOp, hx, hy, Instr.sliceAt, Instr.slice, Instr.sliceBounds, Instr.sliceBound, asIntOf, run_underlying hu, sizeOf, typeInfo, hi, hs, hl, Addr.add]
theorem wp_len {s e n bs : Nat} {x : Operand} {q : Option Addr} {len cap : Nat} (h : sliceOf P s e n bs = true) (hx : a.eval x = .slice q len cap)
    (k : K (a.put d (.int .i64 len)) w) : OW P ⟨d, .call ⟨.builtin .len, #[x], #[s]⟩, t, p, af, g⟩ a w K Q := by
  obtain ⟨hu, _⟩ := under_slice h;refine wp_val (v := .int .i64 len) (w' := w) ?_ k;simp [execOp, resolve, invoke, builtin, Builtin.len_, hx, run_underlying hu, goInt]
theorem zero_of {s : TypeId} {i : TypeInfo} {z : Value} (hi : P.info? s = some i) (hz : i.zero = some z) (w : World) : (zeroValue s).run P w = .ok z w := by
  simp [zeroValue, typeInfo, hi, hz]
def zeroOf (P : Program) (s : TypeId) (z : Value) : Prop := ∃ i, P.info? s = some i ∧ i.zero = some z
theorem wp_alloc {s : TypeId} {z : Value} (hz : zeroOf P s z) (k : K (a.put d (.pointer (some ⟨w.heap.size, 0, none⟩))) (w.alloc (.cells z.cells s))) :
    OW P ⟨d, .alloc s, t, p, af, g⟩ a w K Q := by
  obtain ⟨i, hi, hz⟩ := hz;refine wp_val (v := .pointer (some ⟨w.heap.size, 0, none⟩)) (w' := w.alloc (.cells z.cells s)) ?_ k;simp [execOp, Instr.alloc, zero_of hi hz, newVar, newRow]
end Go.Kq

namespace Go.Kq
open Go
inductive V where
  | n (i : Int)
  | s (l : List UInt8)
  | nil
  | l (xs : List V)
  | t (kv : List (Nat × V))
  deriving Inhabited
inductive Ty where
  | int (k : IntKind)
  | bool
  | f64
  | str
  | pstr
  | bytes
  | uuid
  | tags
  | arr (t : Ty)
  | st (fs : List Ty)
  | ptr (t : Ty)
  deriving Inhabited
mutual
def Ty.size : Ty → Nat
  | .uuid => 16
  | .st fs => Ty.sizes fs
  | _ => 1
def Ty.sizes : List Ty → Nat
  | [] => 0
  | t :: ts => t.size + Ty.sizes ts
end
def octets (l : List UInt8) : List Value := l.map fun b => .int .u8 b.toNat
theorem lOc (l : List UInt8) : (octets l).length = l.length := by simp [octets]
def Octs (w : World) (A : Nat → Prop) (v : Value) (x : Option (List UInt8)) : Prop :=
  (v = .slice none 0 0 ∧ x = none) ∨
  ∃ b o cap l, A b ∧ v = .slice (some ⟨b, o, none⟩) l.length cap ∧ (l.length ≤ cap ∧ l.length ≤ 4294967296) ∧ w.rangeAt b o (octets l) ∧ x = some l
def V.oct : Option (List UInt8) → V
  | none => .nil
  | some y => .s y
def Void (v : Value) : Prop := ∃ a, v = .slice (some a) 0 0
def OctsV (w : World) (A : Nat → Prop) (v : Value) (x : Option (List UInt8)) : Prop := Octs w A v x ∨ (Void v ∧ x = some [])
def Entries (w : World) (A : Nat → Prop) : List MapEntry → List (Nat × V) → Prop
  | [], kv => kv = []
  | e :: es, kv => ∃ k x r, kv = (k, .oct x) :: r ∧ k < 4294967296 ∧ e.key = .int .u32 k ∧ OctsV w A e.val x ∧ Entries w A es r
def TagOk (es : Array MapEntry) (clock : Nat) (kv : List (Nat × V)) : Prop := (es.toList.map (·.born)).Nodup ∧ (∀ e ∈ es.toList, e.born < clock) ∧ (kv.map (·.1)).Nodup
mutual
/-- So many cells, read as a type, hold a value; what they lead to lies in blocks of A. -/
def Rep (w : World) (A : Nat → Prop) : Ty → List Value → V → Prop
  | .int k, cs, x => ∃ i, cs = [.int k i] ∧ x = .n i ∧ k.min ≤ i ∧ i ≤ k.max
  | .bool, cs, x => ∃ b : Bool, cs = [.bool b] ∧ x = .n (if b then 1 else 0)
  | .f64, cs, x => ∃ i : Nat, cs = [.float .f64 i] ∧ x = .n i ∧ i < 18446744073709551616
  | .str, cs, x => ∃ s : ByteArray, cs = [.string s] ∧ x = .s s.data.toList ∧ s.data.toList.length ≤ 4294967296
  | .pstr, cs, x => (cs = [.pointer none] ∧ x = .nil) ∨ ∃ b o, ∃ s : ByteArray, A b ∧ cs = [.pointer (some ⟨b, o, none⟩)] ∧ w.cell? ⟨b, o, none⟩ = some (.string s) ∧ x = .s s.data.toList ∧ s.data.toList.length ≤ 4294967296
  | .bytes, cs, x => ∃ v y, cs = [v] ∧ Octs w A v y ∧ x = .oct y
  | .uuid, cs, x => ∃ l, l.length = 16 ∧ cs = octets l ∧ x = .s l
  | .tags, cs, x => (cs = [.map none] ∧ x = .nil) ∨ ∃ r es clock kv, A r ∧ cs = [.map (some r)] ∧ w.heap[r]? = some (.map es clock) ∧ Entries w A es.toList kv ∧ x = .t kv ∧ TagOk es clock kv
  | .arr t, cs, x => (cs = [.slice none 0 0] ∧ x = .nil) ∨
      ∃ b o cap xs, A b ∧ cs = [.slice (some ⟨b, o, none⟩) xs.length cap] ∧ (xs.length ≤ cap ∧ xs.length ≤ 4294967296) ∧ x = .l xs ∧
        ∀ i y, xs[i]? = some y → ∃ es, w.rangeAt b (o + i * t.size) es ∧ es.length = t.size ∧ Rep w A t es y
  | .st fs, cs, x => ∃ xs, x = .l xs ∧ Reps w A fs cs xs
  | .ptr t, cs, x => (cs = [.pointer none] ∧ x = .nil) ∨
      ∃ b o es, A b ∧ cs = [.pointer (some ⟨b, o, none⟩)] ∧ w.rangeAt b o es ∧ es.length = t.size ∧ Rep w A t es x
def Reps (w : World) (A : Nat → Prop) : List Ty → List Value → List V → Prop
  | [], cs, xs => cs = [] ∧ xs = []
  | t :: ts, cs, xs => ∃ c1 c2 x r, cs = c1 ++ c2 ∧ xs = x :: r ∧ Rep w A t c1 x ∧ Reps w A ts c2 r
end
mutual
theorem Rep.length {w : World} {A : Nat → Prop} : ∀ {t : Ty} {cs : List Value} {x : V}, Rep w A t cs x → cs.length = t.size
  | .int k, cs, x, h => by obtain ⟨i, rfl, _⟩ := h; rfl
  | .bool, cs, x, h => by obtain ⟨i, rfl, _⟩ := h; rfl
  | .f64, cs, x, h => by obtain ⟨i, rfl, _⟩ := h; rfl
  | .str, cs, x, h => by obtain ⟨i, rfl, _⟩ := h; rfl
  | .pstr, cs, x, h => by rcases h with ⟨rfl, _⟩ | ⟨_, _, _, _, rfl, _⟩ <;> rfl
  | .bytes, cs, x, h => by obtain ⟨v, y, rfl, _⟩ := h; rfl
  | .uuid, cs, x, h => by obtain ⟨l, hl, rfl, _⟩ := h; rw [lOc, hl]; rfl
  | .tags, cs, x, h => by rcases h with ⟨rfl, _⟩ | ⟨_, _, _, _, _, rfl, _⟩ <;> rfl
  | .arr t, cs, x, h => by rcases h with ⟨rfl, _⟩ | ⟨_, _, _, _, _, rfl, _⟩ <;> rfl
  | .ptr t, cs, x, h => by rcases h with ⟨rfl, _⟩ | ⟨_, _, _, _, rfl, _⟩ <;> rfl
  | .st fs, cs, x, h => by obtain ⟨xs, _, h⟩ := h; exact Reps.length h
theorem Reps.length {w : World} {A : Nat → Prop} : ∀ {ts : List Ty} {cs : List Value} {xs : List V}, Reps w A ts cs xs → cs.length = Ty.sizes ts
  | [], cs, xs, h => by obtain ⟨rfl, _⟩ := h; rfl
  | t :: ts, cs, xs, h => by
    obtain ⟨c1, c2, x, r, rfl, _, h1, h2⟩ := h;rw [List.length_append, Rep.length h1, Reps.length h2]; rfl
end
theorem Octs.kept {w w' : World} {A A' : Nat → Prop} {l : List Rng} {v : Value} {x : Option (List UInt8)} (h : Octs w A v x) (hf : Fr l w w') (hl : ∀ r ∈ l, ¬ A r.b) (hA : ∀ b, A b → A' b) : Octs w' A' v x := by
  rcases h with h | ⟨b, o, cap, l', hb, hv, hc, hr, hx⟩
  · exact .inl h
  exact .inr ⟨b, o, cap, l', hA b hb, hv, hc, hf.range hr (fun r hr => .inl (fun e => hl r hr (e ▸ hb))), hx⟩
theorem OctsV.kept {w w' : World} {A A' : Nat → Prop} {l : List Rng} {v : Value} {x : Option (List UInt8)} (h : OctsV w A v x) (hf : Fr l w w') (hl : ∀ r ∈ l, ¬ A r.b) (hA : ∀ b, A b → A' b) : OctsV w' A' v x := by
  rcases h with h | h
  · exact .inl (h.kept hf hl hA)
  exact .inr h
theorem Entries.kept {w w' : World} {A A' : Nat → Prop} {l : List Rng} (hf : Fr l w w') (hl : ∀ r ∈ l, ¬ A r.b) (hA : ∀ b, A b → A' b) :
    ∀ {es : List MapEntry} {kv : List (Nat × V)}, Entries w A es kv → Entries w' A' es kv
  | [], kv, h => h
  | e :: es, kv, h => by
    obtain ⟨k, x, r, h1, h2, h3, h4, h5⟩ := h;exact ⟨k, x, r, h1, h2, h3, h4.kept hf hl hA, Entries.kept hf hl hA h5⟩
mutual
theorem Rep.kept {w w' : World} {A A' : Nat → Prop} {l : List Rng} (hf : Fr l w w') (hl : ∀ r ∈ l, ¬ A r.b) (hA : ∀ b, A b → A' b) :
    ∀ {t : Ty} {cs : List Value} {x : V}, Rep w A t cs x → Rep w' A' t cs x
  | .int k, cs, x, h => h
  | .bool, cs, x, h => h
  | .f64, cs, x, h => h
  | .str, cs, x, h => h
  | .pstr, cs, x, h => by
    rcases h with h | ⟨b, o, s, hb, h1, h2, h3⟩
    · exact .inl h
    exact .inr ⟨b, o, s, hA b hb, h1, hf.cell h2 (fun r hr => .inl (fun e => hl r hr (e ▸ hb))), h3⟩
  | .bytes, cs, x, h => by obtain ⟨v, y, h1, h2, h3⟩ := h; exact ⟨v, y, h1, h2.kept hf hl hA, h3⟩
  | .uuid, cs, x, h => h
  | .tags, cs, x, h => by
    rcases h with h | ⟨r, es, clock, kv, hr, h1, h2, h3, h4⟩
    · exact .inl h
    exact .inr ⟨r, es, clock, kv, hA r hr, h1, by rw [hf.block r (lt_of_block h2) (fun x hx e => hl x hx (e ▸ hr))]; exact h2, h3.kept hf hl hA, h4⟩
  | .arr t, cs, x, h => by
    rcases h with h | ⟨b, o, cap, xs, hb, h1, h2, h3, h4⟩
    · exact .inl h
    refine .inr ⟨b, o, cap, xs, hA b hb, h1, h2, h3, fun i y hy => ?_⟩;obtain ⟨es, h5, h6, h7⟩ := h4 i y hy;exact ⟨es, hf.range h5 (fun r hr => .inl (fun e => hl r hr (e ▸ hb))), h6, Rep.kept hf hl hA h7⟩
  | .ptr t, cs, x, h => by
    rcases h with h | ⟨b, o, es, hb, h1, h2, h3, h4⟩
    · exact .inl h
    exact .inr ⟨b, o, es, hA b hb, h1, hf.range h2 (fun r hr => .inl (fun e => hl r hr (e ▸ hb))), h3, Rep.kept hf hl hA h4⟩
  | .st fs, cs, x, h => by obtain ⟨xs, h1, h2⟩ := h; exact ⟨xs, h1, Reps.kept hf hl hA h2⟩
theorem Reps.kept {w w' : World} {A A' : Nat → Prop} {l : List Rng} (hf : Fr l w w') (hl : ∀ r ∈ l, ¬ A r.b) (hA : ∀ b, A b → A' b) :
    ∀ {ts : List Ty} {cs : List Value} {xs : List V}, Reps w A ts cs xs → Reps w' A' ts cs xs
  | [], cs, xs, h => h
  | t :: ts, cs, xs, h => by
    obtain ⟨c1, c2, x, r, h1, h2, h3, h4⟩ := h;exact ⟨c1, c2, x, r, h1, h2, Rep.kept hf hl hA h3, Reps.kept hf hl hA h4⟩
end
end Go.Kq

namespace Go.Kq
open Go
theorem octets_drop (k : Nat) (l : List UInt8) : (octets l).drop k = octets (l.drop k) := by simp [octets, List.map_drop]
theorem octets_take (k : Nat) (l : List UInt8) : (octets l).take k = octets (l.take k) := by simp [octets, List.map_take]
theorem octets_range {w : World} {b o : Nat} {l : List UInt8} (h : w.rangeAt b o (octets l)) (i n : Nat) : w.rangeAt b (o + i) (octets ((l.drop i).take n)) := by
  have := range_part h i n
  rwa [octets_drop, octets_take] at this
end Go.Kq

namespace Go.Kq
open Go Go.Proofs
structure Kept (m : Nat) (a a' : Act) : Prop where
  size : a'.tmps.size = a.tmps.size
  defers : a'.defers = a.defers
  get : ∀ t, t < m → get a' t = get a t
theorem Kept.refl (m : Nat) (a : Act) : Kept m a a := ⟨rfl, rfl, fun _ _ => rfl⟩
theorem Kept.trans {m : Nat} {a b c : Act} (h : Kept m a b) (k : Kept m b c) : Kept m a c := ⟨k.size.trans h.size, k.defers.trans h.defers, fun t ht => (k.get t ht).trans (h.get t ht)⟩
theorem Kept.mono {m m' : Nat} {a b : Act} (h : Kept m a b) (hm : m' ≤ m) : Kept m' a b := ⟨h.size, h.defers, fun t ht => h.get t (by omega)⟩
theorem Kept.put {m d : Nat} {a b : Act} (h : Kept m a b) (hd : m ≤ d) (v : Value) : Kept m a (b.put (some d) v) :=
  ⟨(sPu _ _ _).trans h.size, (dPu _ _ _).trans h.defers, fun t ht => (gR).trans (h.get t ht)⟩
theorem Kept.put0 {m d : Nat} {a : Act} (hd : m ≤ d) (v : Value) : Kept m a (a.put (some d) v) := (Kept.refl m a).put hd v
def NoFoot (_ : Nat) : Prop := False
end Go.Kq

namespace Go.Kq
open Go
def strOf (l : List UInt8) : ByteArray := ⟨l.toArray⟩
theorem strOf_list (l : List UInt8) : (strOf l).data.toList = l := by simp [strOf]
theorem foldl_push : ∀ (l : List UInt8) (s : ByteArray), (l.map fun b => ((b.toNat : Nat) : Int)).foldl (fun r n => r.push (UInt8.ofNat n.toNat)) s = ⟨s.data ++ l.toArray⟩
  | [], s => by simp
  | b :: l, s => by
    simp only [List.map_cons, List.foldl_cons];rw [foldl_push l];simp only [ByteArray.push, Int.toNat_natCast, UInt8.ofNat_toNat]
    congr 1
    apply Array.ext'
    simp
theorem run_bytesToString_octs {P : Program} {w : World} {A : Nat → Prop} {v : Value} {x : Option (List UInt8)} (h : Octs w A v x) : (Conv.bytesToString v).run P w = .ok (.string (strOf (x.getD []))) w := by
  rcases h with ⟨rfl, rfl⟩ | ⟨b, o, cap, l, _, rfl, _, hr, rfl⟩
  · rfl
  have hl : (loadCells ⟨b, o, none⟩ l.length).run P w = .ok ((l.map fun b => ((b.toNat : Nat) : Int)).map (Value.int .u8)).toArray w := by
    have := run_loadCells_list (P := P) w ⟨b, o, none⟩ (octets l) (fun j v hv => by rw [Addr.add_mid]; exact hr j v hv);rw [lOc] at this;rw [this];simp [octets, Function.comp_def]
  rw [run_bytesToString w _ _ cap _ hl, foldl_push];simp [strOf]
def byteSl (P : Program) (s : TypeId) : Bool := match P.underlying s with | some (.slice e) => intOf P e .u8 | _ => false
theorem under_bytes {P : Program} {s : TypeId} (h : byteSl P s = true) : ∃ e, P.underlying s = some (.slice e) ∧ P.underlying e = some (.int .u8) := by
  unfold byteSl at h
  cases hu : P.underlying s with
  | none => simp [hu] at h
  | some d => cases d <;> simp [hu] at h; exact ⟨_, rfl, under_int h⟩
theorem under_str {P : Program} {s : TypeId} (h : strTy P s = true) : P.underlying s = some .string := by
  unfold strTy at h
  cases hu : P.underlying s with
  | none => simp [hu] at h
  | some d => cases d <;> simp [hu] at h; rfl
theorem run_toString {P : Program} {w : World} {A : Nat → Prop} {v : Value} {x : Option (List UInt8)} {s t : TypeId} (hs : byteSl P s = true) (ht : strTy P t = true) (h : Octs w A v x) :
    (convert s t v).run P w = .ok (.string (strOf (x.getD []))) w := by
  obtain ⟨e, h1, h2⟩ := under_bytes hs;have h3 := under_str ht;have hr := run_bytesToString_octs (P := P) h
  rcases h with ⟨rfl, rfl⟩ | ⟨b, o, cap, l, _, rfl, _, _, rfl⟩
  · simp [convert, run_underlying h1, run_underlying h2, run_underlying h3, hr]
  simp [convert, run_underlying h1, run_underlying h2, run_underlying h3, hr]
variable {P : Program} {a : Act} {w : World} {K : Act → World → Prop} {Q : Exit → Act → World → Prop} {d : Option Tmp} {t : TypeId} {p : String} {af : Array Edge} {g : Option (Nat × Bool)}
theorem wp_toString {A : Nat → Prop} {x : Operand} {y : Option (List UInt8)} {s u : TypeId} {v : Value} (hs : byteSl P s = true) (ht : strTy P u = true) (hx : a.eval x = v) (h : Octs w A v y)
    (k : K (a.put d (.string (strOf (y.getD [])))) w) : OW P ⟨d, .convert s u x, t, p, af, g⟩ a w K Q :=
  wp_val (by simp only [execOp, hx, Sem.run_bind, run_toString hs ht h, Result.andThen_ok, Sem.run_pure]) k
end Go.Kq

namespace Go.Kq
open Go Go.Proofs
variable {P : Program} {a : Act} {w : World} {K : Act → World → Prop} {Q : Exit → Act → World → Prop}
theorem r_const {id v m : Nat} {x : Value} {t1 : TypeId} {p1 : String} {e1 : Array Edge} (hv : v < a.tmps.size) (hmv : m ≤ v) (hk : ∀ a', Kept m a a' → get a' v = x → K a' w) :
    (Code.region id ⟨[oA v (.const x) t1 p1 e1]⟩ false).wp P (Exit.then K Q) a w := by
  refine wp_reg ?_;rw [wCo, wAg, eCo];exact hk _ (Kept.put0 hmv _) (gPs hv)
def cmpR : BinOp → Int → Int → Option Bool
  | .lss, i, j => some (decide (i < j))
  | .gtr, i, j => some (decide (i > j))
  | .geq, i, j => some (decide (i ≥ j))
  | .leq, i, j => some (decide (i ≤ j))
  | .eql, i, j => some (i == j)
  | .neq, i, j => some (i != j)
  | _, _, _ => none
theorem wp_cmp {d : Option Tmp} {t : TypeId} {p : String} {af : Array Edge} {g : Option (Nat × Bool)} {s u : TypeId} {x y : Operand} {k1 : IntKind} {i j : Int} {op : BinOp} {r : Bool} (hop : cmpR op i j = some r)
    (hx : a.eval x = .int k1 i) (hy : a.eval y = .int k1 j) (k : K (a.put d (.bool r)) w) : OW P ⟨d, .binOp op s x y u, t, p, af, g⟩ a w K Q := by
  refine wp_val (v := .bool r) (w' := w) ?_ k
  cases op <;> simp only [cmpR, Option.some.injEq, reduceCtorEq] at hop <;> subst hop <;> simp [execOp, hx, hy, eqGuard, binOp, Op.intCmp]
def zeroIs (P : Program) (e : TypeId) (z : List Value) : Prop := ∃ i v, P.info? e = some i ∧ i.zero = some v ∧ v.cells.toList = z
end Go.Kq

namespace Go.Kq
open Go Go.Proofs
structure Sp where
  need : List Nat
  wr : Bool
  R : Value → World → Prop
def ancE (acc : List (List Nat)) (e : Array Edge) : List Nat := e.toList.flatMap fun x => if Region.binds .any x then x.on :: acc.getD x.on [] else []
def ancAll : List (List Nat) → List (Array Edge) → List (List Nat)
  | acc, [] => acc
  | acc, e :: es => ancAll (acc ++ [ancE acc e]) es
def backE (i : Nat) (e : Array Edge) : Bool := e.all fun x => decide (x.on < i)
def edgeIn (A : List (List Nat)) : Nat → List (Array Edge) → List (List Nat) → Bool
  | _, [], [] => true
  | i, e :: es, d :: ds => backE i e && d.all (fun x => decide (x < i) && (A.getD i []).contains x) && edgeIn A (i + 1) es ds
  | _, _, _ => false
def edgeOk (i : Nat) (es : List (Array Edge)) (nds : List (List Nat)) : Bool := edgeIn (ancAll [] es) i es nds
theorem anc_pre : ∀ (es : List (Array Edge)) (acc : List (List Nat)) (j : Nat), j < acc.length → (ancAll acc es).getD j [] = acc.getD j []
  | [], _, _, _ => rfl
  | e :: es, acc, j, h => by
    rw [ancAll, anc_pre es _ j (by simp; omega)];simp [List.getD_eq_getElem?_getD, List.getElem?_append_left h]
theorem anc_mem : ∀ (es : List (Array Edge)) (acc : List (List Nat)) (i : Nat) (e : Array Edge), es[i]? = some e → ∀ a ∈ (ancAll acc es).getD (acc.length + i) [],
    ∃ x ∈ e, Region.binds .any x = true ∧ (a = x.on ∨ a ∈ (ancAll acc es).getD x.on [])
  | [], _, i, e, h, _, _ => by simp at h
  | e0 :: es, acc, 0, e, h, a, ha => by
    simp at h
    subst h;rw [ancAll, Nat.add_zero, anc_pre es _ acc.length (by simp)] at ha;simp only [List.getD_eq_getElem?_getD, List.getElem?_concat_length, Option.getD_some, ancE, List.mem_flatMap] at ha;obtain ⟨x, hx, ha⟩ := ha;refine ⟨x, by simpa using hx, ?_⟩
    split at ha
    · rename_i hb
      refine ⟨hb, ?_⟩
      rcases List.mem_cons.1 ha with h | h
      · exact .inl h
      right
      have hlt : x.on < acc.length := by
        rcases Nat.lt_or_ge x.on acc.length with h1 | h1
        · exact h1
        rw [List.getElem?_eq_none h1] at h; simp at h
      rw [anc_pre (e0 :: es) acc x.on hlt, List.getD_eq_getElem?_getD]; exact h
    simp at ha
  | e0 :: es, acc, i + 1, e, h, a, ha => by
    rw [ancAll] at ha ⊢;have := anc_mem es (acc ++ [ancE acc e0]) i e (by simpa using h) a (by rw [List.length_append]; simpa [Nat.add_assoc, Nat.add_comm 1 i] using ha);exact this
structure Edges (A : List (List Nat)) (ops : Array Oper) (nds : List (List Nat)) : Prop where
  anc : ∀ (i : Nat) (o : Oper), ops[i]? = some o → ∀ a ∈ A.getD i [], ∃ x ∈ o.after, Region.binds .any x = true ∧ (a = x.on ∨ a ∈ A.getD x.on [])
  back : ∀ (i : Nat) (o : Oper), ops[i]? = some o → ∀ x ∈ o.after, x.on < i
  need : ∀ (i : Nat) (nd : List Nat), nds[i]? = some nd → ∀ d ∈ nd, d < i ∧ d ∈ A.getD i []
  len : nds.length = ops.size
theorem edgeIn_spec {A : List (List Nat)} : ∀ {es : List (Array Edge)} {nds : List (List Nat)} {i : Nat}, edgeIn A i es nds = true → nds.length = es.length ∧ (∀ j e, es[j]? = some e → ∀ x ∈ e, x.on < i + j) ∧
    ∀ j nd, nds[j]? = some nd → ∀ d ∈ nd, d < i + j ∧ d ∈ A.getD (i + j) []
  | [], [], _, _ => ⟨rfl, by simp, by simp⟩
  | [], _ :: _, _, h => by simp [edgeIn] at h
  | _ :: _, [], _, h => by simp [edgeIn] at h
  | e :: es, d :: ds, i, h => by
    simp only [edgeIn, Bool.and_eq_true, backE, Array.all_eq_true_iff_forall_mem, decide_eq_true_eq, List.all_eq_true, List.contains_eq_mem] at h;obtain ⟨⟨h1, h2⟩, h3⟩ := h;obtain ⟨h4, h5, h6⟩ := edgeIn_spec h3;refine ⟨by simp [h4], ?_, ?_⟩
    · intro j e' hj
      cases j with
      | zero => simp at hj; subst hj; exact h1
      | succ j => intro x hx; have := h5 j e' (by simpa using hj) x hx; omega
    intro j nd hj
    cases j with
    | zero => simp at hj; subst hj; exact h2
    | succ j => intro x hx; have := h6 j nd (by simpa using hj) x hx; rwa [show i + 1 + j = i + (j + 1) from by omega] at this
theorem edges_of {ops : Array Oper} {nds : List (List Nat)} (h : edgeOk 0 (ops.toList.map (·.after)) nds = true) : Edges (ancAll [] (ops.toList.map (·.after))) ops nds := by
  obtain ⟨h1, h2, h3⟩ := edgeIn_spec h;refine ⟨fun i o hi a ha => ?_, fun i o hi x hx => ?_, fun i nd hi d hd => ?_, by simpa using h1⟩
  · have := anc_mem (ops.toList.map (·.after)) [] i o.after (by simp [hi]) a (by simpa using ha);exact this
  · have := h2 i o.after (by simp [hi]) x hx;omega
  have := h3 i nd hi d hd
  rwa [Nat.zero_add] at this
def Good (A : List (List Nat)) (listed : Array Bool) : Prop := ∀ j, listed.getD j false = true → ∀ a ∈ A.getD j [], listed.getD a false = true
theorem Good.ready {A : List (List Nat)} {ops : Array Oper} {nds : List (List Nat)} {listed : Array Bool} (hE : Edges A ops nds) (h : Good A listed) {i : Nat} (hi : i ∈ Region.ready .any ops listed) : ∀ a ∈ A.getD i [], listed.getD a false = true := by
  obtain ⟨_, o, h1, h2⟩ := mem_ready.1 hi;intro a ha;obtain ⟨x, hx, hb, h3⟩ := hE.anc i o h1 a ha;have hon := h2 x hx hb
  rcases h3 with rfl | h3
  · exact hon
  exact h _ hon a h3
theorem Good.set {A : List (List Nat)} {listed : Array Bool} {i : Nat} (h : Good A listed) (hi : ∀ a ∈ A.getD i [], listed.getD a false = true) : Good A (listed.setIfInBounds i true) := by
  intro j hj a ha
  by_cases hij : i = j
  · subst hij; exact getD_set_true (hi a ha)
  rw [getD_set_ne false hij] at hj;exact getD_set_true (h j hj a ha)
def shape : Nat → List Oper → Bool
  | _, [] => true
  | d, o :: os => (o.dst == some d) && shape (d + 1) os
theorem shape_at : ∀ {os : List Oper} {d : Nat}, shape d os = true → ∀ {j : Nat} {o : Oper}, os[j]? = some o → o.dst = some (d + j)
  | [], d, h, j, o, hj => by simp at hj
  | x :: os, d, h, j, o, hj => by
    simp only [shape, Bool.and_eq_true, beq_iff_eq] at h;obtain ⟨h2, h3⟩ := h
    cases j with
    | zero => simp at hj; subst hj; exact h2
    | succ j =>
      rw [shape_at h3 (j := j) (o := o) (by simpa using hj)]; congr 1; omega
def plainO (o : Oper) : Bool := o.guard.isNone
theorem plainO_at {os : List Oper} (h : os.all plainO = true) {j : Nat} {o : Oper} (hj : os[j]? = some o) : o.guard = none := by
  have := List.all_eq_true.1 h o (List.mem_of_getElem? hj)
  simpa [plainO] using this
def allAhead : Nat → Nat → List (List Nat)
  | _, 0 => []
  | k, n + 1 => List.range k :: allAhead (k + 1) n
theorem length_allAhead : ∀ (n k : Nat), (allAhead k n).length = n
  | 0, _ => rfl
  | n + 1, k => by simp [allAhead, length_allAhead n]
theorem allAhead_at : ∀ {n k j : Nat}, j < n → (allAhead k n)[j]? = some (List.range (k + j))
  | 0, _, _, h => by omega
  | n + 1, k, 0, _ => rfl
  | n + 1, k, j + 1, h => by
    rw [allAhead, List.getElem?_cons_succ, allAhead_at (by omega)]; congr 2; omega
def GWp (P : Program) (Q : Exit → Act → World → Prop) (n i : Nat) (o : Oper) (a : Act) (w : World) (K : Act → World → Prop) : Prop :=
  match o.guard with
  | none => OW P o a w K Q
  | some (j, want) => (∃ b, j < i ∧ get a (n + j) = .bool b ∧ (b = want → OW P o a w K Q) ∧ (b ≠ want → K (a.put (some (n + i)) undef) w)) ∨ (j < i ∧ get a (n + j) = undef ∧ K (a.put (some (n + i)) undef) w)
def OpOk (P : Program) (Q : Exit → Act → World → Prop) (l0 : List Rng) (n : Nat) (a0 : Act) (w0 : World) (sps : List Sp) (i : Nat) (o : Oper) (s : Sp) : Prop :=
  ∀ a w, Kept n a0 a → Fr l0 w0 w → (s.wr = true → Fr [] w0 w) → (∀ d ∈ s.need, ∃ u, sps[d]? = some u ∧ u.R (get a (n + d)) w) →
    GWp P Q n i o a w (fun a' w' => ∃ v, a' = a.put (some (n + i)) v ∧ s.R v w' ∧ Fr (if s.wr then l0 else []) w w')
def opsOk (P : Program) (Q : Exit → Act → World → Prop) (l0 : List Rng) (n : Nat) (a0 : Act) (w0 : World) (sps : List Sp) : Nat → List Oper → List Sp → Prop
  | _, [], _ => True
  | _, _, [] => True
  | i, o :: os, s :: ss => OpOk P Q l0 n a0 w0 sps i o s ∧ opsOk P Q l0 n a0 w0 sps (i + 1) os ss
theorem opsOk_at {P : Program} {Q : Exit → Act → World → Prop} {l0 : List Rng} {n : Nat} {a0 : Act} {w0 : World} {sps : List Sp} : ∀ {os : List Oper} {ss : List Sp} {i : Nat}, opsOk P Q l0 n a0 w0 sps i os ss →
    ∀ {j : Nat} {o : Oper} {s : Sp}, os[j]? = some o → ss[j]? = some s → OpOk P Q l0 n a0 w0 sps (i + j) o s
  | [], ss, i, h, j, o, s, hj, hs => by simp at hj
  | _ :: _, [], i, h, j, o, s, hj, hs => by simp at hs
  | x :: os, y :: ss, i, h, j, o, s, hj, hs => by
    cases j with
    | zero => simp at hj hs; subst hj; subst hs; exact h.1
    | succ j =>
      have := opsOk_at h.2 (j := j) (o := o) (s := s) (by simpa using hj) (by simpa using hs)
      rwa [show i + 1 + j = i + (j + 1) from by omega] at this
def Full (l0 : List Rng) (n : Nat) (a0 : Act) (w0 : World) (sps : List Sp) (a : Act) (w : World) : Prop :=
  Kept n a0 a ∧ Fr l0 w0 w ∧ ∀ (i : Nat) (s : Sp), sps[i]? = some s → s.R (get a (n + i)) w
theorem one_uniq {sps : List Sp} (hone : (sps.filter (·.wr)).length ≤ 1) : ∀ (i j : Nat) (s t : Sp), sps[i]? = some s → sps[j]? = some t → s.wr = true → t.wr = true → i = j := by
  induction sps with
  | nil => intro i j s t hi; simp at hi
  | cons x xs ih =>
    intro i j s t hi hj hs ht;have key : ∀ u ∈ xs, u.wr = true → x.wr = true → False := by
      intro u hu hw hx;have : u ∈ xs.filter (·.wr) := List.mem_filter.2 ⟨hu, hw⟩;have := List.length_pos_of_mem this;rw [List.filter_cons, if_pos hx, List.length_cons] at hone;omega
    cases i with
    | zero =>
      cases j with
      | zero => rfl
      | succ j =>
        simp at hi hj
        subst hi;exact (key t (List.mem_of_getElem? hj) ht hs).elim
    | succ i =>
      cases j with
      | zero =>
        simp at hi hj
        subst hj;exact (key s (List.mem_of_getElem? hi) hs ht).elim
      | succ j =>
        congr 1
        refine ih ?_ i j s t (by simpa using hi) (by simpa using hj) hs ht;refine Nat.le_trans ?_ hone;rw [List.filter_cons]; split <;> simp
theorem count_set_false {l : List Bool} {i : Nat} (h : l[i]? = some false) : (l.set i true).count false + 1 = l.count false := by
  induction l generalizing i with
  | nil => simp at h
  | cons x l ih =>
    cases i with
    | zero => simp at h; subst h; simp
    | succ i => simp at h; have := ih h; simp [List.count_cons]; omega
variable {P : Program} {Q : Exit → Act → World → Prop}
theorem getD_both {listed : Array Bool} {i : Nat} (h : i < listed.size) : listed.getD i true = listed.getD i false := by
  simp [Array.getD_eq_getD_getElem?, h]
theorem seq_core {os rest : List Oper} {ops : Array Oper} (hops : ops.toList = os ++ rest) {A : List (List Nat)} {ns : List (List Nat)} (hE : Edges A ops (ns ++ allAhead os.length rest.length)) (hg : rest.all plainO = true) :
    ∀ (r : List Oper) (j fuel : Nat) (listed : Array Bool) (a : Act) (w : World), rest.drop j = r → j ≤ rest.length → r.length ≤ fuel → listed.size = ops.size → Good A listed → (∀ i, i < os.length + j → listed.getD i true = true) →
      (∀ i, os.length + j ≤ i → i < ops.size → listed.getD i true = false) → wpl P Q r a w → wpAny P .any ops Q fuel listed a w := by
  have hsize : ops.size = os.length + rest.length := by rw [← Array.length_toList, hops, List.length_append]
  have hget : ∀ i : Nat, ops[i]? = (os ++ rest)[i]? := fun i => by rw [← hops]; simp
  have hnl : ns.length = os.length := by have := hE.len; rw [List.length_append, length_allAhead] at this; omega
  have hwait : ∀ j, j < rest.length → ∀ d, d < os.length + j → d ∈ A.getD (os.length + j) [] := by
    intro j hj d hd;refine (hE.need (os.length + j) (List.range (os.length + j)) ?_ d (List.mem_range.2 hd)).2;rw [List.getElem?_append_right (by omega), hnl, Nat.add_sub_cancel_left, allAhead_at hj]
  intro r
  induction r with
  | nil =>
    intro j fuel listed a w hr hj hf hs hgd hl hn h;have hjl : rest.length ≤ j := by rwa [List.drop_eq_nil_iff] at hr
    refine wpAny_done ?_ h fuel;rw [List.eq_nil_iff_forall_not_mem];intro i hi;obtain ⟨h2, o, h3, _⟩ := mem_ready.1 hi;have := (Array.getElem?_eq_some_iff.1 h3).1;rw [hl i (by omega)] at h2; cases h2
  | cons o r ih =>
    intro j fuel listed a w hr hj hf hs hgd hl hn h;have hjl : j < rest.length := by
      rcases Nat.lt_or_ge j rest.length with h | h
      · exact h
      rw [List.drop_of_length_le h] at hr; cases hr
    have hoj : rest[j]? = some o := by
      have : (rest.drop j)[0]? = some o := by rw [hr]; rfl
      rw [List.getElem?_drop] at this
      simpa using this
    have hro : ops[os.length + j]? = some o := by rw [hget, List.getElem?_append_right (by omega)]; simpa using hoj
    have hgu := plainO_at hg hoj;have hdrop : rest.drop (j + 1) = r := by
      have : (rest.drop j).drop 1 = r := by rw [hr]; rfl
      rwa [List.drop_drop] at this
    cases fuel with
    | zero => simp at hf
    | succ fuel =>
      have hmem : os.length + j ∈ Region.ready .any ops listed := by
        rw [mem_ready];refine ⟨hn _ (Nat.le_refl _) (by omega), o, hro, fun e he _ => ?_⟩;have hlt := hE.back _ o hro e he;have := hl e.on hlt
        rwa [getD_both (by omega)] at this
      refine ⟨fun h0 => (by rw [h0] at hmem; cases hmem), fun i hi => ?_⟩;have hij : i = os.length + j := by
        obtain ⟨h2, o', h3, _⟩ := mem_ready.1 hi;have hil := (Array.getElem?_eq_some_iff.1 h3).1
        rcases Nat.lt_trichotomy i (os.length + j) with h4 | h4 | h4
        · rw [hl i h4] at h2; cases h2
        · exact h4
        exfalso
        have := hgd.ready hE hi (os.length + j) (by have := hwait (i - os.length) (by omega) (os.length + j) (by omega); rwa [show os.length + (i - os.length) = i from by omega] at this);have hno := hn (os.length + j) (Nat.le_refl _) (by omega);rw [getD_both (by omega), this] at hno; cases hno
      subst hij;have hwd : Region.wanted o (yielded ops a.tmps) = true := by simp [Region.wanted, hgu]
      simp only [wpOp, hro, hwd, if_true]
      left
      refine Oper.upon_mono (fun a' w' h' => ?_) _ (show OW P o a w (wpl P Q r) Q from h).sem;refine ih (j + 1) fuel _ a' w' hdrop (by omega) (by simp at hf; omega) (by simpa using hs) (hgd.set (hgd.ready hE hi)) ?_ ?_ h'
      · intro i hi
        by_cases he : os.length + j = i
        · subst he;have hle : os.length + j < listed.size := by omega
          simp [Array.getD_eq_getD_getElem?, hle]
        rw [getD_set_ne true he]; exact hl i (by omega)
      intro i hi hi2;rw [getD_set_ne true (by omega)]; exact hn i (by omega) hi2
theorem any_core {os rest : List Oper} {ops : Array Oper} (hops : ops.toList = os ++ rest) {sps : List Sp} {n : Nat} {l0 : List Rng} {a0 : Act} {w0 : World} {A : List (List Nat)}
    (hE : Edges A ops (sps.map (·.need) ++ allAhead os.length rest.length)) (hsh : shape n os = true) (hg : rest.all plainO = true)
    (hstab : ∀ s ∈ sps, ∀ v w w', Fr (if s.wr then [] else l0) w w' → s.R v w → s.R v w') (hone : (sps.filter (·.wr)).length ≤ 1)
    (hok : opsOk P Q l0 n a0 w0 sps 0 os sps) (hsz : n + os.length ≤ a0.tmps.size)
    (hlast : ∀ a w, Full l0 n a0 w0 sps a w → wpl P Q rest a w) :
    ∀ (fuel : Nat) (listed : Array Bool) (a : Act) (w : World), listed.size = ops.size → Good A listed → (listed.toList.take os.length).count false + rest.length = fuel → (∀ i, os.length ≤ i → i < ops.size → listed.getD i true = false) →
      Kept n a0 a → Fr l0 w0 w → (∀ i s, sps[i]? = some s → s.wr = true → listed.getD i false = false → Fr [] w0 w) → (∀ i s, sps[i]? = some s → listed.getD i false = true → s.R (get a (n + i)) w) → wpAny P .any ops Q fuel listed a w := by
  have hsize : ops.size = os.length + rest.length := by rw [← Array.length_toList, hops, List.length_append]
  have hlen : os.length = sps.length := by have := hE.len; rw [List.length_append, length_allAhead, List.length_map] at this; omega
  have hget : ∀ i : Nat, ops[i]? = (os ++ rest)[i]? := fun i => by rw [← hops]; simp
  have huniq := one_uniq hone;have hnl : (sps.map (·.need)).length = os.length := by rw [List.length_map, hlen]
  have fin : ∀ (fuel : Nat) (listed : Array Bool) (a : Act) (w : World), listed.size = ops.size → Good A listed → rest.length ≤ fuel → (∀ i, os.length ≤ i → i < ops.size → listed.getD i true = false) → (∀ i, i < os.length → listed.getD i true = true) →
      Kept n a0 a → Fr l0 w0 w → (∀ i s, sps[i]? = some s → listed.getD i false = true → s.R (get a (n + i)) w) → wpAny P .any ops Q fuel listed a w := by
    intro fuel listed a w hs hgd hf hr hl hk hfr hR;refine seq_core hops hE hg rest 0 fuel listed a w (by simp) (Nat.zero_le _) hf hs hgd (fun i hi => hl i (by omega)) (fun i hi => hr i (by omega)) (hlast a w ⟨hk, hfr, fun i s hi => hR i s hi ?_⟩);have hi' : i < os.length := by rw [hlen]; exact (List.getElem?_eq_some_iff.1 hi).1
    rw [← getD_both (by omega)]; exact hl i hi'
  have tr : ∀ listed : Array Bool, listed.size = ops.size → (listed.toList.take os.length).count false = 0 → ∀ i, i < os.length → listed.getD i true = true := by
    intro listed hs hc i hi;have hle : i < listed.size := by omega
    have : listed[i] ≠ false := by
      intro h;have hm : false ∈ listed.toList.take os.length := by
        rw [List.mem_take_iff_getElem];exact ⟨i, by simp; omega, by simpa using h⟩
      have := List.count_pos_iff.2 hm;omega
    simp [Array.getD_eq_getD_getElem?, hle] at this ⊢
    exact this
  intro fuel
  induction fuel with
  | zero =>
    intro listed a w hs hgd hc hr hk hf hW hR;exact fin 0 listed a w hs hgd (by omega) hr (tr listed hs (by omega)) hk hf hR
  | succ fuel ih =>
    intro listed a w hs hgd hc hr hk hf hW hR
    by_cases hcc : (listed.toList.take os.length).count false = 0
    · exact fin _ listed a w hs hgd (by omega) hr (tr listed hs hcc) hk hf hR
    have hun : ∃ j, j < os.length ∧ listed.getD j true = false := by
      have : false ∈ listed.toList.take os.length := List.count_pos_iff.1 (by omega);rw [List.mem_take_iff_getElem] at this;obtain ⟨j, hj, he⟩ := this;have hjl : j < listed.size := by simp at hj; omega
      refine ⟨j, by simp at hj; omega, ?_⟩;simp at he
      simp [Array.getD_eq_getD_getElem?, hjl, he]
    refine ⟨fun h0 => ?_, fun i hi => ?_⟩
    · exfalso
      have hready : ∀ i, i < ops.size → listed.getD i true = true := by
        intro i
        induction i using Nat.strongRecOn with
        | ind i ih2 =>
          intro hi
          rcases hli : listed.getD i true with _ | _
          · exfalso
            have : i ∈ Region.ready .any ops listed := by
              rw [mem_ready];refine ⟨hli, ops[i], by simp [hi], fun e he _ => ?_⟩;have hlt := hE.back i ops[i] (by simp [hi]) e he;have := ih2 e.on hlt (by omega)
              rwa [getD_both (by omega)] at this
            rw [h0] at this
            cases this
          rfl
      obtain ⟨j, h1, h2⟩ := hun;have := hready j (by omega);rw [h2] at this; cases this
    obtain ⟨hli, o, ho, hafter⟩ := mem_ready.1 hi;have hiops : i < ops.size := (Array.getElem?_eq_some_iff.1 ho).1;have hilt : i < listed.size := by omega
    have hio : i < os.length := by
      rcases Nat.lt_or_ge i os.length with h | h
      · exact h
      exfalso
      obtain ⟨j, h1, h2⟩ := hun;have hin : j ∈ A.getD i [] := by
        refine (hE.need i (List.range i) ?_ j (List.mem_range.2 (by omega))).2;rw [List.getElem?_append_right (by omega), hnl, allAhead_at (by omega)]; congr 2; omega
      have := hgd.ready hE hi j hin;rw [getD_both (by omega), this] at h2; cases h2
    have hls : (listed.toList.take os.length)[i]? = some false := by
      rw [List.getElem?_take, if_pos hio];simp [Array.getD_eq_getD_getElem?, hilt] at hli
      simp [hilt, hli]
    have hcount : ((listed.setIfInBounds i true).toList.take os.length).count false + rest.length = fuel := by
      have := count_set_false hls;rw [Array.toList_setIfInBounds, List.take_set];omega
    have hoi : os[i]? = some o := by rw [hget, List.getElem?_append_left hio] at ho; exact ho
    have hd := shape_at hsh hoi;have hsl : i < sps.length := by omega
    have hsi : sps[i]? = some sps[i] := by simp [hsl]
    generalize sps[i] = s at hsi;have hop := opsOk_at hok hoi hsi;rw [Nat.zero_add] at hop;have hgo := hop a w hk hf (fun hsw => hW i s hsi hsw (by rw [← getD_both (by omega)]; exact hli)) (fun d hdn => by
      obtain ⟨h1, h2⟩ := hE.need i s.need (by rw [List.getElem?_append_left (by omega), List.getElem?_map, hsi]; rfl) d hdn;have hds : d < sps.length := by omega
      exact ⟨sps[d], by simp [hds], hR d _ (by simp [hds]) (hgd.ready hE hi d h2)⟩)
    suffices hsuf : ∀ a' w', (∃ v, a' = a.put (some (n + i)) v ∧ s.R v w' ∧ Fr (if s.wr then l0 else []) w w') → wpAny P .any ops Q fuel (listed.setIfInBounds i true) a' w' by
      simp only [wpOp, ho];unfold GWp at hgo
      cases hgg : o.guard with
      | none =>
        simp only [hgg] at hgo;have hw : Region.wanted o (yielded ops a.tmps) = true := by simp [Region.wanted, hgg]
        simp only [hw, if_true];exact .inl (Oper.upon_mono hsuf _ hgo.sem)
      | some g =>
        obtain ⟨j, want⟩ := g;simp only [hgg] at hgo
        rcases hgo with ⟨b, hji, hgb, hy, hno⟩ | ⟨hji, hgu, hno⟩
        rotate_left
        · have hjo : os[j]? = some os[j] := by simp [show j < os.length from by omega]
          have hjd := shape_at hsh hjo;have hjops : ops[j]? = some os[j] := by rw [hget, List.getElem?_append_left (by omega)]; exact hjo
          have hyl : yielded ops a.tmps j = none := by
            have hlt : n + j < a.tmps.size := by have := hk.size; omega
            have := hgu;unfold get at this;rw [Array.getD_eq_getD_getElem?] at this;simp [hlt] at this
            simp [yielded, hjops, hjd, hlt, this, undef]
          have hw : Region.wanted o (yielded ops a.tmps) = false := by simp only [Region.wanted, hgg, hyl]; rfl
          rw [hw];simp only [Bool.false_eq_true, if_false];rw [hd];exact hsuf _ _ hno
        have hyl : yielded ops a.tmps j = some b := by
          have hjo : os[j]? = some os[j] := by simp [show j < os.length from by omega]
          have hjd := shape_at hsh hjo;have hjops : ops[j]? = some os[j] := by rw [hget, List.getElem?_append_left (by omega)]; exact hjo
          have htl : a.tmps[n + j]? = some (.bool b) := by
            have hlt : n + j < a.tmps.size := by have := hk.size; omega
            have := hgb;unfold get at this;rw [Array.getD_eq_getD_getElem?] at this;simp [hlt] at this ⊢
            exact this
          simp [yielded, hjops, hjd, htl]
        have hw : Region.wanted o (yielded ops a.tmps) = (b == want) := by simp only [Region.wanted, hgg, hyl]; cases b <;> cases want <;> rfl
        rw [hw]
        by_cases hbw : b = want
        · simp only [hbw, beq_self_eq_true, if_true];exact .inl (Oper.upon_mono hsuf _ (hy hbw).sem)
        have : (b == want) = false := by cases b <;> cases want <;> first | rfl | exact absurd rfl hbw
        rw [this];simp only [Bool.false_eq_true, if_false];rw [hd];exact hsuf _ _ (hno hbw)
    rintro a' w' ⟨v, rfl, hv, hfv⟩;have hff : Fr l0 w w' := by
      cases hwr : s.wr with
      | true => simpa [hwr] using hfv
      | false => rw [hwr] at hfv; exact Fr.nil hfv
    have hia : n + i < a.tmps.size := by have := hk.size; omega
    refine ih _ _ _ (by simpa using hs) (hgd.set (hgd.ready hE hi)) hcount ?_ (hk.put (by omega) _) (hf.tr hff) ?_ ?_
    · intro j h1 h2;rw [getD_set_ne true (by omega)];exact hr j h1 h2
    · intro j t hj htw hlj
      by_cases hij : i = j
      · subst hij;rw [show (listed.setIfInBounds i true).getD i false = true from by simp [Array.getD_eq_getD_getElem?, hilt]] at hlj
        cases hlj
      rw [getD_set_ne false hij] at hlj
      cases hsw : s.wr with
      | true => exact absurd (huniq i j s t hsi hj hsw htw) hij
      | false => rw [hsw] at hfv; exact (hW j t hj htw hlj).tr (by simpa using hfv)
    intro j t hj hlj
    by_cases hij : i = j
    · subst hij;rw [hsi] at hj;obtain rfl := Option.some.inj hj;rw [gPs hia]; exact hv
    rw [getD_set_ne false hij] at hlj;rw [gR];refine hstab t (List.mem_of_getElem? hj) _ w w' ?_ (hR j t hj hlj)
    cases htw : t.wr with
    | false => simpa using hff
    | true =>
      cases hsw : s.wr with
      | true => exact absurd (huniq i j s t hsi hj hsw htw) hij
      | false => rw [hsw] at hfv; simpa using hfv
def spC (nd : List Nat) (x : Value) : Sp := ⟨nd, false, fun v _ => v = x⟩
def spR (nd : List Nat) (R : Value → World → Prop) : Sp := ⟨nd, false, R⟩
def spW (nd : List Nat) (R : Value → World → Prop) : Sp := ⟨nd, true, R⟩
def Had (sps : List Sp) (n : Nat) (nd : List Nat) (a : Act) (w : World) : Prop := ∀ d ∈ nd, ∃ u, sps[d]? = some u ∧ u.R (get a (n + d)) w
theorem Had.at {sps : List Sp} {n : Nat} {nd : List Nat} {a : Act} {w : World} (h : Had sps n nd a w) {d : Nat} {u : Sp} (hd : d ∈ nd) (hu : sps[d]? = some u) : u.R (get a (n + d)) w := by
  obtain ⟨u', h1, h2⟩ := h d hd;rw [hu] at h1;obtain rfl := Option.some.inj h1;exact h2
theorem Had.c {sps : List Sp} {n : Nat} {nd nd' : List Nat} {a : Act} {w : World} {x : Value} (h : Had sps n nd a w) (d : Nat) (hd : d ∈ nd) (hu : sps[d]? = some (spC nd' x)) : get a (n + d) = x := h.at hd hu
theorem op_c {l0 : List Rng} {n : Nat} {a0 : Act} {w0 : World} {sps : List Sp} {i : Nat} {o : Oper} {nd : List Nat} {x : Value}
    (h : ∀ a w, Kept n a0 a → Fr l0 w0 w → Had sps n nd a w → ∀ K : Act → World → Prop, K (a.put (some (n + i)) x) w → OW P o a w K Q) (hg : o.guard = none := by rfl) : OpOk P Q l0 n a0 w0 sps i o (spC nd x) :=
  fun a w hk hf _ hd => by unfold GWp; rw [hg]; exact h a w hk hf hd _ ⟨x, rfl, rfl, Fr.refl _ _⟩
theorem op_r {l0 : List Rng} {n : Nat} {a0 : Act} {w0 : World} {sps : List Sp} {i : Nat} {o : Oper} {nd : List Nat} {R : Value → World → Prop}
    (h : ∀ a w, Kept n a0 a → Fr l0 w0 w → Had sps n nd a w → ∀ K : Act → World → Prop, (∀ x w', R x w' → Fr [] w w' → K (a.put (some (n + i)) x) w') → OW P o a w K Q) (hg : o.guard = none := by rfl) : OpOk P Q l0 n a0 w0 sps i o (spR nd R) :=
  fun a w hk hf _ hd => by unfold GWp; rw [hg]; exact h a w hk hf hd _ fun x _ hx hf' => ⟨x, rfl, hx, hf'⟩
theorem op_w {l0 : List Rng} {n : Nat} {a0 : Act} {w0 : World} {sps : List Sp} {i : Nat} {o : Oper} {nd : List Nat} {R : Value → World → Prop}
    (h : ∀ a w, Kept n a0 a → Fr l0 w0 w → Had sps n nd a w → ∀ K : Act → World → Prop, (∀ x w', R x w' → Fr l0 w w' → K (a.put (some (n + i)) x) w') → OW P o a w K Q) (hg : o.guard = none := by rfl) : OpOk P Q l0 n a0 w0 sps i o (spW nd R) :=
  fun a w hk hf _ hd => by unfold GWp; rw [hg]; exact h a w hk hf hd _ fun x _ hx hf' => ⟨x, rfl, hx, hf'⟩
theorem op_gy {l0 : List Rng} {n : Nat} {a0 : Act} {w0 : World} {sps : List Sp} {i j : Nat} {o : Oper} {s : Sp} {want : Bool} (hg : o.guard = some (j, want)) (hj : j < i) (hjn : ∀ a w, Had sps n s.need a w → get a (n + j) = .bool want)
    (h : OpOk P Q l0 n a0 w0 sps i { o with guard := none } s) : OpOk P Q l0 n a0 w0 sps i o s :=
  fun a w hk hf hw hd => by
    have := h a w hk hf hw hd;unfold GWp at this ⊢;rw [hg];exact .inl ⟨want, hj, hjn a w hd, fun _ => ⟨(show OW P { o with guard := none } a w _ Q from this).sem⟩, fun hne => absurd rfl hne⟩
theorem op_gn {l0 : List Rng} {n : Nat} {a0 : Act} {w0 : World} {sps : List Sp} {i j : Nat} {o : Oper} {nd : List Nat} {want : Bool} (hg : o.guard = some (j, want)) (hj : j < i) (hjn : ∀ a w, Had sps n nd a w → get a (n + j) = .bool !want) :
    OpOk P Q l0 n a0 w0 sps i o (spC nd undef) :=
  fun a w hk hf _ hd => by
    unfold GWp;rw [hg];exact .inl ⟨!want, hj, hjn a w hd, fun h => by cases want <;> simp at h, fun _ => ⟨undef, rfl, rfl, Fr.refl _ _⟩⟩
theorem op_gu {l0 : List Rng} {n : Nat} {a0 : Act} {w0 : World} {sps : List Sp} {i j : Nat} {o : Oper} {nd : List Nat} {want : Bool} (hg : o.guard = some (j, want)) (hj : j < i) (hjn : ∀ a w, Had sps n nd a w → get a (n + j) = undef) :
    OpOk P Q l0 n a0 w0 sps i o (spC nd undef) :=
  fun a w hk hf _ hd => by
    unfold GWp;rw [hg];exact .inr ⟨hj, hjn a w hd, undef, rfl, rfl, Fr.refl _ _⟩
def Lasts (l : List Rng) (R : Value → World → Prop) : Prop := ∀ v w w', Fr l w w' → R v w → R v w'
def lastsAll (l0 : List Rng) : List Sp → Prop
  | [] => True
  | s :: ss => Lasts (if s.wr then [] else l0) s.R ∧ lastsAll l0 ss
theorem lastsAll_at {l0 : List Rng} : ∀ {ss : List Sp}, lastsAll l0 ss → ∀ s ∈ ss, ∀ v w w', Fr (if s.wr then [] else l0) w w' → s.R v w → s.R v w'
  | [], _, s, hs => by cases hs
  | x :: ss, h, s, hs => by
    rcases List.mem_cons.1 hs with rfl | hs
    · exact h.1
    exact lastsAll_at h.2 s hs
theorem lCc (l : List Rng) (nd : List Nat) (x : Value) : Lasts (if (spC nd x).wr then [] else l) (spC nd x).R := fun _ _ _ _ h => h
theorem wp_drawR {id : Nat} {os rest : List Oper} {a0 : Act} {w0 : World} (sps : List Sp) (n : Nat) (l0 : List Rng) (hm : P.follows .mixedOrders = true)
    (he : edgeOk 0 ((os ++ rest).map (·.after)) (sps.map (·.need) ++ allAhead os.length rest.length) = true) (hs : shape n os = true) (hg : rest.all plainO = true)
    (hone : (sps.filter (·.wr)).length ≤ 1) (hsz : n + os.length ≤ a0.tmps.size)
    (hstab : lastsAll l0 sps)
    (hok : opsOk P Q l0 n a0 w0 sps 0 os sps)
    (hlast : ∀ a w, Kept n a0 a → Fr l0 w0 w → Had sps n (List.range sps.length) a w → wpl P Q rest a w) :
    (Code.region id ⟨os ++ rest⟩ true).wp P Q a0 w0 := by
  refine wp_region_any hm ?_;have hf : Fr l0 w0 { w0 with drawn := w0.drawn + 1 } := Fr.drew l0 w0;have hrep : ∀ i, (Array.replicate (os.length + rest.length) false).getD i true = false ∨ os.length + rest.length ≤ i := by
    intro i
    rcases Nat.lt_or_ge i (os.length + rest.length) with h | h
    · left; rw [Array.getD_eq_getD_getElem?, Array.getElem?_replicate]; simp [h]
    exact .inr h
  have hrep2 : ∀ i, (Array.replicate (os.length + rest.length) false).getD i false = true → False := by
    intro i h;rw [Array.getD_eq_getD_getElem?, Array.getElem?_replicate] at h
    split at h <;> simp at h
  have hE := edges_of (ops := ⟨os ++ rest⟩) he;refine any_core (os := os) (rest := rest) (ops := ⟨os ++ rest⟩) (a0 := a0) (w0 := w0) rfl hE hs hg (lastsAll_at hstab) hone hok hsz (fun a w h => hlast a w h.1 h.2.1 fun d hd => ?_) _ _ a0 _ (by simp) ?_ (by simp) ?_ (Kept.refl _ _) hf (fun _ _ _ _ _ => Fr.drew [] w0) ?_
  · have hd' := List.mem_range.1 hd;exact ⟨sps[d], by simp [hd'], h.2.2 d _ (by simp [hd'])⟩
  · intro j hj;simp only [List.size_toArray, List.length_append] at hj;exact (hrep2 j hj).elim
  · intro i h1 h2;simp only [List.size_toArray, List.length_append] at h2 ⊢
    rcases hrep i with h | h
    · exact h
    omega
  intro i s hi h;simp only [List.size_toArray, List.length_append] at h;exact (hrep2 i h).elim
theorem wp_drawE {id : Nat} {os : List Oper} {o : Oper} {a0 : Act} {w0 : World} (sps : List Sp) (n : Nat) (l0 : List Rng) (hm : P.follows .mixedOrders = true)
    (he : edgeOk 0 ((os ++ [o]).map (·.after)) (sps.map (·.need) ++ [List.range os.length]) = true) (hs : shape n os = true) (hg : o.guard = none)
    (hone : (sps.filter (·.wr)).length ≤ 1) (hsz : n + os.length ≤ a0.tmps.size)
    (hstab : lastsAll l0 sps)
    (hok : opsOk P Q l0 n a0 w0 sps 0 os sps)
    (hlast : ∀ a w, Kept n a0 a → Fr l0 w0 w → Had sps n (List.range sps.length) a w → OW P o a w (Q .normal) Q) :
    (Code.region id ⟨os ++ [o]⟩ true).wp P Q a0 w0 :=
  wp_drawR (rest := [o]) sps n l0 hm he hs (by simp [plainO, hg]) hone hsz hstab hok fun a w h1 h2 h3 => hlast a w h1 h2 h3
theorem wp_drawE0 {id : Nat} {os : List Oper} {a0 : Act} {w0 : World} (sps : List Sp) (n : Nat) (l0 : List Rng) (hm : P.follows .mixedOrders = true)
    (he : edgeOk 0 (os.map (·.after)) (sps.map (·.need)) = true) (hs : shape n os = true)
    (hone : (sps.filter (·.wr)).length ≤ 1) (hsz : n + os.length ≤ a0.tmps.size)
    (hstab : lastsAll l0 sps)
    (hok : opsOk P Q l0 n a0 w0 sps 0 os sps)
    (hlast : ∀ a w, Kept n a0 a → Fr l0 w0 w → Had sps n (List.range sps.length) a w → Q .normal a w) :
    (Code.region id ⟨os⟩ true).wp P Q a0 w0 := by
  have := wp_drawR (id := id) (os := os) (rest := []) sps n l0 hm (by simpa [allAhead] using he) hs rfl hone hsz hstab hok hlast
  simpa using this
end Go.Kq

namespace Go.Kq
open Go Go.Proofs
def Ty.one : Ty → Bool
  | .uuid => false
  | .st _ => false
  | _ => true
theorem Ty.one_size {t : Ty} (h : t.one = true) : t.size = 1 := by cases t <;> simp_all [Ty.one, Ty.size]
theorem Octs.oneCell {w : World} {A : Nat → Prop} {v : Value} {x : Option (List UInt8)} (h : Octs w A v x) : v.oneCell' = true := by
  rcases h with ⟨rfl, _⟩ | ⟨_, _, _, _, _, rfl, _⟩ <;> rfl
theorem Rep.oneCell {w : World} {A : Nat → Prop} {t : Ty} {v : Value} {x : V} (h : Rep w A t [v] x) (ho : t.one = true) : v.oneCell' = true := by
  cases t with
  | int k => obtain ⟨i, h1, _⟩ := h; simp at h1; subst h1; rfl
  | bool => obtain ⟨i, h1, _⟩ := h; simp at h1; subst h1; rfl
  | f64 => obtain ⟨i, h1, _⟩ := h; simp at h1; subst h1; rfl
  | str => obtain ⟨i, h1, _⟩ := h; simp at h1; subst h1; rfl
  | pstr => rcases h with ⟨h1, _⟩ | ⟨_, _, _, _, h1, _⟩ <;> (simp at h1; subst h1; rfl)
  | bytes => obtain ⟨v, y, h1, h2, _⟩ := h; simp at h1; subst h1; exact h2.oneCell
  | uuid => simp [Ty.one] at ho
  | tags => rcases h with ⟨h1, _⟩ | ⟨_, _, _, _, _, h1, _⟩ <;> (simp at h1; subst h1; rfl)
  | arr t => rcases h with ⟨h1, _⟩ | ⟨_, _, _, _, _, h1, _⟩ <;> (simp at h1; subst h1; rfl)
  | st fs => simp [Ty.one] at ho
  | ptr t => rcases h with ⟨h1, _⟩ | ⟨_, _, _, _, h1, _⟩ <;> (simp at h1; subst h1; rfl)
end Go.Kq

namespace Go.Kq
open Go Go.Proofs
def idxOf : Value → Nat
  | .int _ n => n.toNat
  | _ => 0
theorem inBlock_then {id : Nat} {K : Act → World → Prop} {Q : Exit → Act → World → Prop} {e : Exit} {a : Act} {w : World}
    (h : Exit.then K (Exit.inBlock id (Exit.then K Q)) e a w) : Exit.inBlock id (Exit.then K Q) e a w := by
  cases e <;> exact h
end Go.Kq

namespace Go.Kq
open Go Go.Proofs
structure DefM (P : Program) (f : FuncId) (tys : List Ty) (d : List V → List V) : Prop where
  enters : Enters P f
  call : ∀ w b o z xs, w.rangeAt b o z → w.there b o z.length → Reps w NoFoot tys z xs → Calls P f #[.pointer (some ⟨b, o, none⟩)] w fun e w' =>
    ∃ x, e = .returned x ∧ (∃ z', w'.rangeAt b o z' ∧ Reps w' NoFoot tys z' (d xs)) ∧ Fr [⟨b, o, o + z.length⟩] w w'
end Go.Kq

namespace Go.Kq
open Go Go.Proofs
theorem tId {Q : Exit → Act → World → Prop} {c : Code} {P : Program} {a : Act} {w : World} (h : c.wp P (Exit.then (Q .normal) Q) a w) : c.wp P Q a w :=
  wp_mono h fun e _ _ h => by cases e <;> exact h
variable {P : Program} {a : Act} {w : World} {K : Act → World → Prop} {Q : Exit → Act → World → Prop}
theorem wS {P : Program} {Q : Exit → Act → World → Prop} {a : Act} {w : World} {y : Code} {id : Nat} {l : List Oper} (h : ∀ K : Act → World → Prop, (∀ a w, Code.wp P y Q a w → K a w) → wpl P (Exit.then K Q) l a w) (hg : unguarded l = true := by rfl) : Code.wp P (Code.seq (Code.region id ⟨l⟩ false) y) Q a w := wp_seq_k fun K hK => wp_reg (h K hK) hg
theorem wT {P : Program} {Q : Exit → Act → World → Prop} {a : Act} {w : World} {y : Code} {id : Nat} {l : List Oper} (h : ∀ K : Act → World → Prop, (∀ a w, Code.wp P y (Exit.then (Q .normal) Q) a w → K a w) → wpl P (Exit.then K (Exit.then (Q .normal) Q)) l a w) (hg : unguarded l = true := by rfl) : Code.wp P (Code.seq (Code.region id ⟨l⟩ false) y) Q a w := tId (wS h hg)
end Go.Kq

namespace Go.Kq
open Go Go.Proofs
theorem results_one {P : Program} {fn : Func} {t : Nat} {a : Act} {w : World} (h : fn.results = #[.tmp t]) : (results fn a.tmps).run P w = .ok (get a t) w := by
  simp [results, h, get]
theorem gAr {args : Array Value} {n t : Nat} {d : List Deferred} {v : Value} (h : args[t]? = some v) : get { tmps := args ++ Array.replicate n undef, defers := d } t = v := by
  have hl : t < args.size := (Array.getElem?_eq_some_iff.1 h).1;simp only [get, Array.getD_eq_getD_getElem?];rw [Array.getElem?_append_left hl, h]; rfl
theorem tUp {Q : Exit → Act → World → Prop} {c : Code} {P : Program} {a : Act} {w : World} (h : c.wp P Q a w) : c.wp P (Exit.then (Q .normal) Q) a w :=
  wp_mono h fun e _ _ h => by cases e <;> exact h
end Go.Kq

namespace Go.Kq
open Go Go.Proofs
theorem def_skip {P : Program} {f : FuncId} {fn : Func} {tys : List Ty} (hf : P.funcs[f]? = some fn) (hname : (fn.name == "runtime.NumGoroutine") = false) (hb : fn.body = some .skip) (hr : fn.results = #[]) : DefM P f tys id := by
  refine ⟨enters_of hf hname hb, ?_⟩;intro w b o z xs hz ht hr';refine calls_of_wp hf hb (wp_skip ?_);refine ⟨rfl, .tuple #[], by simp [results, hr], _, rfl, ⟨z, hz, hr'⟩, Fr.refl _ _⟩
def valEq : Value → Value → Bool
  | .bool a, .bool b => a == b
  | .int j a, .int k b => j == k && a == b
  | .float j a, .float k b => j == k && a == b
  | .string a, .string b => a.data.toList == b.data.toList
  | .pointer none, .pointer none => true
  | .slice none a b, .slice none c d => a == c && b == d
  | .map none, .map none => true
  | .nilFunc, .nilFunc => true
  | .nilIface, .nilIface => true
  | _, _ => false
theorem valEq_eq {a b : Value} (h : valEq a b = true) : a = b := by
  cases a <;> cases b <;> first | (simp [valEq] at h; done) | skip
  · simp [valEq] at h; subst h; rfl
  · simp [valEq] at h; obtain ⟨rfl, rfl⟩ := h; rfl
  · simp [valEq] at h; obtain ⟨rfl, rfl⟩ := h; rfl
  · rename_i s t; simp [valEq] at h; cases s; cases t; simp at h; subst h; rfl
  · rename_i x y; cases x <;> cases y <;> simp [valEq] at h; rfl
  · rename_i x _ _ y _ _; cases x <;> cases y <;> simp [valEq] at h; obtain ⟨rfl, rfl⟩ := h; rfl
  · rename_i x y; cases x <;> cases y <;> simp [valEq] at h; rfl
  · rfl
  rfl
def valsEq : List Value → List Value → Bool
  | [], [] => true
  | a :: ar, b :: br => valEq a b && valsEq ar br
  | _, _ => false
theorem valsEq_eq : ∀ {a b : List Value}, valsEq a b = true → a = b
  | [], [], _ => rfl
  | a :: ar, b :: br, h => by
    simp only [valsEq, Bool.and_eq_true] at h;rw [valEq_eq h.1, valsEq_eq h.2]
  | [], _ :: _, h => by simp [valsEq] at h
  | _ :: _, [], h => by simp [valsEq] at h
def zeroB (P : Program) (e : TypeId) (z : List Value) : Bool := match P.info? e with
  | some i => (match i.zero with | some v => valsEq v.cells.toList z | none => false)
  | none => false
theorem zeroB_is {P : Program} {e : TypeId} {z : List Value} (h : zeroB P e z = true) : zeroIs P e z := by
  unfold zeroB at h
  cases hi : P.info? e with
  | none => simp [hi] at h
  | some i =>
    simp only [hi] at h
    cases hz : i.zero with
    | none => simp [hz] at h
    | some v => simp only [hz] at h; exact ⟨i, v, hi, hz, valsEq_eq h⟩
def zeroVB (P : Program) (e : TypeId) (z : Value) : Bool := match P.info? e with
  | some i => (match i.zero with | some v => valEq v z | none => false)
  | none => false
theorem zeroVB_is {P : Program} {e : TypeId} {z : Value} (h : zeroVB P e z = true) : zeroOf P e z := by
  unfold zeroVB at h
  cases hi : P.info? e with
  | none => simp [hi] at h
  | some i =>
    simp only [hi] at h
    cases hz : i.zero with
    | none => simp [hz] at h
    | some v => simp only [hz] at h; exact ⟨i, hi, by rw [hz, valEq_eq h]⟩
def szIs (P : Program) (t n : Nat) : Bool := match P.info? t with | some i => i.size == n | none => false
theorem szIs_eq {P : Program} {t n : Nat} (h : szIs P t n = true) : ∃ i, P.info? t = some i ∧ i.size = n := by
  unfold szIs at h
  cases hi : P.info? t with
  | none => simp [hi] at h
  | some i => simp [hi] at h; exact ⟨i, rfl, h⟩
end Go.Kq

namespace Go.Kq
open Go Go.Proofs
inductive T where
  | mk (n : Int) (s : List UInt8) (nl : Bool) (l : List T) (u : List (Nat × List UInt8))
  deriving Inhabited
def T.zero : T := .mk 0 [] false [] []
theorem Void.one {v : Value} (h : Void v) : v.oneCell' = true := by obtain ⟨a, rfl⟩ := h; rfl
def OctE (w : World) (A : Nat → Prop) (v : Value) (s : List UInt8) : Prop := (∃ x, Octs w A v x ∧ x.getD [] = s) ∨ (Void v ∧ s = [])
theorem OctsV.octE {w : World} {A : Nat → Prop} {v : Value} {x : Option (List UInt8)} (h : OctsV w A v x) : OctE w A v (x.getD []) := by
  rcases h with h | ⟨h, rfl⟩
  · exact .inl ⟨x, h, rfl⟩
  exact .inr ⟨h, rfl⟩
theorem OctE.kept {w w' : World} {A A' : Nat → Prop} {l : List Rng} {v : Value} {x : List UInt8} (h : OctE w A v x) (hf : Fr l w w') (hl : ∀ r ∈ l, ¬ A r.b) (hA : ∀ b, A b → A' b) : OctE w' A' v x := by
  rcases h with ⟨y, h1, h2⟩ | h
  · exact .inl ⟨y, h1.kept hf hl hA, h2⟩
  exact .inr h
theorem OctE.nil {w : World} {A : Nat → Prop} : OctE w A (.slice none 0 0) [] := .inl ⟨none, .inl ⟨rfl, rfl⟩, rfl⟩
theorem OctE.one {w : World} {A : Nat → Prop} {v : Value} {x : List UInt8} (h : OctE w A v x) : v.oneCell' = true := by
  rcases h with ⟨y, h | ⟨_, _, _, _, _, h, _⟩, _⟩ | h
  · rw [h.1]; rfl
  · rw [h]; rfl
  exact h.1.one
def TagsR (w : World) (A : Nat → Prop) (v : Value) (u : List (Nat × List UInt8)) : Prop :=
  ((v = .slice none 0 0 ∨ Void v) ∧ u = []) ∨ ∃ b o cap, A b ∧ v = .slice (some ⟨b, o, none⟩) u.length cap ∧ (u.length ≤ cap ∧ u.length ≤ 4294967296) ∧
    ∀ (i k : Nat) (x : List UInt8), u[i]? = some (k, x) → ∃ xv, k < 4294967296 ∧ w.rangeAt b (o + i * 2) [.int .u32 k, xv] ∧ OctE w A xv x
theorem TagsR.kept {w w' : World} {A A' : Nat → Prop} {l : List Rng} {v : Value} {x : List (Nat × List UInt8)} (h : TagsR w A v x) (hf : Fr l w w') (hl : ∀ r ∈ l, ¬ A r.b) (hA : ∀ b, A b → A' b) : TagsR w' A' v x := by
  rcases h with h | ⟨b, o, cap, hb, h1, h2, h3⟩
  · exact .inl h
  refine .inr ⟨b, o, cap, hA b hb, h1, h2, fun i k x hi => ?_⟩;obtain ⟨xv, h4, h5, h6⟩ := h3 i k x hi;exact ⟨xv, h4, hf.range h5 (fun r hr => .inl fun e => hl r hr (e ▸ hb)), h6.kept hf hl hA⟩
theorem TagsR.one {w : World} {A : Nat → Prop} {v : Value} {x : List (Nat × List UInt8)} (h : TagsR w A v x) : v.oneCell' = true := by
  rcases h with h | ⟨_, _, _, _, h, _⟩
  · rcases h.1 with h | h
    · rw [h]; rfl
    exact h.one
  rw [h]; rfl
inductive RepT (w : World) (A : Nat → Prop) : List Value → T → Prop where
  | nil {n : Int} {sv : Value} {s : List UInt8} {nl : Bool} {uv : Value} {u : List (Nat × List UInt8)} (hn : -9223372036854775808 ≤ n ∧ n ≤ 9223372036854775807) (hs : OctE w A sv s) (hu : TagsR w A uv u) :
      RepT w A [.int .i64 n, sv, .bool nl, .slice none 0 0, uv] (.mk n s nl [] u)
  | em {n : Int} {sv : Value} {s : List UInt8} {nl : Bool} {uv : Value} {u : List (Nat × List UInt8)} (a : Addr) (hn : -9223372036854775808 ≤ n ∧ n ≤ 9223372036854775807) (hs : OctE w A sv s) (hu : TagsR w A uv u) :
      RepT w A [.int .i64 n, sv, .bool nl, .slice (some a) 0 0, uv] (.mk n s nl [] u)
  | sl {n : Int} {sv : Value} {s : List UInt8} {nl : Bool} {uv : Value} {u : List (Nat × List UInt8)} {b o cap : Nat} {l : List T} (es : Nat → List Value) (hn : -9223372036854775808 ≤ n ∧ n ≤ 9223372036854775807) (hs : OctE w A sv s) (hu : TagsR w A uv u)
      (hb : A b) (hc : l.length ≤ cap ∧ l.length ≤ 4294967296) (hr : ∀ i y, l[i]? = some y → w.rangeAt b (o + i * 5) (es i)) (hes : ∀ i y, l[i]? = some y → RepT w A (es i) y) :
      RepT w A [.int .i64 n, sv, .bool nl, .slice (some ⟨b, o, none⟩) l.length cap, uv] (.mk n s nl l u)
theorem RepT.kept {w w' : World} {A A' : Nat → Prop} {l : List Rng} {cs : List Value} {t : T} (h : RepT w A cs t) (hf : Fr l w w') (hl : ∀ r ∈ l, ¬ A r.b) (hA : ∀ b, A b → A' b) : RepT w' A' cs t := by
  induction h with
  | nil hn hs hu => exact .nil hn (hs.kept hf hl hA) (hu.kept hf hl hA)
  | em a hn hs hu => exact .em a hn (hs.kept hf hl hA) (hu.kept hf hl hA)
  | sl es hn hs hu hb hc hr _ ih => exact .sl es hn (hs.kept hf hl hA) (hu.kept hf hl hA) (hA _ hb) hc (fun i y hi => hf.range (hr i y hi) (fun r hr => .inl fun e => hl r hr (e ▸ hb))) ih
theorem RepT.length {w : World} {A : Nat → Prop} {cs : List Value} {t : T} (h : RepT w A cs t) : cs.length = 5 := by cases h <;> rfl
theorem RepT.ones {w : World} {A : Nat → Prop} {cs : List Value} {t : T} (h : RepT w A cs t) : ∀ u ∈ cs, u.oneCell' = true := by
  cases h with
  | nil hn hs hu => intro u h; simp at h; rcases h with rfl | rfl | rfl | rfl | rfl <;> first | rfl | exact hs.one | exact hu.one
  | em a hn hs hu => intro u h; simp at h; rcases h with rfl | rfl | rfl | rfl | rfl <;> first | rfl | exact hs.one | exact hu.one
  | sl es hn hs hu => intro u h; simp at h; rcases h with rfl | rfl | rfl | rfl | rfl <;> first | rfl | exact hs.one | exact hu.one
def Things (w : World) (A : Nat → Prop) (v : Value) (l : List T) : Prop :=
  ((v = .slice none 0 0 ∨ Void v) ∧ l = []) ∨ ∃ b o cap, A b ∧ v = .slice (some ⟨b, o, none⟩) l.length cap ∧ (l.length ≤ cap ∧ l.length ≤ 4294967296) ∧ ∃ es : Nat → List Value, (∀ i y, l[i]? = some y → w.rangeAt b (o + i * 5) (es i)) ∧ ∀ i y, l[i]? = some y → RepT w A (es i) y
theorem Things.one {w : World} {A : Nat → Prop} {v : Value} {x : List T} (h : Things w A v x) : v.oneCell' = true := by
  rcases h with h | ⟨_, _, _, _, h, _⟩
  · rcases h.1 with h | h
    · rw [h]; rfl
    exact h.one
  rw [h]; rfl
theorem repT_iff {w : World} {A : Nat → Prop} {cs : List Value} {n : Int} {s : List UInt8} {nl : Bool} {l : List T} {u : List (Nat × List UInt8)} : RepT w A cs (.mk n s nl l u) ↔
    ∃ sv lv uv, cs = [.int .i64 n, sv, .bool nl, lv, uv] ∧ (-9223372036854775808 ≤ n ∧ n ≤ 9223372036854775807) ∧ OctE w A sv s ∧ Things w A lv l ∧ TagsR w A uv u := by
  constructor
  · intro h
    cases h with
    | nil hn hs hu => exact ⟨_, _, _, rfl, hn, hs, .inl ⟨.inl rfl, rfl⟩, hu⟩
    | em a hn hs hu => exact ⟨_, _, _, rfl, hn, hs, .inl ⟨.inr ⟨a, rfl⟩, rfl⟩, hu⟩
    | sl es hn hs hu hb hc hr hes => exact ⟨_, _, _, rfl, hn, hs, .inr ⟨_, _, _, hb, rfl, hc, es, hr, hes⟩, hu⟩
  rintro ⟨sv, lv, uv, rfl, hn, hs, hl, hu⟩
  rcases hl with ⟨rfl | ⟨a, rfl⟩, rfl⟩ | ⟨b, o, cap, hb, rfl, hc, es, hr, hes⟩
  · exact .nil hn hs hu
  · exact .em a hn hs hu
  exact .sl es hn hs hu hb hc hr hes
theorem Things.kept {w w' : World} {A A' : Nat → Prop} {l : List Rng} {v : Value} {x : List T} (h : Things w A v x) (hf : Fr l w w') (hl : ∀ r ∈ l, ¬ A r.b) (hA : ∀ b, A b → A' b) : Things w' A' v x := by
  rcases h with h | ⟨b, o, cap, hb, h1, h2, es, h3, h4⟩
  · exact .inl h
  exact .inr ⟨b, o, cap, hA b hb, h1, h2, es, fun i y hi => hf.range (h3 i y hi) (fun r hr => .inl fun e => hl r hr (e ▸ hb)), fun i y hi => (h4 i y hi).kept hf hl hA⟩
def zT : List Value := [.int .i64 0, .slice none 0 0, .bool false, .slice none 0 0, .slice none 0 0]
theorem repT_zero {w : World} {A : Nat → Prop} : RepT w A zT .zero := .nil (by omega) .nil (.inl ⟨.inl rfl, rfl⟩)
def flatB (P : Program) (t : TypeId) (z : List Value) : Bool :=
  (match P.info? t with | some i => (i.size == z.length) && (match i.zero with | some (.agg c) => valsEq c.toList z | _ => false) | none => false) &&
  (match P.underlying t with | some (.struct fs) => (fs.size == z.length) && (List.range fs.size).all (fun k => match fs[k]? with | some f => f.offset == k && szIs P f.type 1 | none => false) | _ => false)
structure Flat (P : Program) (t : TypeId) (z : List Value) : Prop where
  zero : zeroOf P t (.agg z.toArray)
  size : (P.info? t).map (·.size) = some z.length
  fs : ∃ fs : Array Field, P.underlying t = some (.struct fs) ∧ fs.size = z.length ∧ ∀ (k : Nat) (f : Field), fs[k]? = some f → f.offset = k ∧ ∃ i, P.info? f.type = some i ∧ i.size = 1
theorem fBi {P : Program} {t : TypeId} {z : List Value} (h : flatB P t z = true) : Flat P t z := by
  simp only [flatB, Bool.and_eq_true] at h;obtain ⟨h1, h2⟩ := h;have h3 : zeroOf P t (.agg z.toArray) ∧ (P.info? t).map (·.size) = some z.length := by
    cases hi : P.info? t with
    | none => simp [hi] at h1
    | some i =>
      simp only [hi, Bool.and_eq_true, beq_iff_eq] at h1
      cases hz : i.zero with
      | none => simp [hz] at h1
      | some v =>
        simp only [hz] at h1;obtain ⟨h0, h1⟩ := h1
        cases v <;> simp only [] at h1 <;> first | (simp at h1; done) | skip
        rename_i c
        have := valsEq_eq h1;refine ⟨⟨i, hi, ?_⟩, by simp [h0]⟩;rw [hz, ← this]
  refine ⟨h3.1, h3.2, ?_⟩
  cases hu : P.underlying t with
  | none => simp [hu] at h2
  | some d =>
    cases d <;> simp only [hu] at h2 <;> first | (simp at h2; done) | skip
    rename_i fs
    simp only [Bool.and_eq_true, beq_iff_eq, List.all_eq_true, List.mem_range] at h2;refine ⟨fs, rfl, h2.1, fun k f hf => ?_⟩;have := h2.2 k (Array.getElem?_eq_some_iff.1 hf).1;simp only [hf, Bool.and_eq_true, beq_iff_eq] at this;exact ⟨this.1, szIs_eq this.2⟩
theorem run_mapM_list {α β : Type} {P : Program} {w : World} (f : α → Sem β) (g : α → β) : ∀ (l : List α), (∀ x ∈ l, (f x).run P w = .ok (g x) w) → (l.mapM f).run P w = .ok (l.map g) w
  | [], _ => by simp
  | x :: l, h => by
    have h1 := h x (by simp);have h2 := run_mapM_list f g l (fun y hy => h y (by simp [hy]));simp [h1, h2]
theorem run_mapM {α β : Type} {P : Program} {w : World} (f : α → Sem β) (g : α → β) (l : Array α) (h : ∀ x ∈ l, (f x).run P w = .ok (g x) w) : (l.mapM f).run P w = .ok (l.map g) w := by
  rw [Array.mapM_eq_mapM_toList];have := run_mapM_list f g l.toList (by simpa using h);simp [this]
  apply Array.ext'
  simp
theorem one_cells {v : Value} (h : v.oneCell' = true) : v.cells = #[v] := by cases v <;> first | rfl | (simp [Value.oneCell'] at h)
def laid : List Value → List (Nat × Value) → List Value
  | z, [] => z
  | z, (k, v) :: r => laid (z.set k v) r
theorem fill_flat {place : Nat → Option (Nat × Nat)} {n : Nat} (hp : ∀ k, k < n → place k = some (k, 1)) : ∀ (ps : List (Nat × Value)) (z : List Value), z.length = n → (∀ p ∈ ps, p.1 < n ∧ p.2.oneCell' = true) →
    Instr.fill place z.toArray ps = some (laid z ps).toArray
  | [], z, _, _ => by rw [Instr.fill.eq_1]; rfl
  | (k, v) :: r, z, hz, h => by
    obtain ⟨h1, h2⟩ := h (k, v) (by simp);simp only at h1 h2;rw [Instr.fill.eq_2, hp k h1];simp only [one_cells h2];rw [if_neg (by simp; omega)];have := fill_flat hp r (z.set k v) (by simpa using hz) (fun p hp => h p (by simp [hp]));rw [laid, ← this]
    congr 1
    simp
theorem run_build {P : Program} {t : TypeId} {z : List Value} {w : World} {ps : List (Nat × Value)} (h : Flat P t z) (hp : ∀ p ∈ ps, p.1 < z.length ∧ p.2.oneCell' = true) :
    (Instr.build t ps.toArray).run P w = .ok (.agg (laid z ps).toArray) w := by
  obtain ⟨⟨i, hi, hz⟩, _, fs, hu, hs, hf⟩ := h;have hm : (fs.mapM (fun f : Field => (do let n ← sizeOf f.type; pure (f.offset, n) : Sem (Nat × Nat)))).run P w = .ok (fs.map fun f : Field => (f.offset, 1)) w := by
    refine run_mapM _ _ fs fun f hfm => ?_;obtain ⟨k, hk⟩ := Array.getElem?_of_mem hfm;obtain ⟨_, j, hj, hj1⟩ := hf k f hk;simp [sizeOf, typeInfo, hj, hj1]
  have hfill := fill_flat (place := fun x => (fs.map fun f : Field => (f.offset, 1))[x]?) (n := z.length) (fun k hk => by
    have hk' : k < fs.size := by omega
    have := hf k fs[k] (by simp [hk']);simp [hk', this.1]) ps z rfl hp
  have hc : (Value.agg z.toArray).cells = z.toArray := rfl;simp only [Instr.build, Sem.run_bind, zero_of hi hz, Result.andThen_ok, run_underlying hu, hm, hc, hfill, Sem.run_pure, List.toList_toArray]
variable {P : Program} {a : Act} {w : World} {K : Act → World → Prop} {Q : Exit → Act → World → Prop} {d : Option Tmp} {t : TypeId} {p : String} {af : Array Edge} {g : Option (Nat × Bool)}
theorem wp_build2 {s : TypeId} {z : List Value} {k k' : Nat} {x y : Operand} {v v' : Value} (h : Flat P s z) (hk : k < z.length) (hk' : k' < z.length) (hx : a.eval x = v) (h1 : v.oneCell' = true) (hx' : a.eval y = v') (h1' : v'.oneCell' = true)
    (kk : K (a.put d (.agg ((z.set k v).set k' v').toArray)) w) : OW P ⟨d, .build s #[(k, x), (k', y)], t, p, af, g⟩ a w K Q := by
  refine wp_val (v := .agg ((z.set k v).set k' v').toArray) (w' := w) ?_ kk;have := run_build (w := w) (ps := [(k, v), (k', v')]) h (by simp; exact ⟨⟨hk, h1⟩, hk', h1'⟩);simp only [execOp, List.map_toArray, List.map_cons, List.map_nil, hx, hx', Sem.run_bind, this, Result.andThen_ok, Sem.run_pure, laid]
theorem wp_loadFlat {s : TypeId} {z : List Value} {x : Operand} {b o : Nat} {cs : List Value} (h : Flat P s z) (hl : cs.length = z.length) (hx : a.eval x = .pointer (some ⟨b, o, none⟩)) (hc : w.rangeAt b o cs)
    (k : K (a.put d (.agg cs.toArray)) w) : OW P ⟨d, .load s x, t, p, af, g⟩ a w K Q := by
  obtain ⟨_, hs, fs, hu, _⟩ := h;exact ⟨wp_load_mid s x rfl b o hx cs _ hc hu rfl (by rw [hs, hl]) k⟩
theorem wp_storeFlat {s : TypeId} {z : List Value} {x y : Operand} {b o : Nat} {cs : List Value} (h : Flat P s z) (hl : cs.length = z.length) (hx : a.eval x = .pointer (some ⟨b, o, none⟩)) (hy : a.eval y = .agg cs.toArray)
    (h1 : ∀ u ∈ cs, u.oneCell' = true) (ht : w.there b o cs.length) (k : K (a.put d undef) (w.setCells b o cs)) : OW P ⟨d, .store s x y, t, p, af, g⟩ a w K Q := by
  constructor
  refine wp_store_mid s x y rfl b o cs.toArray hx hy (by simpa using ht) (by rw [h.size, ← hl]; simp) (by simpa using h1) ?_
  simpa using k
theorem str_len (v : ByteArray) : v.data.toList.length = v.size := by rw [Array.length_toList]; rfl
end Go.Kq

namespace Go.Kq
open Go Go.Proofs
def Own (w : World) (A : Nat → Prop) (sz : Nat) (v : Value) (n : Nat) (xs : List Value) : Prop :=
  xs.length = n * sz ∧ ((v = .slice none 0 0 ∧ n = 0) ∨ ∃ g o cap, A g ∧ v = .slice (some ⟨g, o, none⟩) n cap ∧ n ≤ cap ∧ cap ≤ maxLen ∧ w.rangeAt g o xs ∧ w.there g o (cap * sz))
def spare (v : Value) (sz : Nat) : List Rng := match v with
  | .slice (some a) n cap => [⟨a.block, a.off + n * sz, a.off + cap * sz⟩]
  | _ => []
def blk : Value → Option Nat
  | .slice (some a) _ _ => some a.block
  | _ => none
theorem Own.nil {w : World} {A : Nat → Prop} {sz : Nat} : Own w A sz (.slice none 0 0) 0 [] := ⟨by simp, .inl ⟨rfl, rfl⟩⟩
theorem Own.kept {w w' : World} {A A' : Nat → Prop} {sz n : Nat} {v : Value} {xs : List Value} {l : List Rng} (h : Own w A sz v n xs) (hf : Fr l w w') (hl : ∀ r ∈ l, A r.b → ∀ g o cap, v = .slice (some ⟨g, o, none⟩) n cap → r.b = g → r.hi ≤ o ∨ o + n * sz ≤ r.lo) (hA : ∀ b, A b → A' b) : Own w' A' sz v n xs := by
  obtain ⟨h1, h | ⟨g, o, cap, hg, hv, hc, hm, hr, ht⟩⟩ := h
  · exact ⟨h1, .inl h⟩
  refine ⟨h1, .inr ⟨g, o, cap, hA g hg, hv, hc, hm, hf.range hr (fun r hrl => ?_), hf.there ht⟩⟩
  by_cases e : r.b = g
  · have := hl r hrl (e ▸ hg) g o cap hv e; rw [h1]; omega
  exact .inl e
theorem Own.one {w : World} {A : Nat → Prop} {sz n : Nat} {v : Value} {xs : List Value} (h : Own w A sz v n xs) : v.oneCell' = true := by
  obtain ⟨_, h | ⟨_, _, _, _, h, _⟩⟩ := h
  · rw [h.1]; rfl
  rw [h]; rfl
theorem Own.spare_in {w : World} {A : Nat → Prop} {sz n : Nat} {v : Value} {xs : List Value} (h : Own w A sz v n xs) : ∀ r ∈ spare v sz, A r.b := by
  obtain ⟨_, h | ⟨g, o, cap, hg, h, _⟩⟩ := h
  · rw [h.1]; simp [spare]
  rw [h]; simp [spare]; exact hg
theorem spare_some (g o n cap sz : Nat) : spare (.slice (some ⟨g, o, none⟩) n cap) sz = [⟨g, o + n * sz, o + cap * sz⟩] := rfl
variable {P : Program} {w : World}
theorem run_append {T e sz bs ty : Nat} {A : Nat → Prop} {z : List Value} {v : Value} {n m c : Nat} {xs news : List Value} {ad : Addr} (hT : sliceOf P T e sz bs = true) (hz : zeroIs P e z) (hzl : z.length = sz)
    (h : Own w A sz v n xs) (hm : 0 < m) (hl : news.length = m * sz) (hn : ∀ j u, news[j]? = some u → w.cell? (ad.add j) = some u) (h1 : ∀ u ∈ news, u.oneCell' = true)
    (hb : (n + m) * bs ≤ 140737488355328) (h63 : n + m ≤ maxLen) :
    ∃ v' w', (Builtin.append_ #[T, T] ty #[v, .slice (some ad) m c]).run P w = .ok v' w' ∧ Fr (spare v sz) w w' ∧ Own w' (fun b => A b ∨ (w.heap.size ≤ b ∧ b < w'.heap.size)) sz v' (n + m) (xs ++ news) ∧ (blk v' = blk v ∨ blk v' = some w.heap.size) ∧ ∀ r ∈ spare v' sz, r.In (spare v sz) w := by
  obtain ⟨hu, i, z0, hi, hs, hby, hzz, hsz⟩ := under_slice hT;obtain ⟨i', v0, hi', hz', rfl⟩ := hz;rw [hi] at hi';obtain rfl := Option.some.inj hi';rw [hzz] at hz';obtain rfl := Option.some.inj hz';subst hs;subst hby;obtain ⟨hx, h | ⟨g, o, cap, hg, rfl, hnc, hcm, hr, ht⟩⟩ := h
  · obtain ⟨rfl, rfl⟩ := h;have hxs : xs = [] := List.eq_nil_of_length_eq_zero (by simpa using hx);subst hxs;simp only [Nat.zero_add] at hb h63;have hrun := run_append_nil (P := P) w T ty e i z0 hu hi hzz ad m c news hl hn hm (by simp only [maxLen] at h63; omega) (by omega);have hge := grownCap_ge w m 0 e;refine ⟨_, _, hrun, ((Fr.drew _ w).tr (Fr.alloc _ w.drew _)), ⟨by simp [hl], .inr ⟨w.heap.size, 0, grownCap w m 0 e, .inr ⟨Nat.le_refl _, by rw [size_alloc]; exact Nat.lt_succ_self _⟩, by rw [Nat.zero_add], by omega, grownCap_le_maxLen w m 0 e h63, ?_, ?_⟩⟩, .inr rfl, fun r hr => by rw [spare_some] at hr; simp at hr; subst hr; exact .inl (Nat.le_refl _)⟩
    · have := range_new w.drew (news.toArray ++ Builtin.zeroCells z0.cells (grownCap w m 0 e - m)) e (0, 0);rw [Array.toList_append, range_append] at this;exact this.1
    refine there_part (there_new w.drew _ e) (Nat.le_refl _) ?_;simp [Builtin.zeroCells, hl]
    have : z0.cells.size = i.size := by simpa using hzl
    rw [this, ← Nat.add_mul];exact Nat.mul_le_mul_right _ (by omega)
  by_cases hroom : n + m ≤ cap
  · have hmul : (n + m) * i.size ≤ cap * i.size := Nat.mul_le_mul_right _ hroom;rw [Nat.add_mul] at hmul;have hths : w.there g (o + n * i.size) news.length := there_part ht (by omega) (by omega);have hrun := run_append_room_cells (P := P) w T ty e i hu hi g o n cap ad m c news hl hn h1 hroom (fun j hj => (hths j hj).1) (fun j hj => (hths j hj).2);have hf := Fr.sets g news w (o + n * i.size);refine ⟨_, _, hrun, ?_, ⟨by rw [List.length_append, hx, hl, Nat.add_mul], .inr ⟨g, o, cap, .inl hg, rfl, hroom, hcm, ?_, hf.there ht⟩⟩, .inl rfl, fun r hr => by rw [spare_some] at hr ⊢; simp at hr; subst hr; exact .inr ⟨⟨g, o + n * i.size, o + cap * i.size⟩, by simp, rfl, by simp only; rw [Nat.add_mul]; omega, Nat.le_refl _⟩⟩
    · rw [spare_some];refine hf.mono ?_;intro r hr;simp at hr; subst hr
      exact .inr ⟨⟨g, o + n * i.size, o + cap * i.size⟩, by simp, rfl, Nat.le_refl _, by simp only; omega⟩
    rw [range_append, hx];refine ⟨hf.range hr (.cons (.inr (.inl (by simp only; omega))) .nil), World.rangeAt_setCells_same _ _ _ _ hths⟩
  have hgr : cap < n + m := by omega
  have hrun := run_append_grow (P := P) w T ty e i z0 hu hi hzz ⟨g, o, none⟩ n cap xs hx (fun j u hj => by rw [Addr.add_mid]; exact hr j u hj) ad m c news hl hn hgr (by simp only [maxLen] at h63; omega) (growslice_fits hgr hb);have hge := grownCap_ge w (n + m) cap e;refine ⟨_, _, hrun, ((Fr.drew _ w).tr (Fr.alloc _ w.drew _)), ⟨by rw [List.length_append, hx, hl, Nat.add_mul], .inr ⟨w.heap.size, 0, grownCap w (n + m) cap e, .inr ⟨Nat.le_refl _, by rw [size_alloc]; exact Nat.lt_succ_self _⟩, rfl, by omega, grownCap_le_maxLen w (n + m) cap e h63, ?_, ?_⟩⟩, .inr rfl, fun r hr => by rw [spare_some] at hr; simp at hr; subst hr; exact .inl (Nat.le_refl _)⟩
  · have := range_new w.drew (xs.toArray ++ news.toArray ++ Builtin.zeroCells z0.cells (grownCap w (n + m) cap e - (n + m))) e (0, 0);rw [Array.toList_append, Array.toList_append, range_append] at this;exact this.1
  refine there_part (there_new w.drew _ e) (Nat.le_refl _) ?_;simp [Builtin.zeroCells, hl, hx]
  have : z0.cells.size = i.size := by simpa using hzl
  rw [this, ← Nat.add_mul, ← Nat.add_mul];exact Nat.mul_le_mul_right _ (by omega)
variable {a : Act} {K : Act → World → Prop} {Q : Exit → Act → World → Prop} {d : Option Tmp} {t : TypeId} {p : String} {af : Array Edge} {gd : Option (Nat × Bool)}
theorem wp_append {T e sz bs : Nat} {A : Nat → Prop} {z : List Value} {v : Value} {n m c : Nat} {xs news : List Value} {b o : Nat} {x y : Operand} (hT : sliceOf P T e sz bs = true) (hz : zeroIs P e z) (hzl : z.length = sz)
    (hx : a.eval x = v) (hy : a.eval y = .slice (some ⟨b, o, none⟩) m c) (h : Own w A sz v n xs) (hm : 0 < m) (hl : news.length = m * sz) (hn : w.rangeAt b o news) (h1 : ∀ u ∈ news, u.oneCell' = true)
    (hb : (n + m) * bs ≤ 140737488355328) (h63 : n + m ≤ maxLen)
    (k : ∀ v' w', Fr (spare v sz) w w' → Own w' (fun b => A b ∨ (w.heap.size ≤ b ∧ b < w'.heap.size)) sz v' (n + m) (xs ++ news) → (blk v' = blk v ∨ blk v' = some w.heap.size) → K (a.put d v') w') :
    OW P ⟨d, .call ⟨.builtin .append, #[x, y], #[T, T]⟩, t, p, af, gd⟩ a w K Q := by
  obtain ⟨v', w', hr, hf, ho, hbk, _⟩ := run_append (P := P) (ty := t) (ad := ⟨b, o, none⟩) (c := c) hT hz hzl h hm hl (fun j u hj => by rw [Addr.add_mid]; exact hn j u hj) h1 hb h63;refine wp_val (v := v') (w' := w') ?_ (k v' w' hf ho hbk);simp [execOp, resolve, invoke, builtin, hx, hy, hr]
theorem wp_appendIn {T e sz bs : Nat} {A : Nat → Prop} {z : List Value} {v : Value} {n m c : Nat} {xs news : List Value} {b o : Nat} {x y : Operand} (hT : sliceOf P T e sz bs = true) (hz : zeroIs P e z) (hzl : z.length = sz)
    (hx : a.eval x = v) (hy : a.eval y = .slice (some ⟨b, o, none⟩) m c) (h : Own w A sz v n xs) (hm : 0 < m) (hl : news.length = m * sz) (hn : w.rangeAt b o news) (h1 : ∀ u ∈ news, u.oneCell' = true)
    (hb : (n + m) * bs ≤ 140737488355328) (h63 : n + m ≤ maxLen)
    (k : ∀ v' w', Fr (spare v sz) w w' → Own w' (fun b => A b ∨ (w.heap.size ≤ b ∧ b < w'.heap.size)) sz v' (n + m) (xs ++ news) → (blk v' = blk v ∨ blk v' = some w.heap.size) → (∀ r ∈ spare v' sz, r.In (spare v sz) w) → K (a.put d v') w') :
    OW P ⟨d, .call ⟨.builtin .append, #[x, y], #[T, T]⟩, t, p, af, gd⟩ a w K Q := by
  obtain ⟨v', w', hr, hf, ho, hbk, hin⟩ := run_append (P := P) (ty := t) (ad := ⟨b, o, none⟩) (c := c) hT hz hzl h hm hl (fun j u hj => by rw [Addr.add_mid]; exact hn j u hj) h1 hb h63;refine wp_val (v := v') (w' := w') ?_ (k v' w' hf ho hbk hin);simp [execOp, resolve, invoke, builtin, hx, hy, hr]
theorem wp_slice1 {T e sz bs : Nat} {z cs : List Value} {x : Operand} (hT : sliceOf P T e sz bs = true) (hz : zeroIs P e z) (hzl : z.length = sz) (hsz : sz ≤ 16777216) (hx : (a.eval x).cells = cs.toArray) (hl : cs.length = sz)
    (k : w.alloc (.cells cs.toArray e) = w.alloc (.cells cs.toArray e) → K (a.put d (.slice (some ⟨w.heap.size, 0, none⟩) 1 1)) (w.alloc (.cells cs.toArray e))) : OW P ⟨d, .buildSlice T 1 #[(0, x)], t, p, af, gd⟩ a w K Q := by
  obtain ⟨hu, i, z0, hi, hs, hby, hzz, hsz0⟩ := under_slice hT;subst hs
  constructor
  refine wp_buildSlice T e 1 #[(0, x)] rfl cs.toArray i z0 hu hi hzz (by omega) (by omega) ?_ (k rfl);simp only [List.map_toArray, List.map_cons, List.map_nil, Nat.one_mul];rw [Instr.fill.eq_2];simp only [hx, List.size_toArray, hl];rw [if_neg (by simp)];rw [Instr.fill.eq_1]
  congr 1
  have key : ∀ (l : List Value) (k : Nat) (acc : List Value), acc.length = k + l.length →
      (l.zipIdx k).foldl (fun cs (x : Value × Nat) => cs.setIfInBounds (0 * i.size + x.2) x.1) acc.toArray = (acc.take k ++ l).toArray := by
    intro l
    induction l with
    | nil => intro k acc h; simp at h; simp [← h]
    | cons v l ih =>
      intro k acc h;simp only [List.length_cons] at h;simp only [List.zipIdx_cons, List.foldl_cons, Nat.zero_mul, Nat.zero_add];have := ih (k + 1) (acc.set k v) (by simp; omega);simp only [Nat.zero_mul, Nat.zero_add] at this;simp only [List.setIfInBounds_toArray];rw [this]
      congr 1
      have hk : k < acc.length := by omega
      have hlk : (List.take k acc).length = k := by simp; omega
      have e1 : (List.take k acc ++ [acc[k]]).set k v = List.take k acc ++ [v] := by rw [List.set_append_right _ _ (by omega)]; simp [hlk]
      rw [List.take_set, List.take_succ_eq_append_getElem hk, e1, List.append_assoc]
      rfl
  have hsa : (Array.map (fun x => z0.cells[x % z0.cells.size]!) (Array.range i.size)).size = i.size := by simp
  generalize Array.map (fun x => z0.cells[x % z0.cells.size]!) (Array.range i.size) = arr at hsa ⊢;have := key cs 0 arr.toList (by simp [hl, hsa]);simp only [List.take_zero, List.nil_append] at this
  simpa using this
theorem wp_make {T e sz bs : Nat} {z : List Value} {n : Nat} (hT : sliceOf P T e sz bs = true) (hz : zeroIs P e z) (hb : bs * n ≤ 281474976710656) (h63 : n ≤ 9223372036854775807)
    (k : K (a.put d (.slice (some ⟨w.heap.size, 0, none⟩) n n)) (w.alloc (.cells (madeCells z.toArray (n * sz)) e))) : OW P ⟨d, .makeSlice T (.const (.int .i64 n)) (.const (.int .i64 n)), t, p, af, gd⟩ a w K Q := by
  obtain ⟨hu, i, z0, hi, hs, hby, hzz, hsz0⟩ := under_slice hT;obtain ⟨i', v0, hi', hz', rfl⟩ := hz;rw [hi] at hi';obtain rfl := Option.some.inj hi';rw [hzz] at hz';obtain rfl := Option.some.inj hz';subst hs;subst hby;have h2 : (i.bytes : Int) * (n : Int) ≤ 281474976710656 := by rw [← Int.natCast_mul]; omega
  have hr := run_make (P := P) w T e i z0 hu hi hzz .i64 .i64 (n : Int) (n : Int) (by omega) (by omega) h2 (by omega);refine wp_val (v := .slice (some ⟨w.heap.size, 0, none⟩) n n) (w' := w.alloc (.cells (madeCells z0.cells.toList.toArray (n * i.size)) e)) ?_ k;simp only [execOp, eCo, Sem.run_bind, hr, Result.andThen_ok, Sem.run_pure, Array.toArray_toList, Int.toNat_natCast]
end Go.Kq

namespace Go.Kq
open Go Go.Proofs
def From (s : Nat) (w : World) (b : Nat) : Prop := s ≤ b ∧ b < w.heap.size
theorem From.mono {s : Nat} {w w' : World} (h : w.heap.size ≤ w'.heap.size) (b : Nat) (hb : From s w b) : From s w' b := ⟨hb.1, Nat.lt_of_lt_of_le hb.2 h⟩
theorem OctE.slice {w : World} {A : Nat → Prop} {v : Value} {s : List UInt8} (h : OctE w A v s) : ∃ q cap, v = .slice q s.length cap ∧ (0 < s.length → ∃ b o, q = some ⟨b, o, none⟩ ∧ w.rangeAt b o (octets s)) := by
  rcases h with ⟨x, h, rfl⟩ | ⟨⟨a, rfl⟩, rfl⟩
  · rcases h with ⟨rfl, rfl⟩ | ⟨b, o, cap, l, _, rfl, _, hr, rfl⟩
    · exact ⟨none, 0, rfl, fun h => by simp at h⟩
    exact ⟨_, cap, rfl, fun _ => ⟨b, o, rfl, hr⟩⟩
  exact ⟨some a, 0, rfl, fun h => by simp at h⟩
theorem OctE.big {w : World} {A : Nat → Prop} {v : Value} {s : List UInt8} (h : OctE w A v s) : s.length ≤ 4294967296 := by
  rcases h with ⟨x, h, rfl⟩ | ⟨_, rfl⟩
  · rcases h with ⟨_, rfl⟩ | ⟨_, _, _, l, _, _, h, _, rfl⟩
    · simp
    exact h.2
  simp
theorem octets_at {w : World} {b o : Nat} {s : List UInt8} (h : w.rangeAt b o (octets s)) {j : Nat} (hj : j < s.length) : w.cell? ⟨b, o + j, none⟩ = some (.int .u8 (s[j]).toNat) :=
  h j _ (by simp [octets, hj])
def ptrTy (P : Program) (t : TypeId) : Bool := match P.underlying t with | some (.pointer _) => true | _ => false
theorem under_ptr {P : Program} {t : TypeId} (h : ptrTy P t = true) : ∃ e, P.underlying t = some (.pointer e) := by
  unfold ptrTy at h
  cases hu : P.underlying t with
  | none => simp [hu] at h
  | some d => cases d <;> simp [hu] at h; exact ⟨_, rfl⟩
theorem run_eqPtrNil {P : Program} {w : World} {s e : TypeId} {q : Option Addr} (hs : P.underlying s = some (.pointer e)) (n : Nat) : (Op.equalIn (n + 1) s (.pointer q) (.pointer none)).run P w = .ok q.isNone w := by
  cases q <;> simp [Op.equalIn, run_underlying hs]
theorem wp_eqlPtrNil {P : Program} {a : Act} {w : World} {K : Act → World → Prop} {Q : Exit → Act → World → Prop} {d : Option Tmp} {t : TypeId} {p : String} {af : Array Edge} {g : Option (Nat × Bool)} {s u : TypeId} {x : Operand} {q : Option Addr} (hs : ptrTy P s = true) (hx : a.eval x = .pointer q) (k : K (a.put d (.bool q.isNone)) w) :
    OW P ⟨d, .binOp .eql s x (.const (.pointer none)) u, t, p, af, g⟩ a w K Q := by
  obtain ⟨e, hu⟩ := under_ptr hs;refine wp_val (v := .bool q.isNone) (w' := w) ?_ k;have hg : (eqGuard .eql s x (.const (.pointer none)) (.pointer q) (.pointer none)).run P w = .ok () w := by simp [eqGuard]
  have he : (Op.equal s (.pointer q) (.pointer none)).run P w = .ok q.isNone w := run_eqPtrNil hu 9999;have hr : (binOp .eql s (.pointer q) (.pointer none)).run P w = .ok (.bool q.isNone) w := by
    simp only [binOp, Sem.run_bind, he, Result.andThen_ok, Sem.run_pure]
  have hc : a.eval (.const (.pointer none)) = .pointer none := rfl;simp only [execOp, hx, hc, Sem.run_bind, hg, hr, Result.andThen_ok, Sem.run_pure]
section
variable {P : Program}
def slTy (P : Program) (s : TypeId) : Bool := match P.underlying s with | some (.slice _) => true | _ => false
end
variable {P : Program} {a : Act} {w : World} {K : Act → World → Prop} {Q : Exit → Act → World → Prop} {d : Option Tmp} {t : TypeId} {p : String} {af : Array Edge} {g : Option (Nat × Bool)}
theorem wp_pickNo {x y z : Operand} {v : Value} (hx : a.eval x = .bool false) (hz : a.eval z = v) (k : K (a.put d v) w) : OW P ⟨d, .pick x y z, t, p, af, g⟩ a w K Q :=
  wp_val (by simp [execOp, hx, hz, asBool]) k
theorem wp_pickYes {x y z : Operand} {v : Value} (hx : a.eval x = .bool true) (hy : a.eval y = v) (k : K (a.put d v) w) : OW P ⟨d, .pick x y z, t, p, af, g⟩ a w K Q :=
  wp_val (by simp [execOp, hx, hy, asBool]) k
theorem wp_box {s : TypeId} {x : Operand} {v : Value} (hx : a.eval x = v) (k : K (a.put d (.pointer (some ⟨w.heap.size, 0, none⟩))) (w.alloc (.cells v.cells s))) : OW P ⟨d, .box s x, t, p, af, g⟩ a w K Q :=
  wp_val (v := .pointer (some ⟨w.heap.size, 0, none⟩)) (w' := w.alloc (.cells v.cells s)) (by simp [execOp, hx, Instr.box, newVar, newRow]) k
end Go.Kq

namespace Go.Kq
open Go Go.Proofs
structure SameM (P : Program) (f : FuncId) : Prop where
  enters : Enters P f
  call : ∀ w v1 v2 s A1 A2, OctE w A1 v1 s → OctE w A2 v2 s → Calls P f #[v1, v2] w fun e w' => e = .returned (.bool true) ∧ Fr [] w w'
theorem same_m {P : Program} {f : FuncId} {fn : Func} {TS TE et bs : TypeId} {T1 T2 T3 T4 T5 T6 T7 T8 : TypeId} {i0 i1 i2 i3 i4 i5 i6 i7 i8 i9 : Nat}
    {t0 t1 t2 t3 t4 t5 t6 t7 t8 t9 t10 t11 t12 t13 t14 t15 t16 t17 t18 t19 t20 t21 t22 t23 t24 t25 : TypeId}
    {p0 p1 p2 p3 p4 p5 p6 p7 p8 p9 p10 p11 p12 p13 p14 p15 p16 p17 p18 p19 p20 p21 p22 p23 p24 p25 : String}
    {e0 e1 e2 e3 e4 e5 e6 e7 e8 e9 e10 e11 e12 e13 e14 e15 e16 e17 e18 e19 e20 e21 e22 e23 e24 e25 : Array Edge}
    (hmx : P.follows .mixedOrders = true) (hf : P.funcs[f]? = some fn) (hname : (fn.name == "runtime.NumGoroutine") = false) (hres : fn.results = #[.tmp 4]) (hN : fn.ntmps = 26)
    (hbody : fn.body = some (.seq (Code.region i0 ⟨[oA 4 (.const (.bool false)) t0 p0 e0]⟩ false) (.seq (.seq (Code.region i1 ⟨[oM 6 0 t1 p1 e1, ⟨some 7, .call ⟨.builtin .len, #[.tmp 6], #[TS]⟩, t2, p2, e2, none⟩, oM 8 1 t3 p3 e3, ⟨some 9, .call ⟨.builtin .len, #[.tmp 8], #[TS]⟩, t4, p4, e4, none⟩, ⟨some 10, .binOp .neq T1 (.tmp 7) (.tmp 9) T2, t5, p5, e5, none⟩]⟩ false) (.cond (.tmp 10) (.seq (Code.region i2 ⟨[oA 4 (.const (.bool false)) t6 p6 e6]⟩ false) .ret) .skip)) (.seq (.seq (Code.region i3 ⟨[oM 11 0 t7 p7 e7, ⟨some 12, .call ⟨.builtin .len, #[.tmp 11], #[TS]⟩, t8, p8, e8, none⟩, ⟨some 13, .move (.const (.int .i64 0)), t9, p9, e9, none⟩]⟩ false) (.block 0 (.loop (.seq (Code.region i4 ⟨[⟨some 14, .binOp .lss T3 (.tmp 13) (.tmp 12) T4, t10, p10, e10, none⟩]⟩ false) (.seq (.cond (.tmp 14) .skip (.exit 0)) (.seq (.block 1 (.seq (Code.region i5 ⟨[oM 15 13 t11 p11 e11, oT 5 15 t12 p12 e12]⟩ false) (.seq (Code.region i6 ⟨[oM 16 0 t13 p13 e13, oM 17 5 t14 p14 e14, ⟨some 18, .indexAddr TS (.tmp 16) (.tmp 17), t15, p15, e15, none⟩, oL 19 TE 18 t16 p16 e16,
                        oM 20 1 t17 p17 e17, oM 21 5 t18 p18 e18, ⟨some 22, .indexAddr TS (.tmp 20) (.tmp 21), t19, p19, e19, none⟩, oL 23 TE 22 t20 p20 e20, ⟨some 24, .binOp .neq T5 (.tmp 19) (.tmp 23) T6, t21, p21, e21, none⟩]⟩ true) (.cond (.tmp 24) (.seq (Code.region i7 ⟨[oA 4 (.const (.bool false)) t22 p22 e22]⟩ false) .ret) .skip))))
                  (Code.region i8 ⟨[⟨some 25, .binOp .add T7 (.tmp 13) (.const (.int .i64 1)) T8, t23, p23, e23, none⟩, oM 13 25 t24 p24 e24]⟩ false))))))) (.seq (Code.region i9 ⟨[oA 4 (.const (.bool true)) t25 p25 e25]⟩ false) .ret)))))
    (hTS : sliceOf P TS et 1 bs = true) (hTE : scal P TE = true)
    (he : edgeOk 0 [e13, e14, e15, e16, e17, e18, e19, e20, e21] [[], [], [0, 1], [2], [], [], [4, 5], [6], [3, 7]] = true) : SameM P f := by
  refine ⟨enters_of hf hname hbody, ?_⟩;intro w v1 v2 s A1 A2 h1 h2;have hlen := h1.big;obtain ⟨q1, c1, rfl, hq1⟩ := h1.slice;obtain ⟨q2, c2, rfl, hq2⟩ := h2.slice;refine calls_of_wp hf hbody ?_;generalize ha0 : ({ tmps := #[Value.slice q1 s.length c1, Value.slice q2 s.length c2] ++ Array.replicate (fn.ntmps - #[Value.slice q1 s.length c1, Value.slice q2 s.length c2].size) undef, defers := [] } : Act) = a0;have hsz : a0.tmps.size = 26 := by subst ha0; simp [hN]
  have hd0 : a0.defers = [] := by subst ha0; rfl
  have g0 : get a0 0 = .slice q1 s.length c1 := by subst ha0; exact gAr rfl
  have g1 : get a0 1 = .slice q2 s.length c2 := by subst ha0; exact gAr rfl
  refine tId (wp_seq_k fun K1 hK1 => ?_);refine r_const (m := 4) (by omega) (by omega) fun a1 k1 _ => hK1 a1 w (tUp ?_);have hz1 := k1.size;refine tId (wp_seq_k fun K2 hK2 => ?_);refine wS fun K3 hK3 => ?_;rw [wCo, wMw, eTm, k1.get 0 (by omega), g0, wCo];refine wp_len hTS (by rw [eTm, gQ]) ?_;rw [wCo, wMw, eTm, gR, gR, k1.get 1 (by omega), g1, wCo];refine wp_len hTS (by rw [eTm, gQ]) ?_;refine wC (wp_neq (k1 := .i64) (i := s.length) (j := s.length) (by rw [eTm, gR, gR, gQ]) (by rw [eTm, gQ]) ?_);rw [wNi];generalize ha2 : (((((a1.put (some 6) (.slice q1 s.length c1)).put (some 7) (.int .i64 s.length)).put (some 8) (.slice q2 s.length c2)).put (some 9) (.int .i64 s.length)).put (some 10) (.bool ((s.length : Int) != s.length))) = a2;have k2 : Kept 6 a1 a2 := by subst ha2; exact (((((Kept.put0 (by omega) _).put (by omega) _).put (by omega) _).put (by omega) _).put (by omega) _)
  have g10 : get a2 10 = .bool false := by subst ha2; rw [gQ]; simp
  have hz2 := k2.size;refine hK3 a2 w ?_;refine wp_cond_split (t := false) (by rw [eTm, g10]) (fun h => by cases h) fun _ => wp_skip (hK2 a2 w (tUp ?_));have kk2 : Kept 4 a0 a2 := k1.trans (k2.mono (by omega));refine tId (wp_seq_k fun K4 hK4 => ?_);refine wS fun K5 hK5 => ?_;rw [wCo, wMw, eTm, kk2.get 0 (by omega), g0, wCo];refine wp_len hTS (by rw [eTm, gQ]) ?_;rw [wCo, wMw, eCo, wNi];generalize ha3 : ((a2.put (some 11) (.slice q1 s.length c1)).put (some 12) (.int .i64 s.length)).put (some 13) (.int .i64 0) = a3;have k3 : Kept 6 a2 a3 := by subst ha3; exact ((Kept.put0 (by omega) _).put (by omega) _).put (by omega) _
  have g12 : get a3 12 = .int .i64 s.length := by subst ha3; rw [gR, gQ]
  have g13 : get a3 13 = .int .i64 0 := by subst ha3; rw [gQ]
  have hz3 := k3.size;refine hK5 a3 w ?_;refine wp_block (wp_loop (fun a' w' => ∃ j : Nat, j ≤ s.length ∧ Kept 4 a0 a' ∧ get a' 12 = .int .i64 s.length ∧ get a' 13 = .int .i64 j ∧ Fr [] w w') (fun a' _ => s.length - idxOf (get a' 13)) ?_ ?_)
  · exact ⟨0, Nat.zero_le _, kk2.trans (k3.mono (by omega)), g12, g13, Fr.refl _ _⟩
  rintro a4 w4 ⟨j, hj, k4, gl, gi, f4⟩;have hz4 := k4.size;refine wS fun K6 hK6 => ?_;refine wC (wp_lss (k1 := .i64) (i := j) (j := s.length) (by rw [eTm, gi]) (by rw [eTm, gl]) ?_);rw [wNi];generalize ha5 : a4.put (some 14) (.bool (decide ((j : Int) < s.length))) = a5;have k5 : Kept 14 a4 a5 := by subst ha5; exact Kept.put0 (Nat.le_refl _) _
  have g14 : get a5 14 = .bool (decide ((j : Int) < s.length)) := by subst ha5; exact gQ
  have hz5 := k5.size;refine hK6 a5 w4 ?_;refine wp_seq_k fun K7 hK7 => ?_;refine wp_cond_split (t := decide ((j : Int) < s.length)) (by rw [eTm, g14]) ?_ ?_
  · intro hlt;have hjl : j < s.length := by simpa using hlt
    refine wp_skip (hK7 a5 w4 ?_);refine wp_seq_k fun K8 hK8 => ?_;obtain ⟨b1, o1, rfl, hr1⟩ := hq1 (by omega);obtain ⟨b2, o2, rfl, hr2⟩ := hq2 (by omega);refine wp_block (wp_mono (show Code.wp P _ (Exit.then K8 (Exit.inBlock 1 (Exit.then K8 _))) a5 w4 from ?_) (fun _ _ _ => inBlock_then));refine wS fun K9 hK9 => ?_;rw [wCo, wMw, eTm, k5.get 13 (by omega), gi, wCo, wAg, eTm, gQ, wNi];generalize ha6 : (a5.put (some 15) (.int .i64 j)).put (some 5) (.int .i64 j) = a6;have k6 : Kept 4 a4 a6 := by subst ha6; exact (k5.mono (by omega)).trans ((Kept.put0 (by omega) _).put (by omega) _)
    have g5 : get a6 5 = .int .i64 j := by subst ha6; exact gQ
    have g12' : get a6 12 = .int .i64 s.length := by subst ha6; rw [gR, gR, k5.get 12 (by omega), gl]
    have g13' : get a6 13 = .int .i64 j := by subst ha6; rw [gR, gR, k5.get 13 (by omega), gi]
    have hz6 := k6.size;have kk6 := k4.trans k6;refine hK9 a6 w4 ?_;refine wp_seq_k fun K10 hK10 => ?_;refine wp_drawE0 [spC [] (.slice (some ⟨b1, o1, none⟩) s.length c1), spC [] (.int .i64 j), spC [0, 1] (.pointer (some ⟨b1, o1 + (j : Int).toNat * 1, none⟩)), spC [2] (.int .u8 (s[j]).toNat),
      spC [] (.slice (some ⟨b2, o2, none⟩) s.length c2), spC [] (.int .i64 j), spC [4, 5] (.pointer (some ⟨b2, o2 + (j : Int).toNat * 1, none⟩)), spC [6] (.int .u8 (s[j]).toNat), spC [3, 7] (.bool false)] 16 [] hmx he (by simp [shape]) (by simp [spC]) (by simp; omega)
      ⟨lCc _ _ _, lCc _ _ _, lCc _ _ _, lCc _ _ _, lCc _ _ _, lCc _ _ _, lCc _ _ _, lCc _ _ _, lCc _ _ _, trivial⟩ ?_ ?_
    · refine ⟨op_c fun a' w' hk' hf' hd' K' hK' => ?_, op_c fun a' w' hk' hf' hd' K' hK' => ?_, op_c fun a' w' hk' hf' hd' K' hK' => ?_, op_c fun a' w' hk' hf' hd' K' hK' => ?_, op_c fun a' w' hk' hf' hd' K' hK' => ?_,
        op_c fun a' w' hk' hf' hd' K' hK' => ?_, op_c fun a' w' hk' hf' hd' K' hK' => ?_, op_c fun a' w' hk' hf' hd' K' hK' => ?_, op_c fun a' w' hk' hf' hd' K' hK' => ?_, trivial⟩
      · rw [wMw, eTm, hk'.get 0 (by omega), kk6.get 0 (by omega), g0]; exact hK'
      · rw [wMw, eTm, hk'.get 5 (by omega), g5]; exact hK'
      · exact wp_indexAddr hTS (by rw [eTm]; exact hd'.c 0 (by simp) rfl) (by rw [eTm]; exact hd'.c 1 (by simp) rfl) (by omega) (by omega) hK'
      · refine wp_load hTE (by rw [eTm]; exact hd'.c 2 (by simp) rfl) ?_ hK';have := octets_at ((f4.tr hf').range hr1 .nil) hjl
        simpa using this
      · rw [wMw, eTm, hk'.get 1 (by omega), kk6.get 1 (by omega), g1]; exact hK'
      · rw [wMw, eTm, hk'.get 5 (by omega), g5]; exact hK'
      · exact wp_indexAddr hTS (by rw [eTm]; exact hd'.c 4 (by simp) rfl) (by rw [eTm]; exact hd'.c 5 (by simp) rfl) (by omega) (by omega) hK'
      · refine wp_load hTE (by rw [eTm]; exact hd'.c 6 (by simp) rfl) ?_ hK';have := octets_at ((f4.tr hf').range hr2 .nil) hjl
        simpa using this
      refine wp_neq (k1 := .u8) (by rw [eTm]; exact hd'.c 3 (by simp) rfl) (by rw [eTm]; exact hd'.c 7 (by simp) rfl) ?_
      simpa using hK'
    intro a7 w7 k7 f7 hd7;have g24 : get a7 24 = .bool false := hd7.c (nd' := [3, 7]) 8 (by simp) rfl;refine hK10 a7 w7 ?_;refine wp_cond_split (t := false) (by rw [eTm, g24]) (fun h => by cases h) fun _ => wp_skip (hK8 a7 w7 ?_);have hz7 := k7.size;refine wp_reg ?_;refine wC (wp_add (k1 := .i64) (i := j) (j := 1) (by rw [eTm, k7.get 13 (by omega), g13']) rfl ?_);rw [wCo, wMw, eTm, gQ, wNi];have hwr : IntKind.i64.wrap ((j : Int) + 1) = ((j + 1 : Nat) : Int) := by
      simp [IntKind.wrap, IntKind.bits, IntKind.signed]; omega
    rw [hwr];refine ⟨⟨j + 1, hjl, ?_, ?_, ?_, f4.tr f7⟩, ?_⟩
    · exact (kk6.trans (k7.mono (by omega))).trans ((Kept.put0 (by omega) _).put (by omega) _)
    · rw [gR, gR, k7.get 12 (by omega), g12']
    · rw [gQ]
    rw [gQ, gi]; simp [idxOf]; omega
  intro hge;refine wp_exit ?_;show K4 a5 w4
  refine hK4 a5 w4 (tUp ?_);refine tId (wp_seq_k fun K11 hK11 => ?_);have hz5 := k5.size;refine r_const (m := 4) (by omega) (by omega) fun a8 k8 g8 => hK11 a8 w4 (tUp ?_);refine wp_ret ?_;refine ⟨by rw [k8.defers, k5.defers, k4.defers, hd0], _, results_one hres, ?_, f4⟩;rw [g8]
end Go.Kq

namespace Go.Kq
open Go Go.Proofs
theorem Flat.field {P : Program} {t : TypeId} {z : List Value} (h : Flat P t z) {k : Nat} (hk : k < z.length) : fieldOf P t k k = true := by
  obtain ⟨_, _, fs, hu, hs, hf⟩ := h;have hk' : k < fs.size := by omega
  have hfk : fs[k]? = some fs[k] := by simp [hk']
  obtain ⟨h1, i, h2, h3⟩ := hf k _ hfk;simp only [fieldOf, hu, hfk, h1, h2, h3];simp
structure TEnv where
  pb : Nat
  po : Nat
  tb : Nat
  lb : Nat
  n : Nat
  s0 : Nat
  B : Nat → Prop
inductive Slot where
  | raw (cs : List Value)
  | done (t : T)
def SlotAt (w : World) (A : Nat → Prop) (cs : List Value) : Slot → Prop
  | .raw c => cs = c ∧ c.length = 5 ∧ ∀ u ∈ c, u.oneCell' = true
  | .done t => RepT w A cs t
structure TM (w : World) (e : TEnv) (uv : Value) (ts : List Slot) (hi : Nat) : Prop where
  tree : w.rangeAt e.tb 0 [.int .i64 0, .slice none 0 0, .bool false, .slice (some ⟨e.lb, 0, none⟩) e.n e.n, uv]
  thT : w.there e.tb 0 5
  thL : w.there e.lb 0 (e.n * 5)
  len : ts.length = e.n
  ls : e.lb < e.s0
  tbs : e.tb < e.s0
  ps : e.pb < e.s0
  bs : ∀ b, e.B b → b < e.s0 ∧ b ≠ e.lb ∧ b ≠ e.tb
  ne : e.lb ≠ e.tb
  pl : e.pb ≠ e.lb
  pt : e.pb ≠ e.tb
  s0 : e.s0 ≤ hi
  top : hi ≤ w.heap.size
  els : ∀ i y, ts[i]? = some y → ∃ es, w.rangeAt e.lb (i * 5) es ∧ SlotAt w (fun b => e.s0 ≤ b ∧ b < hi) es y
end Go.Kq

namespace Go.Kq
open Go Go.Proofs
variable {P : Program} {TT TL S Tf Ti : TypeId} {N sv st m n k o kf id : Nat}
def fits64 (k : IntKind) : Bool := decide (-9223372036854775808 ≤ k.min) && decide (k.max ≤ 9223372036854775807)
theorem wrap64 {i : Int} (h : -9223372036854775808 ≤ i ∧ i ≤ 9223372036854775807) : IntKind.i64.wrap i = i := by
  simp [IntKind.wrap, IntKind.bits, IntKind.signed]; omega
end Go.Kq

namespace Go.Kq
open Go Go.Proofs
variable {P : Program} {TT TL S Tf Ti : TypeId} {N sv st m n k o kf id : Nat}
def V.isNil : V → Bool | .nil => true | _ => false
def V.items : V → List V | .l xs => xs | _ => []
theorem arr_cell {w : World} {B : Nat → Prop} {t : Ty} {c : Value} {x : V} (h : Rep w B (.arr t) [c] x) : ∃ q cap, c = .slice q x.items.length cap ∧ q.isNone = x.isNil ∧ x.items.length ≤ 4294967296 ∧
    (∀ a, q = some a → ∃ b o, a = ⟨b, o, none⟩ ∧ B b ∧ ∀ i y, x.items[i]? = some y → ∃ es, w.rangeAt b (o + i * t.size) es ∧ es.length = t.size ∧ Rep w B t es y) := by
  rcases h with ⟨h, rfl⟩ | ⟨b, o, cap, xs, hb, h, hn4, rfl, h3⟩
  · simp at h; subst h; exact ⟨none, 0, rfl, rfl, by simp [V.items], by simp⟩
  simp at h; subst h
  exact ⟨some ⟨b, o, none⟩, cap, rfl, rfl, hn4.2, fun a ha => by obtain rfl := Option.some.inj ha; exact ⟨b, o, rfl, hb, h3⟩⟩
end Go.Kq

namespace Go.Kq
open Go Go.Proofs
def LOwn (w : World) (A : Nat → Prop) (lv : Value) (l : List T) : Prop :=
  ∃ flat, Own w A 5 lv l.length flat ∧ ∀ (i : Nat) (y : T), l[i]? = some y → RepT w (fun b => A b ∧ blk lv ≠ some b) ((flat.drop (i * 5)).take 5) y
theorem LOwn.nil {w : World} {A : Nat → Prop} : LOwn w A (.slice none 0 0) [] := ⟨[], Own.nil, by simp⟩
theorem LOwn.one {w : World} {A : Nat → Prop} {lv : Value} {l : List T} (h : LOwn w A lv l) : lv.oneCell' = true := by
  obtain ⟨_, h, _⟩ := h; exact h.one
theorem LOwn.things {w : World} {A : Nat → Prop} {lv : Value} {l : List T} (hbig : l.length ≤ 4294967296) (h : LOwn w A lv l) : Things w A lv l := by
  obtain ⟨flat, ⟨h1, h2 | ⟨g, o, cap, hg, rfl, hnc, _, hr, _⟩⟩, h3⟩ := h
  · exact .inl ⟨.inl h2.1, List.eq_nil_of_length_eq_zero h2.2⟩
  refine .inr ⟨g, o, cap, hg, rfl, ⟨hnc, hbig⟩, fun i => (flat.drop (i * 5)).take 5, fun i y hi => range_part hr (i * 5) 5, fun i y hi => (h3 i y hi).kept (Fr.refl [] w) (by simp) (fun b hb => hb.1)⟩
theorem LOwn.kept {w w' : World} {A A' : Nat → Prop} {lv : Value} {l : List T} {r : List Rng} (h : LOwn w A lv l) (hf : Fr r w w') (hl : ∀ x ∈ r, ¬ A x.b) (hA : ∀ b, A b → A' b) : LOwn w' A' lv l := by
  obtain ⟨flat, h1, h2⟩ := h;exact ⟨flat, h1.kept hf (fun x hx hb => absurd hb (hl x hx)) hA, fun i y hi => (h2 i y hi).kept hf (fun x hx hb => hl x hx hb.1) (fun b hb => ⟨hA b hb.1, hb.2⟩)⟩
theorem flat_part {flat cs : List Value} {n i : Nat} (h : flat.length = n * 5) (hi : i < n) : ((flat ++ cs).drop (i * 5)).take 5 = (flat.drop (i * 5)).take 5 := by
  rw [List.drop_append_of_le_length (by omega), List.take_append_of_le_length (by simp; omega)]
theorem flat_last {flat cs : List Value} {n : Nat} (h : flat.length = n * 5) (hc : cs.length = 5) : ((flat ++ cs).drop (n * 5)).take 5 = cs := by
  rw [← h, List.drop_left, ← hc, List.take_length]
theorem LOwn.app {w w' : World} {A A' C : Nat → Prop} {lv lv' : Value} {l : List T} {flat cs : List Value} {y : T} (h : ∀ (i : Nat) (y : T), l[i]? = some y → RepT w (fun b => A b ∧ blk lv ≠ some b) ((flat.drop (i * 5)).take 5) y) (ho : Own w A 5 lv l.length flat)
    (hf : Fr (spare lv 5) w w') (ho' : Own w' A' 5 lv' (l.length + 1) (flat ++ cs)) (hbk : blk lv' = blk lv ∨ blk lv' = some w.heap.size) (hA : ∀ b, A b → A' b ∧ b < w.heap.size) (hy : RepT w C cs y) (hC : ∀ b, C b → A b ∧ blk lv ≠ some b) :
    LOwn w' A' lv' (l ++ [y]) := by
  have hfl := ho.1;have hm : ∀ b, A b ∧ blk lv ≠ some b → A' b ∧ blk lv' ≠ some b := by
    intro b ⟨h1, h2⟩;refine ⟨(hA b h1).1, ?_⟩
    rcases hbk with h3 | h3
    · rw [h3]; exact h2
    rw [h3]; have := (hA b h1).2; simp; omega
  have hn : ∀ r ∈ spare lv 5, ¬ (A r.b ∧ blk lv ≠ some r.b) := by
    intro r hr ⟨_, h2⟩;unfold spare at hr
    split at hr
    · simp at hr; subst hr; exact h2 rfl
    cases hr
  refine ⟨flat ++ cs, by rw [List.length_append]; exact ho', fun i z hi => ?_⟩
  by_cases hil : i < l.length
  · rw [List.getElem?_append_left hil] at hi;rw [flat_part hfl hil];exact (h i z hi).kept hf hn hm
  rw [List.getElem?_append_right (by omega)] at hi;have hi0 : i = l.length := by
    rcases Nat.lt_or_ge (i - l.length) 1 with h1 | h1
    · omega
    rw [List.getElem?_eq_none (by simpa using h1)] at hi; simp at hi
  subst hi0;rw [Nat.sub_self] at hi;simp at hi
  subst hi;rw [flat_last hfl hy.length];exact hy.kept hf (fun r hr hc => hn r hr (hC _ hc)) (fun b hb => hm b (hC b hb))
end Go.Kq

namespace Go.Kq
open Go Go.Proofs
theorem LOwn.spares {w w' : World} {A A' : Nat → Prop} {lv : Value} {l : List T} (h : LOwn w A lv l) (hf : Fr (spare lv 5) w w') (hA : ∀ b, A b → A' b) : LOwn w' A' lv l := by
  obtain ⟨flat, h1, h2⟩ := h;refine ⟨flat, h1.kept hf ?_ hA, fun i y hi => (h2 i y hi).kept hf ?_ (fun b hb => ⟨hA b hb.1, hb.2⟩)⟩
  · intro r hr _ g o cap hv _;rw [hv, spare_some] at hr;simp at hr; subst hr
    exact .inr (by simp)
  intro r hr ⟨_, hn⟩;unfold spare at hr
  split at hr
  · simp at hr; subst hr; exact hn rfl
  cases hr
theorem LOwn.blk_in {w : World} {A : Nat → Prop} {lv : Value} {l : List T} (h : LOwn w A lv l) {b : Nat} (hb : blk lv = some b) : A b := by
  obtain ⟨_, ⟨_, h | ⟨g, o, cap, hg, h, _⟩⟩, _⟩ := h
  · rw [h.1] at hb; simp [blk] at hb
  rw [h] at hb; simp [blk] at hb; subst hb; exact hg
variable {P : Program} {TT TL S TS : TypeId} {N sv st si m n k o kf id id2 : Nat}
end Go.Kq

namespace Go.Kq
open Go
def kvSet : List (Nat × V) → Nat → V → List (Nat × V)
  | [], k, x => [(k, x)]
  | p :: r, k, x => if p.1 = k then (k, x) :: r else p :: kvSet r k x
theorem kvSet_keys : ∀ (kv : List (Nat × V)) (k : Nat) (x : V), (kvSet kv k x).map (·.1) = if k ∈ kv.map (·.1) then kv.map (·.1) else kv.map (·.1) ++ [k]
  | [], k, x => by simp [kvSet]
  | p :: r, k, x => by
    unfold kvSet
    by_cases h : p.1 = k
    · simp [h]
    have ih := kvSet_keys r k x;rw [if_neg h, List.map_cons, ih]
    by_cases hk : k ∈ r.map (·.1)
    · rw [if_pos hk, if_pos (by simp only [List.map_cons]; exact List.mem_cons_of_mem _ hk)]; rfl
    rw [if_neg hk, if_neg (by simp only [List.map_cons, List.mem_cons, not_or]; exact ⟨fun e => h e.symm, hk⟩)]; rfl
theorem kvSet_nodup {kv : List (Nat × V)} {k : Nat} {x : V} (h : (kv.map (·.1)).Nodup) : ((kvSet kv k x).map (·.1)).Nodup := by
  rw [kvSet_keys]
  split
  · exact h
  rename_i hk
  rw [List.nodup_append];exact ⟨h, by simp, fun a ha b hb e => by simp at hb; subst hb; exact hk (e ▸ ha)⟩
theorem kvSet_set : ∀ {kv : List (Nat × V)} {j k : Nat} {x y : V}, (kv.map (·.1)).Nodup → kv[j]? = some (k, x) → kvSet kv k y = kv.set j (k, y)
  | [], j, k, x, y, _, h => by simp at h
  | p :: r, 0, k, x, y, _, h => by simp at h; subst h; simp [kvSet]
  | p :: r, j + 1, k, x, y, hn, h => by
    simp only [List.map_cons, List.nodup_cons] at hn;have hm : (k, x) ∈ r := List.mem_of_getElem? (by simpa using h);have hne : p.1 ≠ k := fun e => hn.1 (by rw [e]; exact List.mem_map.2 ⟨_, hm, rfl⟩);rw [kvSet, if_neg hne, kvSet_set hn.2 (by simpa using h)]; rfl
theorem kvSet_push : ∀ {kv : List (Nat × V)} {k : Nat} {y : V}, (∀ p ∈ kv, p.1 ≠ k) → kvSet kv k y = kv ++ [(k, y)]
  | [], k, y, _ => rfl
  | p :: r, k, y, h => by rw [kvSet, if_neg (h p (by simp)), kvSet_push (fun q hq => h q (by simp [hq]))]; rfl
def tagKv : V → List (Nat × V)
  | .t kv => kv
  | _ => []
theorem nodup_sub_len : ∀ {l m : List Nat}, l.Nodup → (∀ x ∈ l, x ∈ m) → l.length ≤ m.length
  | [], m, _, _ => by simp
  | x :: l, m, hn, hs => by
    have hx := hs x (by simp);have := nodup_sub_len (l := l) (m := m.erase x) (List.nodup_cons.1 hn).2 (fun y hy => by
      have hne : y ≠ x := fun e => (List.nodup_cons.1 hn).1 (e ▸ hy);exact (List.mem_erase_of_ne hne).2 (hs y (by simp [hy])))
    rw [List.length_erase_of_mem hx] at this;have := List.length_pos_of_mem hx;simp only [List.length_cons]; omega
theorem nodup_lt_len : ∀ {n : Nat} {l : List Nat}, l.Nodup → (∀ x ∈ l, x < n) → l.length ≤ n := by
  intro n l hn hl;have := nodup_sub_len (m := List.range n) hn (fun x hx => List.mem_range.2 (hl x hx))
  simpa using this
theorem perm_of_same : ∀ {l m : List Nat}, l.Nodup → m.Nodup → (∀ x, x ∈ l ↔ x ∈ m) → l.Perm m
  | [], m, _, _, h => by
    cases m with
    | nil => exact List.Perm.refl _
    | cons y r => exact absurd ((h y).2 (by simp)) (by simp)
  | x :: l, m, hl, hm, h => by
    have hx : x ∈ m := (h x).1 (by simp);refine (List.Perm.cons x (perm_of_same (List.nodup_cons.1 hl).2 (hm.erase x) (fun y => ?_))).trans (List.perm_cons_erase hx).symm
    constructor
    · intro hy;have hne : y ≠ x := fun e => (List.nodup_cons.1 hl).1 (e ▸ hy);exact (List.mem_erase_of_ne hne).2 ((h y).1 (by simp [hy]))
    intro hy;have hne : y ≠ x := fun e => by subst e; exact (List.Nodup.mem_erase_iff hm).1 hy |>.1 rfl
    have := (h y).2 (List.mem_of_mem_erase hy)
    simpa [hne] using this
theorem sorted_eq : ∀ {l m : List Nat}, l.Perm m → l.Pairwise (· ≤ ·) → m.Pairwise (· ≤ ·) → l = m
  | [], m, h, _, _ => (List.Perm.nil_eq h)
  | x :: l, [], h, _, _ => absurd h.length_eq (by simp)
  | x :: l, y :: m, h, h1, h2 => by
    have hxy : x = y := by
      have hx : x ∈ y :: m := h.mem_iff.1 (by simp);have hy : y ∈ x :: l := h.mem_iff.2 (by simp);have a1 : y ≤ x := by
        rcases List.mem_cons.1 hx with e | e
        · omega
        exact (List.pairwise_cons.1 h2).1 x e
      have a2 : x ≤ y := by
        rcases List.mem_cons.1 hy with e | e
        · omega
        exact (List.pairwise_cons.1 h1).1 y e
      omega
    subst hxy;rw [sorted_eq (List.Perm.cons_inv h) (List.pairwise_cons.1 h1).2 (List.pairwise_cons.1 h2).2]
def insKv (p : Nat × V) : List (Nat × V) → List (Nat × V)
  | [] => [p]
  | q :: r => if p.1 ≤ q.1 then p :: q :: r else q :: insKv p r
def sortKv (kv : List (Nat × V)) : List (Nat × V) := kv.foldr insKv []
theorem insKv_perm (p : Nat × V) : ∀ l, (insKv p l).Perm (p :: l)
  | [] => List.Perm.refl _
  | q :: r => by
    unfold insKv
    split
    · exact List.Perm.refl _
    exact ((insKv_perm p r).cons q).trans (List.Perm.swap p q r)
theorem sortKv_perm : ∀ kv, (sortKv kv).Perm kv
  | [] => List.Perm.refl _
  | p :: r => (insKv_perm p _).trans ((sortKv_perm r).cons p)
theorem insKv_sorted (p : Nat × V) : ∀ l, l.Pairwise (fun a b => a.1 ≤ b.1) → (insKv p l).Pairwise (fun a b => a.1 ≤ b.1)
  | [], _ => by simp [insKv]
  | q :: r, h => by
    obtain ⟨h1, h2⟩ := List.pairwise_cons.1 h;unfold insKv
    split
    · rename_i hpq
      refine List.pairwise_cons.2 ⟨fun a ha => ?_, h⟩
      rcases List.mem_cons.1 ha with rfl | ha
      · exact hpq
      exact Nat.le_trans hpq (h1 a ha)
    rename_i hpq
    refine List.pairwise_cons.2 ⟨fun a ha => ?_, insKv_sorted p r h2⟩
    rcases List.mem_cons.1 ((insKv_perm p r).mem_iff.1 ha) with rfl | ha
    · omega
    exact h1 a ha
theorem sortKv_sorted : ∀ kv, (sortKv kv).Pairwise (fun a b => a.1 ≤ b.1)
  | [] => List.Pairwise.nil
  | p :: r => insKv_sorted p _ (sortKv_sorted r)
theorem sortKv_keys {kv : List (Nat × V)} {ks : List Nat} (hp : ks.Perm (kv.map (·.1))) (hs : ks.Pairwise (· ≤ ·)) : (sortKv kv).map (·.1) = ks := by
  refine sorted_eq (((sortKv_perm kv).map _).trans hp.symm) ?_ hs;exact List.pairwise_map.2 (sortKv_sorted kv)
def V.octs : V → List UInt8
  | .s y => y
  | _ => []
def tagsT (x : V) : List (Nat × List UInt8) := (sortKv (tagKv x)).map fun p => (p.1, p.2.octs)
end Go.Kq

namespace Go.Kq
open Go Go.Proofs
def cellsAt (w : World) (b o n : Nat) : List Value := (List.range n).map fun j => (w.cell? ⟨b, o + j, none⟩).getD undef
theorem range_cellsAt {w : World} {b o : Nat} {es : List Value} (h : w.rangeAt b o es) : es = cellsAt w b o es.length := by
  apply List.ext_getElem?
  intro j;unfold cellsAt;rw [List.getElem?_map]
  by_cases hj : j < es.length
  · rw [List.getElem?_range hj];have := h j es[j] (by simp [hj]);simp [this, hj]
  rw [List.getElem?_eq_none (by omega), List.getElem?_eq_none (by simp; omega)]; rfl
theorem results_cell {P : Program} {fn : Func} {t : Nat} {T : TypeId} {z : List Value} {a : Act} {w : World} {b o : Nat} {cs : List Value} (h : fn.results = #[.cell t T]) (hT : Flat P T z) (hl : cs.length = z.length) (ha : get a t = .pointer (some ⟨b, o, none⟩)) (hc : w.rangeAt b o cs) :
    (results fn a.tmps).run P w = .ok (.agg cs.toArray) w := by
  obtain ⟨_, hs, fs, hu, _⟩ := hT;have hr := run_loadVar_mid (P := P) w b o T cs _ hc hu rfl (by rw [hs, hl]);have ha' : a.tmps[t]?.getD undef = .pointer (some ⟨b, o, none⟩) := by rw [← Array.getD_eq_getD_getElem?]; exact ha
  simp only [results, h];simp [ha', asAddr, hr]
end Go.Kq

namespace Go.Kq
open Go Go.Proofs
variable {P : Program} {a : Act} {w : World} {K : Act → World → Prop} {Q : Exit → Act → World → Prop} {d : Option Tmp} {t : TypeId} {p : String} {af : Array Edge} {g : Option (Nat × Bool)}
theorem Things.slice {w : World} {A : Nat → Prop} {v : Value} {l : List T} (h : Things w A v l) : ∃ q cap, v = .slice q l.length cap := by
  rcases h with ⟨rfl | ⟨a, rfl⟩, rfl⟩ | ⟨b, o, cap, _, rfl, _⟩
  · exact ⟨none, 0, rfl⟩
  · exact ⟨some a, 0, rfl⟩
  exact ⟨_, _, rfl⟩
theorem TagsR.slice {w : World} {A : Nat → Prop} {v : Value} {l : List (Nat × List UInt8)} (h : TagsR w A v l) : ∃ q cap, v = .slice q l.length cap := by
  rcases h with ⟨rfl | ⟨a, rfl⟩, rfl⟩ | ⟨b, o, cap, _, rfl, _⟩
  · exact ⟨none, 0, rfl⟩
  · exact ⟨some a, 0, rfl⟩
  exact ⟨_, _, rfl⟩
end Go.Kq

namespace Go.Kq
open Go Go.Proofs
theorem Things.at {w : World} {A : Nat → Prop} {v : Value} {l : List T} (h : Things w A v l) {j : Nat} (hj : j < l.length) : ∃ b o cap es, v = .slice (some ⟨b, o, none⟩) l.length cap ∧ w.rangeAt b (o + j * 5) es ∧ RepT w A es (l[j]) := by
  rcases h with ⟨_, rfl⟩ | ⟨b, o, cap, _, rfl, _, es, h1, h2⟩
  · simp at hj
  exact ⟨b, o, cap, es j, rfl, h1 j l[j] (by simp [hj]), h2 j l[j] (by simp [hj])⟩
theorem TagsR.at {w : World} {A : Nat → Prop} {v : Value} {u : List (Nat × List UInt8)} (h : TagsR w A v u) {j : Nat} (hj : j < u.length) : ∃ b o cap xv, v = .slice (some ⟨b, o, none⟩) u.length cap ∧ w.rangeAt b (o + j * 2) [.int .u32 (u[j]).1, xv] ∧ OctE w A xv (u[j]).2 := by
  rcases h with ⟨_, rfl⟩ | ⟨b, o, cap, _, rfl, _, h1⟩
  · simp at hj
  obtain ⟨xv, _, h2, h3⟩ := h1 j (u[j]).1 (u[j]).2 (by simp [hj]);exact ⟨b, o, cap, xv, rfl, h2, h3⟩
theorem Things.big {w : World} {A : Nat → Prop} {v : Value} {l : List T} (h : Things w A v l) : l.length ≤ 4294967296 := by
  rcases h with ⟨_, rfl⟩ | ⟨_, _, _, _, _, h, _⟩
  · simp
  exact h.2
theorem TagsR.big {w : World} {A : Nat → Prop} {v : Value} {u : List (Nat × List UInt8)} (h : TagsR w A v u) : u.length ≤ 4294967296 := by
  rcases h with ⟨_, rfl⟩ | ⟨_, _, _, _, _, h, _⟩
  · simp
  exact h.2
end Go.Kq

namespace Go.Kq
open Go Go.Proofs
theorem T.ind {M : T → Prop} (h : ∀ n s nl l u, (∀ y ∈ l, M y) → M (.mk n s nl l u)) : ∀ t, M t
  | .mk n s nl l u => h n s nl l u fun y hy => T.ind h y
termination_by t => SizeOf.sizeOf t
decreasing_by
  have := List.sizeOf_lt_of_mem hy;simp
  omega
end Go.Kq

namespace Go.Kq
open Go Go.Proofs
def GotCall (P : Program) (f : FuncId) (y : T) : Prop :=
  ∀ (w : World) (A : Nat → Prop) (c : List Value), RepT w A c y → (∀ b, A b → b < w.heap.size) → Calls P f #[.agg c.toArray] w fun e w' => ∃ c' : List Value, e = .returned (.agg c'.toArray) ∧ Fr [] w w' ∧ RepT w' (fun b => A b ∨ From w.heap.size w' b) c' y
structure GE where
  b1 : Nat
  rb : Nat
  ob : Nat
  s0 : Nat
  s1 : Nat
  A : Nat → Prop
structure GM (w : World) (e : GE) (c1 : List Value) (n : Int) (sv : Value) (nl : Bool) (lv uv : Value) : Prop where
  r1 : w.rangeAt e.b1 0 c1
  ro : w.rangeAt e.ob 0 [.int .i64 n, sv, .bool nl, lv, uv]
  to : w.there e.ob 0 5
  tr : w.there e.rb 0 5
  a0 : ∀ b, e.A b → b < e.s0
  ob0 : e.s0 ≤ e.ob
  ob1 : e.ob < e.s1
  rb0 : e.s0 ≤ e.rb
  rb1 : e.rb < e.s1
  b10 : e.s0 ≤ e.b1
  b11 : e.b1 < e.s1
  n1 : e.b1 ≠ e.ob
  n2 : e.rb ≠ e.ob
  top : e.s1 ≤ w.heap.size
theorem GM.kept {w w' : World} {e : GE} {c1 : List Value} {n : Int} {sv : Value} {nl : Bool} {lv uv : Value} {r : List Rng} (h : GM w e c1 n sv nl lv uv) (hf : Fr r w w') (hr : ∀ x ∈ r, e.s1 ≤ x.b) : GM w' e c1 n sv nl lv uv := by
  obtain ⟨h1, h2, h3, h4, h5, h6, h7, h8, h9, h10, h11, h12, h13, h14⟩ := h;exact ⟨hf.range h1 (fun x hx => .inl (by have := hr x hx; omega)), hf.range h2 (fun x hx => .inl (by have := hr x hx; omega)), hf.there h3, hf.there h4, h5, h6, h7, h8, h9, h10, h11, h12, h13, Nat.le_trans h14 hf.size⟩
theorem GM.setL {w : World} {e : GE} {c1 : List Value} {n : Int} {sv : Value} {nl : Bool} {lv uv : Value} (h : GM w e c1 n sv nl lv uv) (x : Value) : GM (w.setCell ⟨e.ob, 3, none⟩ x) e c1 n sv nl x uv ∧ Fr [⟨e.ob, 0, 5⟩] w (w.setCell ⟨e.ob, 3, none⟩ x) := by
  have hf := Fr.set w e.ob 3 x;obtain ⟨h1, h2, h3, h4, h5, h6, h7, h8, h9, h10, h11, h12, h13, h14⟩ := h;refine ⟨⟨hf.range h1 (.cons (.inl (fun h => h12 h.symm)) .nil), ?_, hf.there h3, hf.there h4, h5, h6, h7, h8, h9, h10, h11, h12, h13, Nat.le_trans h14 hf.size⟩, hf.mono ?_⟩
  · simp only [range_cons] at h2 ⊢;obtain ⟨c0, c1, c2, c3, c4, _⟩ := h2;exact ⟨hf.cell c0 (.cons (.inr (.inl (by simp))) .nil), hf.cell c1 (.cons (.inr (.inl (by simp))) .nil), hf.cell c2 (.cons (.inr (.inl (by simp))) .nil), range_set (there_part h3 (by omega) (by omega)), hf.cell c4 (.cons (.inr (.inr (by simp))) .nil), range_nil⟩
  intro r hr; simp at hr; subst hr;exact .inr ⟨⟨e.ob, 0, 5⟩, by simp, rfl, by simp, by simp⟩
theorem GM.setU {w : World} {e : GE} {c1 : List Value} {n : Int} {sv : Value} {nl : Bool} {lv uv : Value} (h : GM w e c1 n sv nl lv uv) (x : Value) : GM (w.setCell ⟨e.ob, 4, none⟩ x) e c1 n sv nl lv x ∧ Fr [⟨e.ob, 0, 5⟩] w (w.setCell ⟨e.ob, 4, none⟩ x) := by
  have hf := Fr.set w e.ob 4 x;obtain ⟨h1, h2, h3, h4, h5, h6, h7, h8, h9, h10, h11, h12, h13, h14⟩ := h;refine ⟨⟨hf.range h1 (.cons (.inl (fun h => h12 h.symm)) .nil), ?_, hf.there h3, hf.there h4, h5, h6, h7, h8, h9, h10, h11, h12, h13, Nat.le_trans h14 hf.size⟩, hf.mono ?_⟩
  · simp only [range_cons] at h2 ⊢;obtain ⟨c0, c1, c2, c3, c4, _⟩ := h2;exact ⟨hf.cell c0 (.cons (.inr (.inl (by simp))) .nil), hf.cell c1 (.cons (.inr (.inl (by simp))) .nil), hf.cell c2 (.cons (.inr (.inl (by simp))) .nil), hf.cell c3 (.cons (.inr (.inl (by simp))) .nil), range_set (there_part h3 (by omega) (by omega)), range_nil⟩
  intro r hr; simp at hr; subst hr;exact .inr ⟨⟨e.ob, 0, 5⟩, by simp, rfl, by simp, by simp⟩
def GE.C (e : GE) (w : World) (b : Nat) : Prop := e.A b ∨ From e.s1 w b
theorem GE.C_mono {e : GE} {w w' : World} (h : w.heap.size ≤ w'.heap.size) (b : Nat) (hb : e.C w b) : e.C w' b := hb.imp (fun h => h) (From.mono h b)
def GL (w : World) (e : GE) (lv : Value) (l : List T) : Prop := LOwn w (e.C w) lv l ∧ ∀ b, blk lv = some b → e.s1 ≤ b
theorem spare_blk {v : Value} {sz : Nat} : ∀ r ∈ spare v sz, blk v = some r.b := by
  intro r hr;unfold spare at hr
  split at hr
  · simp at hr; subst hr; rfl
  cases hr
theorem got_app {P : Program} {T27 T32 T35 bs : TypeId} {f11 : FuncId} {a0 : Array TypeId} {i5 : Nat}
    {t22 t23 t24 t25 t26 t27 t28 t29 : TypeId} {p22 p23 p24 p25 p26 p27 p28 p29 : String} {e22 e23 e24 e25 e26 e27 e28 e29 : Array Edge}
    (hT : Flat P T35 zT) (hT27 : Flat P T27 zT) (hz0 : zeroIs P T35 zT) (hT32 : scal P T32 = true) (hT32s : sliceOf P T32 T35 5 bs = true) (hbs : bs ≤ 1024) (hmx : P.follows .mixedOrders = true) (henter : Enters P f11)
    (he : edgeOk 0 [e22, e23, e24, e25, e26, e27, e28, e29] [[], [0], [], [2], [3], [1, 4], [], [0, 1, 2, 3, 4, 5, 6]] = true)
    {a : Act} {w : World} {K : Act → World → Prop} {Q : Exit → Act → World → Prop} {e : GE} {c1 : List Value} {n : Int} {sv : Value} {nl : Bool} {lv uv : Value} {l : List T} {y : T} {xb : Nat} {es : List Value}
    (hsz : a.tmps.size = 49) (g3 : get a 3 = .pointer (some ⟨e.ob, 0, none⟩)) (g5 : get a 5 = .pointer (some ⟨xb, 0, none⟩)) (hm : GM w e c1 n sv nl lv uv) (hl : GL w e lv l) (hll : l.length < 4294967296)
    (hxb : w.rangeAt xb 0 es) (hes : RepT w e.A es y) (hxs : e.s1 ≤ xb) (hxl : ∀ b, blk lv = some b → b ≠ xb) (hcall : GotCall P f11 y)
    (hk : ∀ a' w' lv', Kept 22 a a' → (∃ r : List Rng, (∀ x ∈ r, e.s1 ≤ x.b) ∧ Fr (⟨e.ob, 0, 5⟩ :: r) w w') → GM w' e c1 n sv nl lv' uv → GL w' e lv' (l ++ [y]) → K a' w') :
    (Code.region i5 ⟨[oF 22 T35 3 3 t22 p22 e22, oL 23 T32 22 t23 p23 e23, oL 24 T27 5 t24 p24 e24, oC 25 f11 #[(.tmp 24)] a0 t25 p25 e25, ⟨some 26, .buildSlice T32 1 #[(0, .tmp 25)], t26, p26, e26, none⟩, ⟨some 27, .call ⟨.builtin .append, #[(.tmp 23), (.tmp 26)], #[T32, T32]⟩, t27, p27, e27, none⟩, oF 28 T35 3 3 t28 p28 e28, oS T32 28 27 t29 p29 e29]⟩ true).wp P (Exit.then K Q) a w := by
  obtain ⟨hlo, hbl⟩ := hl;have hs1 := hm.top;have hs01 : e.s0 ≤ e.s1 := Nat.le_trans hm.ob0 (Nat.le_of_lt hm.ob1);have hAw : ∀ b, e.A b → b < w.heap.size := fun b hb => by have := hm.a0 b hb; omega
  have hCw : ∀ w' : World, w.heap.size ≤ w'.heap.size → ∀ b, e.C w b → b < w'.heap.size := fun w' h b hb => by
    rcases hb with hb | hb
    · have := hAw b hb; omega
    exact Nat.lt_of_lt_of_le hb.2 h
  have hblw : ∀ b, blk lv = some b → e.s1 ≤ b ∧ b < w.heap.size := fun b hb => ⟨hbl b hb, hCw w (Nat.le_refl _) b (hlo.blk_in hb)⟩;have hsp : ∀ r ∈ spare lv 5, e.s1 ≤ r.b ∧ r.b < w.heap.size := fun r hr => hblw _ (spare_blk r hr);have hnA : ∀ r ∈ spare lv 5, ¬ e.A r.b := fun r hr hA => by have := hm.a0 _ hA; have := (hsp r hr).1; omega
  have hnC : ∀ r ∈ spare lv 5, ∀ w1 : World, ¬ (e.A r.b ∨ From w.heap.size w1 r.b) := fun r hr w1 hF => by
    rcases hF with hF | hF
    · exact hnA r hr hF
    have := (hsp r hr).2; have := hF.1; omega
  refine wp_drawE (os := [oF 22 T35 3 3 t22 p22 e22, oL 23 T32 22 t23 p23 e23, oL 24 T27 5 t24 p24 e24, oC 25 f11 #[(.tmp 24)] a0 t25 p25 e25, ⟨some 26, .buildSlice T32 1 #[(0, .tmp 25)], t26, p26, e26, none⟩, ⟨some 27, .call ⟨.builtin .append, #[(.tmp 23), (.tmp 26)], #[T32, T32]⟩, t27, p27, e27, none⟩, oF 28 T35 3 3 t28 p28 e28])
    [spC [] (.pointer (some ⟨e.ob, 0 + 3, none⟩)), spC [0] lv, spC [] (.agg es.toArray), spR [2] (fun v w' => ∃ cs : List Value, v = .agg cs.toArray ∧ RepT w' (fun b => e.A b ∨ From w.heap.size w' b) cs y),
      spR [3] (fun v w' => ∃ (b : Nat) (cs : List Value), v = .slice (some ⟨b, 0, none⟩) 1 1 ∧ w.heap.size ≤ b ∧ w'.rangeAt b 0 cs ∧ RepT w' (fun b => e.A b ∨ From w.heap.size w' b) cs y),
      spW [1, 4] (fun v w' => GL w' e v (l ++ [y])), spC [] (.pointer (some ⟨e.ob, 0 + 3, none⟩))] 22 (spare lv 5) hmx he (by simp [shape]) rfl (by simp [spC, spR, spW]) (by simp; omega)
    ⟨lCc _ _ _, lCc _ _ _, lCc _ _ _, ?_, ?_, ?_, lCc _ _ _, trivial⟩ ?_ ?_
  · rintro v w1 w2 hf12 ⟨cs, h1, h2⟩;exact ⟨cs, h1, h2.kept hf12 (fun r hr => hnC r hr w1) (fun b hb => hb.imp (fun h => h) (From.mono hf12.size b))⟩
  · rintro v w1 w2 hf12 ⟨b, cs, h1, h2, h3, h4⟩;exact ⟨b, cs, h1, h2, hf12.range h3 (fun r hr => .inl (by have := (hsp r hr).2; omega)), h4.kept hf12 (fun r hr => hnC r hr w1) (fun b hb => hb.imp (fun h => h) (From.mono hf12.size b))⟩
  · intro v w1 w2 hf12 h1;have hf12 : Fr [] w1 w2 := hf12;have h1 : GL w1 e v (l ++ [y]) := h1;exact ⟨h1.1.kept hf12 (by simp) (GE.C_mono hf12.size), h1.2⟩
  · refine ⟨op_c fun a' w' hk' hf' hd' K' hK' => ?_, op_c fun a' w' hk' hf' hd' K' hK' => ?_, op_c fun a' w' hk' hf' hd' K' hK' => ?_, op_r fun a' w' hk' hf' hd' K' hK' => ?_, op_r fun a' w' hk' hf' hd' K' hK' => ?_, op_w fun a' w' hk' hf' hd' K' hK' => ?_, op_c fun a' w' hk' hf' hd' K' hK' => ?_, trivial⟩
    · exact wFa (hT.field (by decide)) (by rw [eTm, hk'.get 3 (by omega), g3]) hK'
    · exact wp_load hT32 (by rw [eTm]; exact hd'.c 0 (by simp) rfl) ((hm.kept hf' (fun r hr => (hsp r hr).1)).ro 3 _ rfl) hK'
    · exact wp_loadFlat hT27 (cs := es) (by rw [hes.length]; rfl) (by rw [eTm, hk'.get 5 (by omega), g5]) (hf'.range hxb (fun r hr => .inl (hxl _ (spare_blk r hr)))) hK'
    · have hwf := hf'.size;refine wp_calls henter (vs := #[.agg es.toArray]) (by simp [eTm, hd'.c 2 (by simp) rfl]) (R := fun v w2 => ∃ cs : List Value, v = .agg cs.toArray ∧ Fr [] w' w2 ∧ RepT w2 (fun b => e.A b ∨ From w'.heap.size w2 b) cs y)
        ((hcall w' e.A es (hes.kept hf' hnA (fun _ h => h)) (fun b hb => by have := hAw b hb; omega)).mono (by rintro e' w2 ⟨cs, rfl, h1, h2⟩; exact ⟨_, rfl, cs, rfl, h1, h2⟩)) ?_
      rintro v w2 ⟨cs, rfl, h1, h2⟩;exact hK' _ _ ⟨cs, rfl, h2.kept (Fr.refl [] w2) (by simp) (fun b hb => hb.imp (fun h => h) (fun h => ⟨by have := h.1; omega, h.2⟩))⟩ h1
    · obtain ⟨cs, h1, h2⟩ := hd'.at (d := 3) (by simp) rfl;have hwf := hf'.size;refine wp_slice1 hT32s hz0 rfl (by omega) (cs := cs) (by rw [eTm, h1]; rfl) h2.length fun _ => ?_;have hal := Fr.alloc [] w' (.cells cs.toArray T35);exact hK' _ _ ⟨_, cs, rfl, hwf, range_new w' cs.toArray T35 (0, 0), h2.kept hal (by simp) (fun b hb => hb.imp (fun h => h) (From.mono hal.size b))⟩ hal
    · obtain ⟨bb, cs, h1, h2, h3, h4⟩ := hd'.at (d := 4) (by simp) rfl;have hlv : get a' (22 + 1) = lv := hd'.c 1 (by simp) rfl;have hwf := hf'.size;obtain ⟨flat, ho1, ho2⟩ := hlo.spares hf' (A' := e.C w') (GE.C_mono hf'.size);have hc4 := h4.length;have hmul : (l.length + 1) * bs ≤ 4294967296 * 1024 := Nat.mul_le_mul (by omega) hbs;refine wp_append (A := e.C w') (z := zT) hT32s hz0 rfl (by rw [eTm, hlv]) (by rw [eTm, h1]) ho1 (by omega) (news := cs) (by omega) h3 h4.ones (by omega) (by simp only [maxLen]; omega) ?_;intro v' w2 hf2 ho' hbk;have hf2s := hf2.size;have hCw' : ∀ b, e.C w' b → e.C w2 b ∧ b < w'.heap.size := fun b hb => ⟨GE.C_mono hf2s b hb, by
        rcases hb with hb | hb
        · have := hAw b hb; omega
        · exact hb.2⟩
      refine hK' _ _ ⟨LOwn.app (A' := e.C w2) ho2 ho1 hf2 ?_ hbk hCw' h4 ?_, ?_⟩ hf2
      · obtain ⟨ha, hb⟩ := ho';refine ⟨ha, hb.imp (fun h => h) ?_⟩;rintro ⟨g', o', cap', hg', hrest⟩;refine ⟨g', o', cap', ?_, hrest⟩
        rcases hg' with hg' | hg'
        · exact (hCw' _ hg').1
        exact .inr ⟨by have := hg'.1; omega, hg'.2⟩
      · intro b hb
        rcases hb with hb | hb
        · refine ⟨.inl hb, fun hbl' => ?_⟩;have := (hblw b hbl').1; have := hm.a0 b hb; omega
        refine ⟨.inr ⟨by have := hb.1; omega, hb.2⟩, fun hbl' => ?_⟩;have := (hblw b hbl').2; have := hb.1; omega
      intro b hb
      rcases hbk with h | h
      · rw [h] at hb; exact hbl b hb
      rw [h] at hb; simp at hb; omega
    exact wFa (hT.field (by decide)) (by rw [eTm, hk'.get 3 (by omega), g3]) hK'
  intro a' w' hk' hf' hd';have g28 : get a' 28 = .pointer (some ⟨e.ob, 3, none⟩) := hd'.c (nd' := []) (x := .pointer (some ⟨e.ob, 0 + 3, none⟩)) 6 (by simp) rfl;have h27 : GL w' e (get a' 27) (l ++ [y]) := hd'.at (d := 5) (by simp) rfl;have hmw := hm.kept hf' (fun r hr => (hsp r hr).1);obtain ⟨h5, h6⟩ := hmw.setL (get a' 27);refine wp_store hT32 (by rw [eTm, g28]) rfl h27.1.one (there_part hmw.to (by omega) (by omega)) ?_;have hob := hm.ob1;refine hk _ _ _ hk' ⟨spare lv 5, fun r hr => (hsp r hr).1, ?_⟩ h5 ⟨h27.1.kept h6 ?_ (GE.C_mono h6.size), h27.2⟩
  · refine (hf'.mono (l' := ⟨e.ob, 0, 5⟩ :: spare lv 5) (fun r hr => Rng.in_self (List.mem_cons_of_mem _ hr))).trans h6 ?_;intro r hr; simp at hr; subst hr; exact Rng.in_self (by simp)
  intro r hr hF; simp at hr; subst hr
  rcases hF with hF | hF
  · have := hm.a0 _ hF; have := hm.ob0; simp only at *; omega
  have := hF.1; simp only at *; omega
end Go.Kq

namespace Go.Kq
open Go Go.Proofs
theorem GE.notA {w : World} {e : GE} {c1 : List Value} {n : Int} {sv : Value} {nl : Bool} {lv uv : Value} (h : GM w e c1 n sv nl lv uv) {r : List Rng} (hr : ∀ x ∈ r, e.s1 ≤ x.b) : ∀ x ∈ (⟨e.ob, 0, 5⟩ : Rng) :: r, ¬ e.A x.b := by
  intro x hx hA;have h1 := h.a0 _ hA
  rcases List.mem_cons.1 hx with rfl | hx
  · have := h.ob0; simp only at *; omega
  have := hr x hx; have := h.ob0; have := h.ob1; omega
theorem r_boxed {P : Program} {T24 T27 et bs : TypeId} {i4 m : Nat} {z : List Value} {sa si sx sv1 sv2 : Nat} {t16 t17 t18 t19 : TypeId} {p16 p17 p18 p19 : String} {e16 e17 e18 e19 : Array Edge}
    (hT : Flat P T27 z) (hs : sliceOf P T24 et z.length bs = true) {a : Act} {w : World} {K : Act → World → Prop} {Q : Exit → Act → World → Prop} {b o len cap j : Nat} {es : List Value}
    (ga : get a sa = .slice (some ⟨b, o, none⟩) len cap) (gi : get a si = .int .i64 j) (hj : j < len) (hes : w.rangeAt b (o + j * z.length) es) (hl : es.length = z.length) (h1 : ∀ u ∈ es, u.oneCell' = true)
    (hb : sv1 + 1 = sv2 ∧ sv2 < a.tmps.size ∧ sx < a.tmps.size ∧ sx < sv1 ∧ m ≤ sx ∧ m ≤ sv1)
    (hk : ∀ a' w', Kept m a a' → (∀ t, t < sv1 → t ≠ sx → get a' t = get a t) → get a' sx = .pointer (some ⟨w.heap.size, 0, none⟩) → Fr [] w w' → w.heap.size < w'.heap.size → w'.rangeAt w.heap.size 0 es → K a' w') :
    (Code.region i4 ⟨[⟨some sv1, .indexAddr T24 (.tmp sa) (.tmp si), t16, p16, e16, none⟩, oL sv2 T27 sv1 t17 p17 e17, ⟨some sx, .alloc T27, t18, p18, e18, none⟩, oS T27 sx sv2 t19 p19 e19]⟩ false).wp P (Exit.then K Q) a w := by
  obtain ⟨rfl, q2, q3, q4, q5, q6⟩ := hb;refine wp_reg ?_;refine wC (wp_indexAddr hs (by rw [eTm, ga]) (by rw [eTm, gi]) (by omega) (by omega) ?_);refine wC (wp_loadFlat hT (cs := es) (b := b) (o := o + j * z.length) hl (by rw [eTm, gQ]; simp) hes ?_);refine wC (wp_alloc hT.zero ?_);rw [wCo];have hal := Fr.alloc [] w (.cells (Value.agg z.toArray).cells T27);have hth : (w.alloc (.cells (Value.agg z.toArray).cells T27)).there w.heap.size 0 es.length := by
    have := there_new w z.toArray T27;rw [hl];rw [List.size_toArray] at this;exact this
  have hsz := size_alloc w (.cells (Value.agg z.toArray).cells T27);refine wp_storeFlat hT (cs := es) (b := w.heap.size) (o := 0) hl (by rw [eTm, gQ]) (by rw [eTm, gR, gQ]) h1 hth ?_;rw [wNi, pNo];have hf := Fr.sets w.heap.size es (w.alloc (.cells (Value.agg z.toArray).cells T27)) 0;have hfs := hf.size;refine hk _ _ (((Kept.put0 q6 _).put (by omega) _).put q5 _) (fun t h1 h2 => by rw [gPn (fun e => h2 e.symm), gR, gR]) (gQ) (hal.trans hf ?_) (by omega) (World.rangeAt_setCells_same _ _ _ _ hth);intro r hr; simp at hr; subst hr; exact .inl (Nat.le_refl _)
theorem got_loopL {P : Program} {T3 T24 T27 T32 T35 bs bs2 : TypeId} {f11 : FuncId} {a0 : Array TypeId} {i2 i3 i4 i5 i6 : Nat}
    {t11 t12 t13 t14 t15 t16 t17 t18 t19 t20 t21 t22 t23 t24 t25 t26 t27 t28 t29 : TypeId} {p11 p12 p13 p14 p15 p16 p17 p18 p19 p20 p21 p22 p23 p24 p25 p26 p27 p28 p29 : String} {e11 e12 e13 e14 e15 e16 e17 e18 e19 e20 e21 e22 e23 e24 e25 e26 e27 e28 e29 : Array Edge}
    (hT : Flat P T35 zT) (hT27 : Flat P T27 zT) (hz0 : zeroIs P T35 zT) (hT24 : scal P T24 = true) (hT24s : sliceOf P T24 T27 5 bs2 = true) (hT32 : scal P T32 = true) (hT32s : sliceOf P T32 T35 5 bs = true) (hbs : bs ≤ 1024) (hmx : P.follows .mixedOrders = true) (henter : Enters P f11)
    (he : edgeOk 0 [e20, e21, e22, e23, e24, e25, e26, e27] [[], [0], [], [2], [3], [1, 4], [], [0, 1, 2, 3, 4, 5, 6]] = true)
    {a : Act} {w : World} {K : Act → World → Prop} {Q : Exit → Act → World → Prop} {e : GE} {n n1 : Int} {sv s1 : Value} {nl nl1 : Bool} {l1 u1 uv : Value} {l : List T}
    (hsz : a.tmps.size = 49) (g1 : get a 1 = .pointer (some ⟨e.b1, 0, none⟩)) (g3 : get a 3 = .pointer (some ⟨e.ob, 0, none⟩)) (hm : GM w e [.int .i64 n1, s1, .bool nl1, l1, u1] n sv nl (.slice none 0 0) uv) (ht : Things w e.A l1 l)
    (hcall : ∀ y ∈ l, GotCall P f11 y)
    (hk : ∀ a' w' lv', Kept 4 a a' → (∃ r : List Rng, (∀ x ∈ r, e.s1 ≤ x.b) ∧ Fr (⟨e.ob, 0, 5⟩ :: r) w w') → GM w' e [.int .i64 n1, s1, .bool nl1, l1, u1] n sv nl lv' uv → GL w' e lv' l → K a' w') :
    (Code.seq (Code.region i2 ⟨[oF 15 T27 1 3 t11 p11 e11, oL 16 T24 15 t12 p12 e12, ⟨some 17, .call ⟨.builtin .len, #[(.tmp 16)], #[T24]⟩, t13, p13, e13, none⟩, ⟨some 18, .move (.const (.int .i64 0)), t14, p14, e14, none⟩]⟩ false) (.block 0 (.loop (.seq (Code.region i3 ⟨[⟨some 19, .binOp .lss T3 (.tmp 18) (.tmp 17) T3, t15, p15, e15, none⟩]⟩ false) (.seq (.cond (.tmp 19) .skip (.exit 0)) (.seq (.block 1 (.seq (Code.region i4 ⟨[⟨some 20, .indexAddr T24 (.tmp 16) (.tmp 18), t16, p16, e16, none⟩, oL 21 T27 20 t17 p17 e17, ⟨some 5, .alloc T27, t18, p18, e18, none⟩, oS T27 5 21 t19 p19 e19]⟩ false)
              (Code.region i5 ⟨[oF 22 T35 3 3 t20 p20 e20, oL 23 T32 22 t21 p21 e21, oL 24 T27 5 t22 p22 e22, oC 25 f11 #[(.tmp 24)] a0 t23 p23 e23, ⟨some 26, .buildSlice T32 1 #[(0, .tmp 25)], t24, p24, e24, none⟩, ⟨some 27, .call ⟨.builtin .append, #[(.tmp 23), (.tmp 26)], #[T32, T32]⟩, t25, p25, e25, none⟩, oF 28 T35 3 3 t26 p26 e26, oS T32 28 27 t27 p27 e27]⟩ true)))
            (Code.region i6 ⟨[⟨some 29, .binOp .add T3 (.tmp 18) (.const (.int .i64 1)) T3, t28, p28, e28, none⟩, oM 18 29 t29 p29 e29]⟩ false))))))).wp P (Exit.then K Q) a w := by
  have hbig := ht.big;obtain ⟨ql1, cl1, hl1⟩ := ht.slice;refine wS fun K5 hK5 => ?_;refine wC (wFa (hT27.field (k := 3) (by decide)) (by rw [eTm, g1]) ?_);refine wC (wp_load hT24 (by rw [eTm, gQ]) (hm.r1 3 l1 rfl) ?_);refine wC (wp_len hT24s (by rw [eTm, gQ, hl1]) ?_);rw [wCo, wMw, eCo, wNi];generalize ha3 : (((a.put (some 15) (.pointer (some ⟨e.b1, 0 + 3, none⟩))).put (some 16) l1).put (some 17) (.int .i64 l.length)).put (some 18) (.int .i64 0) = a3;have k3 : Kept 4 a a3 := by subst ha3; exact (((Kept.put0 (by omega) _).put (by omega) _).put (by omega) _).put (by omega) _
  have g16 : get a3 16 = l1 := by subst ha3; rw [gR, gR, gQ]
  have g17 : get a3 17 = .int .i64 l.length := by subst ha3; rw [gR, gQ]
  have g18 : get a3 18 = .int .i64 0 := by subst ha3; rw [gQ]
  refine hK5 a3 w ?_;refine wp_block (wp_loop (fun a' w' => ∃ (j : Nat) (lv : Value), j ≤ l.length ∧ Kept 4 a a' ∧ get a' 16 = l1 ∧ get a' 17 = .int .i64 l.length ∧ get a' 18 = .int .i64 j ∧ GM w' e [.int .i64 n1, s1, .bool nl1, l1, u1] n sv nl lv uv ∧ GL w' e lv (l.take j) ∧
    ∃ r : List Rng, (∀ x ∈ r, e.s1 ≤ x.b) ∧ Fr (⟨e.ob, 0, 5⟩ :: r) w w') (fun a' _ => l.length - idxOf (get a' 18)) ?_ ?_)
  · exact ⟨0, _, Nat.zero_le _, k3, g16, g17, g18, hm, ⟨by simpa using LOwn.nil, by simp [blk]⟩, [], by simp, Fr.refl _ _⟩
  rintro a4 w4 ⟨j, lv, hj, k4, ga, gl, gi, hm4, hl4, r, hr, f4⟩;have hz4 := k4.size;refine wS fun K6 hK6 => ?_;refine wC (wp_lss (k1 := .i64) (i := j) (j := l.length) (by rw [eTm, gi]) (by rw [eTm, gl]) ?_);rw [wNi];generalize ha5 : a4.put (some 19) (.bool (decide ((j : Int) < l.length))) = a5;have k5 : Kept 19 a4 a5 := by subst ha5; exact Kept.put0 (Nat.le_refl _) _
  have g19 : get a5 19 = .bool (decide ((j : Int) < l.length)) := by subst ha5; exact gQ
  have hz5 := k5.size;refine hK6 a5 w4 ?_;refine wp_seq_k fun K7 hK7 => ?_;refine wp_cond_split (t := decide ((j : Int) < l.length)) (by rw [eTm, g19]) ?_ ?_
  · intro hlt;have hjl : j < l.length := by simpa using hlt
    refine wp_skip (hK7 a5 w4 ?_);refine wp_seq_k fun K8 hK8 => ?_;refine wp_block (wp_mono (show Code.wp P _ (Exit.then K8 (Exit.inBlock 1 (Exit.then K8 _))) a5 w4 from ?_) (fun _ _ _ => inBlock_then));refine wp_seq_k fun K9 hK9 => ?_;have ht4 := ht.kept f4 (GE.notA hm hr) (fun _ h => h);obtain ⟨bb, oo, cc, es, hv, hres, htr⟩ := ht4.at hjl;refine r_boxed (m := 4) (z := zT) (et := T27) (bs := bs2) (b := bb) (o := oo) (len := l.length) (cap := cc) (j := j) hT27 hT24s (by rw [k5.get 16 (by omega), ga, hv]) (by rw [k5.get 18 (by omega), gi]) hjl hres htr.length htr.ones ⟨rfl, by omega, by omega, by omega, by omega, by omega⟩ fun a6 w6 k6 hkeep g5 f6 hlt6 hxr => hK9 a6 w6 ?_;have hz6 := k6.size;have hm6 := hm4.kept f6 (by simp);have hlen : (l.take j).length = j := by simp; omega
    have hblt : ∀ b, blk lv = some b → b < w4.heap.size := fun b hb => by
      rcases hl4.1.blk_in hb with h | h
      · have := hm4.a0 b h; have := hm4.ob0; have := hm4.ob1; have := hm4.top; omega
      exact h.2
    refine got_app (xb := w4.heap.size) (es := es) (y := l[j]) hT hT27 hz0 hT32 hT32s hbs hmx henter he (by omega) (by rw [hkeep 3 (by omega) (by omega), k5.get 3 (by omega), k4.get 3 (by omega), g3]) g5 hm6 ⟨hl4.1.kept f6 (by simp) (GE.C_mono f6.size), hl4.2⟩ (by omega) hxr
      (htr.kept f6 (by simp) (fun _ h => h)) hm4.top (fun b hb h => by have := hblt b hb; omega) (hcall _ (List.getElem_mem hjl)) ?_
    rintro a7 w7 lv' k7 ⟨r', hr', f7⟩ hm7 hl7;refine hK8 a7 w7 ?_;have hz7 := k7.size;have g18' : get a7 18 = .int .i64 j := by rw [k7.get 18 (by omega), hkeep 18 (by omega) (by omega), k5.get 18 (by omega), gi]
    refine wp_reg ?_;refine wC (wp_add (k1 := .i64) (i := j) (j := 1) (by rw [eTm, g18']) rfl ?_);rw [wCo, wMw, eTm, gQ, wNi];have hwr : IntKind.i64.wrap ((j : Int) + 1) = ((j + 1 : Nat) : Int) := by
      simp [IntKind.wrap, IntKind.bits, IntKind.signed]; omega
    rw [hwr];refine ⟨⟨j + 1, lv', hjl, ?_, ?_, ?_, ?_, hm7, ?_, r ++ r', ?_, ?_⟩, ?_⟩
    · exact (((k4.trans (k5.mono (by omega))).trans k6).trans (k7.mono (by omega))).trans ((Kept.put0 (by omega) _).put (by omega) _)
    · rw [gR, gR, k7.get 16 (by omega), hkeep 16 (by omega) (by omega), k5.get 16 (by omega), ga]
    · rw [gR, gR, k7.get 17 (by omega), hkeep 17 (by omega) (by omega), k5.get 17 (by omega), gl]
    · rw [gQ]
    · rw [List.take_succ_eq_append_getElem hjl]; exact hl7
    · intro x hx
      rcases List.mem_append.1 hx with h | h
      · exact hr x h
      exact hr' x h
    · have f46 : Fr (⟨e.ob, 0, 5⟩ :: (r ++ r')) w w6 := (f4.mono (l' := ⟨e.ob, 0, 5⟩ :: (r ++ r')) (fun x hx => by
        rcases List.mem_cons.1 hx with rfl | h
        · exact Rng.in_self (by simp)
        · exact Rng.in_self (List.mem_cons_of_mem _ (List.mem_append_left _ h)))).tr (Fr.nil f6)
      refine f46.trans f7 fun x hx => ?_
      rcases List.mem_cons.1 hx with rfl | h
      · exact Rng.in_self (by simp)
      exact Rng.in_self (List.mem_cons_of_mem _ (List.mem_append_right _ h))
    rw [gQ, gi]; simp [idxOf]; omega
  intro hge;have hjl : j = l.length := by
    have : ¬ ((j : Int) < l.length) := by simpa using hge
    omega
  subst hjl;rw [List.take_length] at hl4;refine wp_exit ?_;show K a5 w4
  exact hk a5 w4 lv (k4.trans (k5.mono (by omega))) ⟨r, hr, f4⟩ hm4 hl4
end Go.Kq

namespace Go.Kq
open Go Go.Proofs
def zG : List Value := [.int .u32 0, .slice none 0 0]
def TOwn (w : World) (A : Nat → Prop) (uv : Value) (u : List (Nat × List UInt8)) : Prop :=
  ∃ flat, Own w A 2 uv u.length flat ∧ ∀ (i k : Nat) (x : List UInt8), u[i]? = some (k, x) → ∃ xv, (flat.drop (i * 2)).take 2 = [.int .u32 k, xv] ∧ k < 4294967296 ∧ OctE w (fun b => A b ∧ blk uv ≠ some b) xv x
theorem TOwn.nil {w : World} {A : Nat → Prop} : TOwn w A (.slice none 0 0) [] := ⟨[], Own.nil, by simp⟩
theorem TOwn.one {w : World} {A : Nat → Prop} {lv : Value} {l : List (Nat × List UInt8)} (h : TOwn w A lv l) : lv.oneCell' = true := by
  obtain ⟨_, h, _⟩ := h; exact h.one
theorem TOwn.tags {w : World} {A : Nat → Prop} {lv : Value} {l : List (Nat × List UInt8)} (hbig : l.length ≤ 4294967296) (h : TOwn w A lv l) : TagsR w A lv l := by
  obtain ⟨flat, ⟨h1, h2 | ⟨g, o, cap, hg, rfl, hnc, _, hr, _⟩⟩, h3⟩ := h
  · exact .inl ⟨.inl h2.1, List.eq_nil_of_length_eq_zero h2.2⟩
  refine .inr ⟨g, o, cap, hg, rfl, ⟨hnc, hbig⟩, fun i k x hi => ?_⟩;obtain ⟨xv, h4, h5, h6⟩ := h3 i k x hi;have := range_part hr (i * 2) 2;rw [h4] at this;exact ⟨xv, h5, this, h6.kept (Fr.refl [] w) (by simp) (fun b hb => hb.1)⟩
theorem TOwn.kept {w w' : World} {A A' : Nat → Prop} {lv : Value} {l : List (Nat × List UInt8)} {r : List Rng} (h : TOwn w A lv l) (hf : Fr r w w') (hl : ∀ x ∈ r, ¬ A x.b) (hA : ∀ b, A b → A' b) : TOwn w' A' lv l := by
  obtain ⟨flat, h1, h2⟩ := h;refine ⟨flat, h1.kept hf (fun x hx hb => absurd hb (hl x hx)) hA, fun i k x hi => ?_⟩;obtain ⟨xv, h4, h5, h6⟩ := h2 i k x hi;exact ⟨xv, h4, h5, h6.kept hf (fun x hx hb => hl x hx hb.1) (fun b hb => ⟨hA b hb.1, hb.2⟩)⟩
theorem TOwn.blk_in {w : World} {A : Nat → Prop} {lv : Value} {l : List (Nat × List UInt8)} (h : TOwn w A lv l) {b : Nat} (hb : blk lv = some b) : A b := by
  obtain ⟨_, ⟨_, h | ⟨g, o, cap, hg, h, _⟩⟩, _⟩ := h
  · rw [h.1] at hb; simp [blk] at hb
  rw [h] at hb; simp [blk] at hb; subst hb; exact hg
theorem flat_part2 {flat cs : List Value} {n i : Nat} (h : flat.length = n * 2) (hi : i < n) : ((flat ++ cs).drop (i * 2)).take 2 = (flat.drop (i * 2)).take 2 := by
  rw [List.drop_append_of_le_length (by omega), List.take_append_of_le_length (by simp; omega)]
theorem flat_last2 {flat cs : List Value} {n : Nat} (h : flat.length = n * 2) (hc : cs.length = 2) : ((flat ++ cs).drop (n * 2)).take 2 = cs := by
  rw [← h, List.drop_left, ← hc, List.take_length]
theorem TOwn.app {w w' : World} {A A' C : Nat → Prop} {lv lv' : Value} {l : List (Nat × List UInt8)} {k : Nat} {x : List UInt8} {xv : Value} {flat : List Value}
    (h : ∀ (i k : Nat) (x : List UInt8), l[i]? = some (k, x) → ∃ xv, (flat.drop (i * 2)).take 2 = [.int .u32 k, xv] ∧ k < 4294967296 ∧ OctE w (fun b => A b ∧ blk lv ≠ some b) xv x) (ho : Own w A 2 lv l.length flat)
    (hf : Fr (spare lv 2) w w') (ho' : Own w' A' 2 lv' (l.length + 1) (flat ++ [.int .u32 k, xv])) (hbk : blk lv' = blk lv ∨ blk lv' = some w.heap.size) (hA : ∀ b, A b → A' b ∧ b < w.heap.size) (hk : k < 4294967296) (hy : OctE w C xv x) (hC : ∀ b, C b → A b ∧ blk lv ≠ some b) :
    TOwn w' A' lv' (l ++ [(k, x)]) := by
  have hfl := ho.1;have hm : ∀ b, A b ∧ blk lv ≠ some b → A' b ∧ blk lv' ≠ some b := by
    intro b ⟨h1, h2⟩;refine ⟨(hA b h1).1, ?_⟩
    rcases hbk with h3 | h3
    · rw [h3]; exact h2
    rw [h3]; have := (hA b h1).2; simp; omega
  have hn : ∀ r ∈ spare lv 2, ¬ (A r.b ∧ blk lv ≠ some r.b) := fun r hr h2 => h2.2 (spare_blk r hr);refine ⟨flat ++ [.int .u32 k, xv], by rw [List.length_append]; exact ho', fun i k' x' hi => ?_⟩
  by_cases hil : i < l.length
  · rw [List.getElem?_append_left hil] at hi;rw [flat_part2 hfl hil];obtain ⟨yv, h4, h5, h6⟩ := h i k' x' hi;exact ⟨yv, h4, h5, h6.kept hf hn hm⟩
  rw [List.getElem?_append_right (by omega)] at hi;have hi0 : i = l.length := by
    rcases Nat.lt_or_ge (i - l.length) 1 with h1 | h1
    · omega
    rw [List.getElem?_eq_none (by simpa using h1)] at hi; simp at hi
  subst hi0;rw [Nat.sub_self] at hi;simp at hi
  obtain ⟨rfl, rfl⟩ := hi;rw [flat_last2 hfl rfl];exact ⟨xv, rfl, hk, hy.kept hf (fun r hr hc => hn r hr (hC _ hc)) (fun b hb => hm b (hC b hb))⟩
def GU (w : World) (e : GE) (uv : Value) (u : List (Nat × List UInt8)) : Prop := TOwn w (e.C w) uv u ∧ ∀ b, blk uv = some b → e.s1 ≤ b
theorem got_tag {P : Program} {T22 T33 T35 T59 T61 T62 bs : TypeId} {i10 : Nat}
    {t39 t40 t41 t42 t43 t44 t45 t46 t47 t48 t49 : TypeId} {p39 p40 p41 p42 p43 p44 p45 p46 p47 p48 p49 : String} {e39 e40 e41 e42 e43 e44 e45 e46 e47 e48 e49 : Array Edge}
    (hT : Flat P T35 zT) (hT61 : Flat P T61 zG) (hT62 : Flat P T62 zG) (hz61 : zeroIs P T61 zG) (hT22 : scal P T22 = true) (hT59 : scal P T59 = true) (hT33 : scal P T33 = true) (hT33s : sliceOf P T33 T61 2 bs = true) (hbs : bs ≤ 1024)
    {a : Act} {w : World} {K : Act → World → Prop} {Q : Exit → Act → World → Prop} {e : GE} {c1 : List Value} {n : Int} {sv : Value} {nl : Bool} {lv uv xv : Value} {u : List (Nat × List UInt8)} {k : Nat} {x : List UInt8} {xb : Nat}
    (hsz : a.tmps.size = 49) (g3 : get a 3 = .pointer (some ⟨e.ob, 0, none⟩)) (g7 : get a 7 = .pointer (some ⟨xb, 0, none⟩)) (hm : GM w e c1 n sv nl lv uv) (hu : GU w e uv u) (hll : u.length < 4294967296)
    (hxb : w.rangeAt xb 0 [.int .u32 k, xv]) (hes : OctE w e.A xv x) (hkk : k < 4294967296)
    (hk : ∀ a' w' uv', Kept 37 a a' → (∃ r : List Rng, (∀ x ∈ r, e.s1 ≤ x.b) ∧ Fr (⟨e.ob, 0, 5⟩ :: r) w w') → GM w' e c1 n sv nl lv uv' → GU w' e uv' (u ++ [(k, x)]) → K a' w') :
    (Code.region i10 ⟨[oF 37 T35 3 4 t39 p39 e39, oL 38 T33 37 t40 p40 e40, oF 39 T62 7 0 t41 p41 e41, oL 40 T59 39 t42 p42 e42, oF 41 T62 7 1 t43 p43 e43, oL 42 T22 41 t44 p44 e44, ⟨some 43, .build T61 #[(0, .tmp 40), (1, .tmp 42)], t45, p45, e45, none⟩, ⟨some 44, .buildSlice T33 1 #[(0, .tmp 43)], t46, p46, e46, none⟩, ⟨some 45, .call ⟨.builtin .append, #[(.tmp 38), (.tmp 44)], #[T33, T33]⟩, t47, p47, e47, none⟩, oF 46 T35 3 4 t48 p48 e48, oS T33 46 45 t49 p49 e49]⟩ false).wp P (Exit.then K Q) a w := by
  obtain ⟨hlo, hbl⟩ := hu;have hs1 := hm.top;have hs01 : e.s0 ≤ e.s1 := Nat.le_trans hm.ob0 (Nat.le_of_lt hm.ob1);have hAw : ∀ b, e.A b → b < w.heap.size := fun b hb => by have := hm.a0 b hb; omega
  have hCw : ∀ b, e.C w b → b < w.heap.size := fun b hb => by
    rcases hb with hb | hb
    · exact hAw b hb
    exact hb.2
  have hblw : ∀ b, blk uv = some b → e.s1 ≤ b ∧ b < w.heap.size := fun b hb => ⟨hbl b hb, hCw b (hlo.blk_in hb)⟩;refine wp_reg ?_;refine wC (wFa (hT.field (k := 4) (by decide)) (by rw [eTm, g3]) ?_);refine wC (wp_load hT33 (by rw [eTm, gQ]) (hm.ro 4 uv rfl) ?_);refine wC (wFa (hT62.field (k := 0) (by decide)) (b := xb) (i := 0) (by rw [eTm, gR, gR, g7]) ?_);refine wC (wp_load hT59 (by rw [eTm, gQ]) (hxb 0 _ rfl) ?_);refine wC (wFa (hT62.field (k := 1) (by decide)) (b := xb) (i := 0) (by rw [eTm, gR, gR, gR, gR, g7]) ?_);refine wC (wp_load hT22 (by rw [eTm, gQ]) (hxb 1 _ rfl) ?_);refine wC (wp_build2 hT61 (v := .int .u32 k) (v' := xv) (by decide) (by decide) (by rw [eTm, gR, gR, gQ]) rfl (by rw [eTm, gQ]) hes.one ?_);refine wC (wp_slice1 hT33s hz61 rfl (by omega) (cs := [.int .u32 k, xv]) (by rw [eTm, gQ]; rfl) rfl fun _ => ?_);have hal := Fr.alloc [] w (.cells [.int .u32 k, xv].toArray T61);have hrn := range_new w [.int .u32 k, xv].toArray T61 (0, 0);generalize hw1 : w.alloc (.cells [.int .u32 k, xv].toArray T61) = w1 at hal hrn ⊢;have hs := hal.size;have hm1 := hm.kept hal (by simp);have hlo1 := hlo.kept hal (by simp) (A' := e.C w1) (GE.C_mono hal.size);obtain ⟨flat, ho1, ho2⟩ := hlo1;have hes1 := hes.kept hal (by simp) (A' := e.A) (fun _ h => h);have hmul : (u.length + 1) * bs ≤ 4294967296 * 1024 := Nat.mul_le_mul (by omega) hbs;rw [wCo];refine wp_append (A := e.C w1) (z := zG) hT33s hz61 rfl (by rw [eTm, gR, gR, gR, gR, gR, gR, gQ]) (by rw [eTm, gQ]) ho1 (by omega) (news := [.int .u32 k, xv]) rfl hrn
    (by intro y hy; simp at hy; rcases hy with rfl | rfl <;> first | rfl | exact hes.one) (by omega) (by simp only [maxLen]; omega) ?_
  intro v' w2 hf2 ho' hbk;have hf2s := hf2.size;have hsp : ∀ r ∈ spare uv 2, e.s1 ≤ r.b := fun r hr => hbl _ (spare_blk r hr);have hCw' : ∀ b, e.C w1 b → e.C w2 b ∧ b < w1.heap.size := fun b hb => ⟨GE.C_mono hf2s b hb, by
    rcases hb with hb | hb
    · have := hAw b hb; omega
    · exact hb.2⟩
  have hU : TOwn w2 (e.C w2) v' (u ++ [(k, x)]) := by
    refine TOwn.app (A' := e.C w2) ho2 ho1 hf2 ?_ hbk hCw' hkk hes1 ?_
    · obtain ⟨ha, hb⟩ := ho';refine ⟨ha, hb.imp (fun h => h) ?_⟩;rintro ⟨g', o', cap', hg', hrest⟩;refine ⟨g', o', cap', ?_, hrest⟩
      rcases hg' with hg' | hg'
      · exact (hCw' _ hg').1
      exact .inr ⟨by have := hg'.1; omega, hg'.2⟩
    intro b hb;refine ⟨.inl hb, fun hbl' => ?_⟩;have := (hblw b hbl').1; have := hm.a0 b hb; omega
  have hV : ∀ b, blk v' = some b → e.s1 ≤ b := by
    intro b hb
    rcases hbk with h | h
    · rw [h] at hb; exact hbl b hb
    rw [h] at hb; simp at hb; omega
  have hm2 := hm1.kept hf2 hsp;refine wC (wFa (hT.field (k := 4) (by decide)) (b := e.ob) (i := 0) (by rw [eTm, gR, gR, gR, gR, gR, gR, gR, gR, gR, g3]) ?_);refine wC (wp_store hT33 (b := e.ob) (o := 4) (v := v') (by rw [eTm, gQ]) (by rw [eTm, gR, gQ]) hU.one (there_part hm2.to (by omega) (by omega)) ?_);rw [wNi, pNo];obtain ⟨h5, h6⟩ := hm2.setU v';refine hk _ _ v' ?_ ⟨spare uv 2, hsp, ?_⟩ h5 ⟨hU.kept h6 ?_ (GE.C_mono h6.size), hV⟩
  · exact (((((((((Kept.put0 (by omega) _).put (by omega) _).put (by omega) _).put (by omega) _).put (by omega) _).put (by omega) _).put (by omega) _).put (by omega) _).put (by omega) _).put (by omega) _
  · have f12 : Fr (⟨e.ob, 0, 5⟩ :: spare uv 2) w w2 := (Fr.nil hal).tr (hf2.mono (fun r hr => Rng.in_self (List.mem_cons_of_mem _ hr)));refine f12.trans h6 ?_;intro r hr; simp at hr; subst hr; exact Rng.in_self (by simp)
  intro r hr hF; simp at hr; subst hr;have h1 := hm.ob0;have h2 := hm.ob1
  rcases hF with hF | hF
  · have := hm.a0 _ hF; simp only at *; omega
  have := hF.1; simp only at *; omega
end Go.Kq

namespace Go.Kq
open Go Go.Proofs
theorem wp_build3 {P : Program} {a : Act} {w : World} {K : Act → World → Prop} {Q : Exit → Act → World → Prop} {d : Option Tmp} {t : TypeId} {p : String} {af : Array Edge} {g : Option (Nat × Bool)} {s : TypeId} {z : List Value} {k1 k2 k3 : Nat} {x y u : Operand} {v1 v2 v3 : Value}
    (h : Flat P s z) (hk1 : k1 < z.length) (hk2 : k2 < z.length) (hk3 : k3 < z.length) (hx : a.eval x = v1) (h1 : v1.oneCell' = true) (hy : a.eval y = v2) (h2 : v2.oneCell' = true) (hu : a.eval u = v3) (h3 : v3.oneCell' = true)
    (kk : K (a.put d (.agg (((z.set k1 v1).set k2 v2).set k3 v3).toArray)) w) : OW P ⟨d, .build s #[(k1, x), (k2, y), (k3, u)], t, p, af, g⟩ a w K Q := by
  refine wp_val (v := .agg (((z.set k1 v1).set k2 v2).set k3 v3).toArray) (w' := w) ?_ kk;have := run_build (w := w) (ps := [(k1, v1), (k2, v2), (k3, v3)]) h (by simp; exact ⟨⟨hk1, h1⟩, ⟨hk2, h2⟩, hk3, h3⟩);simp only [execOp, List.map_toArray, List.map_cons, List.map_nil, hx, hy, hu, Sem.run_bind, this, Result.andThen_ok, Sem.run_pure, laid]
theorem TagsR.key {w : World} {A : Nat → Prop} {v : Value} {u : List (Nat × List UInt8)} (h : TagsR w A v u) {j : Nat} (hj : j < u.length) : (u[j]).1 < 4294967296 := by
  rcases h with ⟨_, rfl⟩ | ⟨b, o, cap, _, rfl, _, h1⟩
  · simp at hj
  obtain ⟨xv, h2, _⟩ := h1 j (u[j]).1 (u[j]).2 (by simp [hj]);exact h2
theorem got_loopU {P : Program} {T3 T22 T25 T27 T33 T35 T59 T61 T62 bs bs2 : TypeId} {i7 i8 i9 i10 i11 : Nat}
    {t30 t31 t32 t33 t34 t35 t36 t37 t38 t39 t40 t41 t42 t43 t44 t45 t46 t47 t48 t49 t50 t51 : TypeId} {p30 p31 p32 p33 p34 p35 p36 p37 p38 p39 p40 p41 p42 p43 p44 p45 p46 p47 p48 p49 p50 p51 : String} {e30 e31 e32 e33 e34 e35 e36 e37 e38 e39 e40 e41 e42 e43 e44 e45 e46 e47 e48 e49 e50 e51 : Array Edge}
    (hT : Flat P T35 zT) (hT27 : Flat P T27 zT) (hT61 : Flat P T61 zG) (hT62 : Flat P T62 zG) (hz61 : zeroIs P T61 zG) (hT22 : scal P T22 = true) (hT25 : scal P T25 = true) (hT25s : sliceOf P T25 T62 2 bs2 = true) (hT59 : scal P T59 = true) (hT33 : scal P T33 = true) (hT33s : sliceOf P T33 T61 2 bs = true) (hbs : bs ≤ 1024)
    {a : Act} {w : World} {K : Act → World → Prop} {Q : Exit → Act → World → Prop} {e : GE} {n n1 : Int} {sv s1 : Value} {nl nl1 : Bool} {l1 u1 lv : Value} {l : List (Nat × List UInt8)}
    (hsz : a.tmps.size = 49) (g1 : get a 1 = .pointer (some ⟨e.b1, 0, none⟩)) (g3 : get a 3 = .pointer (some ⟨e.ob, 0, none⟩)) (hm : GM w e [.int .i64 n1, s1, .bool nl1, l1, u1] n sv nl lv (.slice none 0 0)) (ht : TagsR w e.A u1 l)
    (hk : ∀ a' w' uv', Kept 4 a a' → (∃ r : List Rng, (∀ x ∈ r, e.s1 ≤ x.b) ∧ Fr (⟨e.ob, 0, 5⟩ :: r) w w') → GM w' e [.int .i64 n1, s1, .bool nl1, l1, u1] n sv nl lv uv' → GU w' e uv' l → K a' w') :
    (Code.seq (Code.region i7 ⟨[oF 30 T27 1 4 t30 p30 e30,
    oL 31 T25 30 t31 p31 e31, ⟨some 32, .call ⟨.builtin .len, #[(.tmp 31)], #[T25]⟩, t32, p32, e32, none⟩, ⟨some 33, .move (.const (.int .i64 0)), t33, p33, e33, none⟩]⟩ false) (.block 2 (.loop (.seq (Code.region i8 ⟨[⟨some 34, .binOp .lss T3 (.tmp 33) (.tmp 32) T3, t34, p34, e34, none⟩]⟩ false) (.seq (.cond (.tmp 34) .skip
  (.exit 2)) (.seq (.block 3 (.seq (Code.region i9 ⟨[⟨some 35, .indexAddr T25 (.tmp 31) (.tmp 33), t35, p35, e35, none⟩,
    oL 36 T62 35 t36 p36 e36, ⟨some 7, .alloc T62, t37, p37, e37, none⟩,
    oS T62 7 36 t38 p38 e38]⟩ false)
  (Code.region i10 ⟨[oF 37 T35 3 4 t39 p39 e39,
    oL 38 T33 37 t40 p40 e40,
    oF 39 T62 7 0 t41 p41 e41,
    oL 40 T59 39 t42 p42 e42,
    oF 41 T62 7 1 t43 p43 e43,
    oL 42 T22 41 t44 p44 e44, ⟨some 43, .build T61 #[(0, .tmp 40), (1, .tmp 42)], t45, p45, e45, none⟩, ⟨some 44, .buildSlice T33 1 #[(0, .tmp 43)], t46, p46, e46, none⟩, ⟨some 45, .call ⟨.builtin .append, #[(.tmp 38), (.tmp 44)], #[T33, T33]⟩, t47, p47, e47, none⟩,
    oF 46 T35 3 4 t48 p48 e48,
    oS T33 46 45 t49 p49 e49]⟩ false)))
  (Code.region i11 ⟨[⟨some 47, .binOp .add T3 (.tmp 33) (.const (.int .i64 1)) T3, t50, p50, e50, none⟩,
    oM 33 47 t51 p51 e51]⟩ false))))))).wp P (Exit.then K Q) a w := by
  have hbig := ht.big;obtain ⟨qu1, cu1, hu1⟩ := ht.slice;refine wS fun K5 hK5 => ?_;refine wC (wFa (hT27.field (k := 4) (by decide)) (by rw [eTm, g1]) ?_);refine wC (wp_load hT25 (by rw [eTm, gQ]) (hm.r1 4 u1 rfl) ?_);refine wC (wp_len hT25s (by rw [eTm, gQ, hu1]) ?_);rw [wCo, wMw, eCo, wNi];generalize ha3 : (((a.put (some 30) (.pointer (some ⟨e.b1, 0 + 4, none⟩))).put (some 31) u1).put (some 32) (.int .i64 l.length)).put (some 33) (.int .i64 0) = a3;have k3 : Kept 4 a a3 := by subst ha3; exact (((Kept.put0 (by omega) _).put (by omega) _).put (by omega) _).put (by omega) _
  have g31 : get a3 31 = u1 := by subst ha3; rw [gR, gR, gQ]
  have g32 : get a3 32 = .int .i64 l.length := by subst ha3; rw [gR, gQ]
  have g33 : get a3 33 = .int .i64 0 := by subst ha3; rw [gQ]
  refine hK5 a3 w ?_;refine wp_block (wp_loop (fun a' w' => ∃ (j : Nat) (uv : Value), j ≤ l.length ∧ Kept 4 a a' ∧ get a' 31 = u1 ∧ get a' 32 = .int .i64 l.length ∧ get a' 33 = .int .i64 j ∧ GM w' e [.int .i64 n1, s1, .bool nl1, l1, u1] n sv nl lv uv ∧ GU w' e uv (l.take j) ∧
    ∃ r : List Rng, (∀ x ∈ r, e.s1 ≤ x.b) ∧ Fr (⟨e.ob, 0, 5⟩ :: r) w w') (fun a' _ => l.length - idxOf (get a' 33)) ?_ ?_)
  · exact ⟨0, _, Nat.zero_le _, k3, g31, g32, g33, hm, ⟨by simpa using TOwn.nil, by simp [blk]⟩, [], by simp, Fr.refl _ _⟩
  rintro a4 w4 ⟨j, uv, hj, k4, ga, gl, gi, hm4, hl4, r, hr, f4⟩;have hz4 := k4.size;refine wS fun K6 hK6 => ?_;refine wC (wp_lss (k1 := .i64) (i := j) (j := l.length) (by rw [eTm, gi]) (by rw [eTm, gl]) ?_);rw [wNi];generalize ha5 : a4.put (some 34) (.bool (decide ((j : Int) < l.length))) = a5;have k5 : Kept 34 a4 a5 := by subst ha5; exact Kept.put0 (Nat.le_refl _) _
  have g34 : get a5 34 = .bool (decide ((j : Int) < l.length)) := by subst ha5; exact gQ
  have hz5 := k5.size;refine hK6 a5 w4 ?_;refine wp_seq_k fun K7 hK7 => ?_;refine wp_cond_split (t := decide ((j : Int) < l.length)) (by rw [eTm, g34]) ?_ ?_
  · intro hlt;have hjl : j < l.length := by simpa using hlt
    refine wp_skip (hK7 a5 w4 ?_);refine wp_seq_k fun K8 hK8 => ?_;refine wp_block (wp_mono (show Code.wp P _ (Exit.then K8 (Exit.inBlock 3 (Exit.then K8 _))) a5 w4 from ?_) (fun _ _ _ => inBlock_then));refine wp_seq_k fun K9 hK9 => ?_;have ht4 := ht.kept f4 (GE.notA hm hr) (fun _ h => h);obtain ⟨bb, oo, cc, xv, hv, hres, htr⟩ := ht4.at hjl;have hkk : (l[j]).1 < 4294967296 := ht4.key hjl;refine r_boxed (m := 4) (z := zG) (et := T62) (bs := bs2) (b := bb) (o := oo) (len := l.length) (cap := cc) (j := j) (es := [.int .u32 (l[j]).1, xv]) hT62 hT25s (by rw [k5.get 31 (by omega), ga, hv]) (by rw [k5.get 33 (by omega), gi]) hjl hres rfl (by intro y hy; simp at hy; rcases hy with rfl | rfl <;> first | rfl | exact htr.one) ⟨rfl, by omega, by omega, by omega, by omega, by omega⟩ fun a6 w6 k6 hkeep g5 f6 hlt6 hxr => hK9 a6 w6 ?_;have hz6 := k6.size;have hm6 := hm4.kept f6 (by simp);have hlen : (l.take j).length = j := by simp; omega
    have hblt : ∀ b, blk uv = some b → b < w4.heap.size := fun b hb => by
      rcases hl4.1.blk_in hb with h | h
      · have := hm4.a0 b h; have := hm4.ob0; have := hm4.ob1; have := hm4.top; omega
      exact h.2
    refine got_tag (xb := w4.heap.size) (xv := xv) (k := (l[j]).1) (x := (l[j]).2) hT hT61 hT62 hz61 hT22 hT59 hT33 hT33s hbs (by omega) (by rw [hkeep 3 (by omega) (by omega), k5.get 3 (by omega), k4.get 3 (by omega), g3]) g5 hm6 ⟨hl4.1.kept f6 (by simp) (GE.C_mono f6.size), hl4.2⟩ (by omega) hxr
      (htr.kept f6 (by simp) (fun _ h => h)) hkk ?_
    rintro a7 w7 uv' k7 ⟨r', hr', f7⟩ hm7 hl7;refine hK8 a7 w7 ?_;have hz7 := k7.size;have g33' : get a7 33 = .int .i64 j := by rw [k7.get 33 (by omega), hkeep 33 (by omega) (by omega), k5.get 33 (by omega), gi]
    refine wp_reg ?_;refine wC (wp_add (k1 := .i64) (i := j) (j := 1) (by rw [eTm, g33']) rfl ?_);rw [wCo, wMw, eTm, gQ, wNi];have hwr : IntKind.i64.wrap ((j : Int) + 1) = ((j + 1 : Nat) : Int) := by
      simp [IntKind.wrap, IntKind.bits, IntKind.signed]; omega
    rw [hwr];refine ⟨⟨j + 1, uv', hjl, ?_, ?_, ?_, ?_, hm7, ?_, r ++ r', ?_, ?_⟩, ?_⟩
    · exact (((k4.trans (k5.mono (by omega))).trans k6).trans (k7.mono (by omega))).trans ((Kept.put0 (by omega) _).put (by omega) _)
    · rw [gR, gR, k7.get 31 (by omega), hkeep 31 (by omega) (by omega), k5.get 31 (by omega), ga]
    · rw [gR, gR, k7.get 32 (by omega), hkeep 32 (by omega) (by omega), k5.get 32 (by omega), gl]
    · rw [gQ]
    · rw [List.take_succ_eq_append_getElem hjl]; exact hl7
    · intro x hx
      rcases List.mem_append.1 hx with h | h
      · exact hr x h
      exact hr' x h
    · have f46 : Fr (⟨e.ob, 0, 5⟩ :: (r ++ r')) w w6 := (f4.mono (l' := ⟨e.ob, 0, 5⟩ :: (r ++ r')) (fun x hx => by
        rcases List.mem_cons.1 hx with rfl | h
        · exact Rng.in_self (by simp)
        · exact Rng.in_self (List.mem_cons_of_mem _ (List.mem_append_left _ h)))).tr (Fr.nil f6)
      refine f46.trans f7 fun x hx => ?_
      rcases List.mem_cons.1 hx with rfl | h
      · exact Rng.in_self (by simp)
      exact Rng.in_self (List.mem_cons_of_mem _ (List.mem_append_right _ h))
    rw [gQ, gi]; simp [idxOf]; omega
  intro hge;have hjl : j = l.length := by
    have : ¬ ((j : Int) < l.length) := by simpa using hge
    omega
  subst hjl;rw [List.take_length] at hl4;refine wp_exit ?_;show K a5 w4
  exact hk a5 w4 uv (k4.trans (k5.mono (by omega))) ⟨r, hr, f4⟩ hm4 hl4
theorem got_m {P : Program} {fn : Func} {bs bs2 bs3 bs4 : TypeId}
    {T2 T3 T4 T22 T24 T25 T27 T32 T33 T35 T59 T61 T62 : TypeId}
    {f11 : FuncId}
    {a0 : Array TypeId}
    {i0 i1 i2 i3 i4 i5 i6 i7 i8 i9 i10 i11 i12 : Nat}
    {t0 t1 t2 t3 t4 t5 t6 t7 t8 t9 t10 t11 t12 t13 t14 t15 t16 t17 t18 t19 t20 t21 t22 t23 t24 t25 t26 t27 t28 t29 t30 t31 t32 t33 t34 t35 t36 t37 t38 t39 t40 t41 t42 t43 t44 t45 t46 t47 t48 t49 t50 t51 t52 t53 : TypeId} {p0 p1 p2 p3 p4 p5 p6 p7 p8 p9 p10 p11 p12 p13 p14 p15 p16 p17 p18 p19 p20 p21 p22 p23 p24 p25 p26 p27 p28 p29 p30 p31 p32 p33 p34 p35 p36 p37 p38 p39 p40 p41 p42 p43 p44 p45 p46 p47 p48 p49 p50 p51 p52 p53 : String} {e0 e1 e2 e3 e4 e5 e6 e7 e8 e9 e10 e11 e12 e13 e14 e15 e16 e17 e18 e19 e20 e21 e22 e23 e24 e25 e26 e27 e28 e29 e30 e31 e32 e33 e34 e35 e36 e37 e38 e39 e40 e41 e42 e43 e44 e45 e46 e47 e48 e49 e50 e51 e52 e53 : Array Edge}
    (hf : P.funcs[f11]? = some fn) (hname : (fn.name == "runtime.NumGoroutine") = false) (hres : fn.results = #[.cell 2 T35]) (hN : fn.ntmps = 49) (hbody : fn.body = some (.seq (Code.region i0 ⟨[⟨some 1, .box T27 (.tmp 0), t0, p0, e0, none⟩, ⟨some 2, .alloc T35, t1, p1, e1, none⟩]⟩ false) (.seq (Code.region i1 ⟨[oF 8 T27 1 0 t2 p2 e2,
    oL 9 T2 8 t3 p3 e3,
    oF 10 T27 1 1 t4 p4 e4,
    oL 11 T22 10 t5 p5 e5,
    oF 12 T27 1 2 t6 p6 e6,
    oL 13 T4 12 t7 p7 e7, ⟨some 14, .build T35 #[(0, .tmp 9), (1, .tmp 11), (2, .tmp 13)], t8, p8, e8, none⟩, ⟨some 3, .alloc T35, t9, p9, e9, none⟩,
    oS T35 3 14 t10 p10 e10]⟩ false) (.seq (.seq (Code.region i2 ⟨[oF 15 T27 1 3 t11 p11 e11,
    oL 16 T24 15 t12 p12 e12, ⟨some 17, .call ⟨.builtin .len, #[(.tmp 16)], #[T24]⟩, t13, p13, e13, none⟩, ⟨some 18, .move (.const (.int .i64 0)), t14, p14, e14, none⟩]⟩ false) (.block 0 (.loop (.seq (Code.region i3 ⟨[⟨some 19, .binOp .lss T3 (.tmp 18) (.tmp 17) T3, t15, p15, e15, none⟩]⟩ false) (.seq (.cond (.tmp 19) .skip
  (.exit 0)) (.seq (.block 1 (.seq (Code.region i4 ⟨[⟨some 20, .indexAddr T24 (.tmp 16) (.tmp 18), t16, p16, e16, none⟩,
    oL 21 T27 20 t17 p17 e17, ⟨some 5, .alloc T27, t18, p18, e18, none⟩,
    oS T27 5 21 t19 p19 e19]⟩ false)
  (Code.region i5 ⟨[oF 22 T35 3 3 t20 p20 e20,
    oL 23 T32 22 t21 p21 e21,
    oL 24 T27 5 t22 p22 e22,
    oC 25 f11 #[(.tmp 24)] a0 t23 p23 e23, ⟨some 26, .buildSlice T32 1 #[(0, .tmp 25)], t24, p24, e24, none⟩, ⟨some 27, .call ⟨.builtin .append, #[(.tmp 23), (.tmp 26)], #[T32, T32]⟩, t25, p25, e25, none⟩,
    oF 28 T35 3 3 t26 p26 e26,
    oS T32 28 27 t27 p27 e27]⟩ true)))
  (Code.region i6 ⟨[⟨some 29, .binOp .add T3 (.tmp 18) (.const (.int .i64 1)) T3, t28, p28, e28, none⟩,
    oM 18 29 t29 p29 e29]⟩ false))))))) (.seq (.seq (Code.region i7 ⟨[oF 30 T27 1 4 t30 p30 e30,
    oL 31 T25 30 t31 p31 e31, ⟨some 32, .call ⟨.builtin .len, #[(.tmp 31)], #[T25]⟩, t32, p32, e32, none⟩, ⟨some 33, .move (.const (.int .i64 0)), t33, p33, e33, none⟩]⟩ false) (.block 2 (.loop (.seq (Code.region i8 ⟨[⟨some 34, .binOp .lss T3 (.tmp 33) (.tmp 32) T3, t34, p34, e34, none⟩]⟩ false) (.seq (.cond (.tmp 34) .skip
  (.exit 2)) (.seq (.block 3 (.seq (Code.region i9 ⟨[⟨some 35, .indexAddr T25 (.tmp 31) (.tmp 33), t35, p35, e35, none⟩,
    oL 36 T62 35 t36 p36 e36, ⟨some 7, .alloc T62, t37, p37, e37, none⟩,
    oS T62 7 36 t38 p38 e38]⟩ false)
  (Code.region i10 ⟨[oF 37 T35 3 4 t39 p39 e39,
    oL 38 T33 37 t40 p40 e40,
    oF 39 T62 7 0 t41 p41 e41,
    oL 40 T59 39 t42 p42 e42,
    oF 41 T62 7 1 t43 p43 e43,
    oL 42 T22 41 t44 p44 e44, ⟨some 43, .build T61 #[(0, .tmp 40), (1, .tmp 42)], t45, p45, e45, none⟩, ⟨some 44, .buildSlice T33 1 #[(0, .tmp 43)], t46, p46, e46, none⟩, ⟨some 45, .call ⟨.builtin .append, #[(.tmp 38), (.tmp 44)], #[T33, T33]⟩, t47, p47, e47, none⟩,
    oF 46 T35 3 4 t48 p48 e48,
    oS T33 46 45 t49 p49 e49]⟩ false)))
  (Code.region i11 ⟨[⟨some 47, .binOp .add T3 (.tmp 33) (.const (.int .i64 1)) T3, t50, p50, e50, none⟩,
    oM 33 47 t51 p51 e51]⟩ false))))))) (.seq (Code.region i12 ⟨[oL 48 T35 3 t52 p52 e52,
    oS T35 2 48 t53 p53 e53]⟩ false) .ret))))))
    (hT : Flat P T35 zT) (hT27 : Flat P T27 zT) (hz0 : zeroIs P T35 zT) (hT61 : Flat P T61 zG) (hT62 : Flat P T62 zG) (hz61 : zeroIs P T61 zG) (hT2 : scal P T2 = true) (hT4 : scal P T4 = true) (hT22 : scal P T22 = true) (hT59 : scal P T59 = true) (hT24 : scal P T24 = true) (hT25 : scal P T25 = true) (hT32 : scal P T32 = true) (hT33 : scal P T33 = true)
    (hT24s : sliceOf P T24 T27 5 bs2 = true) (hT32s : sliceOf P T32 T35 5 bs = true) (hT25s : sliceOf P T25 T62 2 bs4 = true) (hT33s : sliceOf P T33 T61 2 bs3 = true) (hbs : bs ≤ 1024) (hbs3 : bs3 ≤ 1024) (hmx : P.follows .mixedOrders = true)
    (he : edgeOk 0 [e20, e21, e22, e23, e24, e25, e26, e27] [[], [0], [], [2], [3], [1, 4], [], [0, 1, 2, 3, 4, 5, 6]] = true) : ∀ t, GotCall P f11 t := by
  intro t
  induction t using T.ind with
  | h n s nl l u ih =>
  intro w A c hr hA;obtain ⟨s1, l1, u1, rfl, hn, ho, ht, hv⟩ := repT_iff.1 hr;have henter : Enters P f11 := enters_of hf hname hbody;refine calls_of_wp hf hbody ?_;generalize ha0 : ({ tmps := #[Value.agg [.int .i64 n, s1, .bool nl, l1, u1].toArray] ++ Array.replicate (fn.ntmps - #[Value.agg [.int .i64 n, s1, .bool nl, l1, u1].toArray].size) undef, defers := [] } : Act) = a0;have hsz : a0.tmps.size = 49 := by subst ha0; simp [hN]
  have hd0 : a0.defers = [] := by subst ha0; rfl
  have g0 : get a0 0 = .agg [.int .i64 n, s1, .bool nl, l1, u1].toArray := by subst ha0; exact gAr rfl
  refine wT fun K1 hK1 => ?_;refine wC (wp_box (by rw [eTm, g0]) ?_);refine wC (wp_alloc hT.zero ?_);rw [wNi];have f1 := Fr.alloc [] w (.cells (Value.agg [.int .i64 n, s1, .bool nl, l1, u1].toArray).cells T27);have rg1 := range_new w [.int .i64 n, s1, .bool nl, l1, u1].toArray T27 (0, 0);have rg1 : (w.alloc (.cells (Value.agg [.int .i64 n, s1, .bool nl, l1, u1].toArray).cells T27)).rangeAt w.heap.size 0 [.int .i64 n, s1, .bool nl, l1, u1] := rg1;have sz1 := size_alloc w (.cells (Value.agg [.int .i64 n, s1, .bool nl, l1, u1].toArray).cells T27);generalize w.alloc (.cells (Value.agg [.int .i64 n, s1, .bool nl, l1, u1].toArray).cells T27) = w1 at f1 rg1 sz1 ⊢;have f2 := Fr.alloc [] w1 (.cells (Value.agg zT.toArray).cells T35);have th2 := there_new w1 zT.toArray T35;have th2 : (w1.alloc (.cells (Value.agg zT.toArray).cells T35)).there w1.heap.size 0 5 := th2;have sz2 := size_alloc w1 (.cells (Value.agg zT.toArray).cells T35);generalize w1.alloc (.cells (Value.agg zT.toArray).cells T35) = w2 at f2 th2 sz2 ⊢;generalize ha1 : (a0.put (some 1) (.pointer (some ⟨w.heap.size, 0, none⟩))).put (some 2) (.pointer (some ⟨w1.heap.size, 0, none⟩)) = a1;have k1 : Kept 1 a0 a1 := by subst ha1; exact (Kept.put0 (by omega) _).put (by omega) _
  have g1 : get a1 1 = .pointer (some ⟨w.heap.size, 0, none⟩) := by subst ha1; rw [gR, gQ]
  have g2 : get a1 2 = .pointer (some ⟨w1.heap.size, 0, none⟩) := by subst ha1; rw [gQ]
  have hz1 := k1.size;have rg12 := f2.range rg1 .nil;refine hK1 a1 w2 (tUp ?_);refine wT fun K2 hK2 => ?_;refine wC (wFa (hT27.field (k := 0) (by decide)) (by rw [eTm, g1]) ?_);refine wC (wp_load hT2 (by rw [eTm, gQ]) (rg12 0 _ rfl) ?_);refine wC (wFa (hT27.field (k := 1) (by decide)) (b := w.heap.size) (i := 0) (by rw [eTm, gR, gR, g1]) ?_);refine wC (wp_load hT22 (by rw [eTm, gQ]) (rg12 1 _ rfl) ?_);refine wC (wFa (hT27.field (k := 2) (by decide)) (b := w.heap.size) (i := 0) (by rw [eTm, gR, gR, gR, gR, g1]) ?_);refine wC (wp_load hT4 (by rw [eTm, gQ]) (rg12 2 _ rfl) ?_);rw [wCo];refine wp_build3 hT (v1 := .int .i64 n) (v2 := s1) (v3 := .bool nl) (by decide) (by decide) (by decide) (by rw [eTm, gR, gR, gR, gR, gQ]) rfl
    (by rw [eTm, gR, gR, gQ]) ho.one (by rw [eTm, gQ]) rfl ?_
  refine wC (wp_alloc hT.zero ?_);have f3 := Fr.alloc [] w2 (.cells (Value.agg zT.toArray).cells T35);have th3 := there_new w2 zT.toArray T35;have th3 : (w2.alloc (.cells (Value.agg zT.toArray).cells T35)).there w2.heap.size 0 5 := th3;have sz3 := size_alloc w2 (.cells (Value.agg zT.toArray).cells T35);generalize w2.alloc (.cells (Value.agg zT.toArray).cells T35) = w3 at f3 th3 sz3 ⊢;rw [wCo];refine wp_storeFlat hT (cs := [.int .i64 n, s1, .bool nl, .slice none 0 0, .slice none 0 0]) (b := w2.heap.size) (o := 0) rfl (by rw [eTm, gQ]) (by rw [eTm, gR, gQ]; rfl)
    (by intro y hy; simp at hy; rcases hy with rfl | rfl | rfl | rfl | rfl <;> first | rfl | exact ho.one) th3 ?_
  rw [wNi, pNo];have f4 := Fr.sets w2.heap.size [.int .i64 n, s1, .bool nl, .slice none 0 0, .slice none 0 0] w3 0;have rg4 := World.rangeAt_setCells_same (w := w3) w2.heap.size 0 [.int .i64 n, s1, .bool nl, .slice none 0 0, .slice none 0 0] th3;generalize w3.setCells w2.heap.size 0 [.int .i64 n, s1, .bool nl, .slice none 0 0, .slice none 0 0] = w4 at f4 rg4 ⊢;have k4 : ∀ v8 v9 v10 v11 v12 v13 v14 v3, Kept 3 a1 ((((((((a1.put (some 8) v8).put (some 9) v9).put (some 10) v10).put (some 11) v11).put (some 12) v12).put (some 13) v13).put (some 14) v14).put (some 3) v3) := fun _ _ _ _ _ _ _ _ =>
    (((((((Kept.put0 (by omega) _).put (by omega) _).put (by omega) _).put (by omega) _).put (by omega) _).put (by omega) _).put (by omega) _).put (by omega) _
  have f24 : Fr [] w2 w4 := f3.trans f4 (by intro r hr; simp at hr; subst hr; exact .inl (Nat.le_refl _));have f04 : Fr [] w w4 := (f1.tr f2).tr f24;have sz4 := f4.size;have hm4 : GM w4 ⟨w.heap.size, w1.heap.size, w2.heap.size, w.heap.size, w3.heap.size, A⟩ [.int .i64 n, s1, .bool nl, l1, u1] n s1 nl (.slice none 0 0) (.slice none 0 0) :=
    ⟨f24.range rg12 .nil, rg4, f4.there th3, f24.there th2, hA, by simp only; omega, by simp only; omega, by simp only; omega, by simp only; omega, by simp only; omega, by simp only; omega, by simp only; omega, by simp only; omega, by simp only; omega⟩
  refine hK2 _ w4 (tUp ?_);refine tId (wp_seq_k fun K3 hK3 => ?_);refine got_loopL (e := ⟨w.heap.size, w1.heap.size, w2.heap.size, w.heap.size, w3.heap.size, A⟩) hT hT27 hz0 hT24 hT24s hT32 hT32s hbs hmx henter he (by rw [(k4 _ _ _ _ _ _ _ _).size, hz1, hsz]) (by rw [(k4 _ _ _ _ _ _ _ _).get 1 (by omega), g1]) (gQ) hm4 (ht.kept f04 (by simp) (fun _ h => h)) ih
    fun a5 w5 lv k5 ⟨r5, hr5, f5⟩ hm5 hl5 => hK3 a5 w5 (tUp ?_)
  have hz5 := k5.size;have g15 := (k5.get 1 (by omega)).trans (((k4 _ _ _ _ _ _ _ _).get 1 (by omega)).trans g1);have g25 := (k5.get 2 (by omega)).trans (((k4 _ _ _ _ _ _ _ _).get 2 (by omega)).trans g2);have g35 := (k5.get 3 (by omega)).trans (gQ);have hsz5 : a5.tmps.size = 49 := by rw [hz5, (k4 _ _ _ _ _ _ _ _).size, hz1, hsz]
  have hd5 : a5.defers = [] := by rw [k5.defers, (k4 _ _ _ _ _ _ _ _).defers, k1.defers, hd0]
  refine tId (wp_seq_k fun K4 hK4 => ?_);have f05 : Fr [] w w5 := f04.trans f5 (by
    intro r hr
    rcases List.mem_cons.1 hr with rfl | h
    · left; simp only; omega
    · left; have := hr5 r h; simp only at this; omega)
  have hs5 := f5.size;have hm5' : GM w5 ⟨w.heap.size, w1.heap.size, w2.heap.size, w.heap.size, w5.heap.size, A⟩ [.int .i64 n, s1, .bool nl, l1, u1] n s1 nl lv (.slice none 0 0) :=
    ⟨hm5.r1, hm5.ro, hm5.to, hm5.tr, hA, by simp only; omega, by simp only; omega, by simp only; omega, by simp only; omega, by simp only; omega, by simp only; omega, by simp only; omega, by simp only; omega, Nat.le_refl _⟩
  refine got_loopU (e := ⟨w.heap.size, w1.heap.size, w2.heap.size, w.heap.size, w5.heap.size, A⟩) hT hT27 hT61 hT62 hz61 hT22 hT25 hT25s hT59 hT33 hT33s hbs3 hsz5 g15 g35 hm5' ((hv.kept f04 (by simp) (fun _ h => h)).kept f5 (GE.notA hm4 hr5) (fun _ h => h))
    fun a6 w6 uv k6 ⟨r6, hr6, f6⟩ hm6 hu6 => hK4 a6 w6 (tUp ?_)
  have hz6 := k6.size;have g26 := (k6.get 2 (by omega)).trans g25;have g36 := (k6.get 3 (by omega)).trans g35;refine wT fun K5 hK5 => ?_;refine wC (wp_loadFlat hT (cs := [.int .i64 n, s1, .bool nl, lv, uv]) rfl (by rw [eTm, g36]) hm6.ro ?_);rw [wCo];have hones : ∀ y ∈ [(.int .i64 n : Value), s1, .bool nl, lv, uv], y.oneCell' = true := by
    intro y hy; simp at hy; rcases hy with rfl | rfl | rfl | rfl | rfl <;> first | rfl | exact ho.one | exact hl5.1.one | exact hu6.1.one
  refine wp_storeFlat hT (cs := [.int .i64 n, s1, .bool nl, lv, uv]) (b := w1.heap.size) (o := 0) rfl (by rw [eTm, gR, g26]) (by rw [eTm, gQ]) hones hm6.tr ?_;rw [wNi, pNo];have f7 := Fr.sets w1.heap.size [.int .i64 n, s1, .bool nl, lv, uv] w6 0;have rg7 := World.rangeAt_setCells_same (w := w6) w1.heap.size 0 [.int .i64 n, s1, .bool nl, lv, uv] hm6.tr;generalize w6.setCells w1.heap.size 0 [.int .i64 n, s1, .bool nl, lv, uv] = w7 at f7 rg7 ⊢;refine hK5 _ w7 (wp_ret ?_);refine ⟨by rw [dPu, k6.defers, hd5], _, results_cell (cs := [.int .i64 n, s1, .bool nl, lv, uv]) hres hT rfl (by rw [gR, g26]) rg7, [.int .i64 n, s1, .bool nl, lv, uv], rfl, ?_, ?_⟩
  · refine (f05.trans f6 ?_).trans f7 ?_
    · intro r hr
      rcases List.mem_cons.1 hr with rfl | h
      · left; simp only; omega
      left; have := hr6 r h; simp only at this; omega
    intro r hr; simp at hr; subst hr; left; simp only; omega
  have hs6 := f6.size;have hs7 := f7.size;have f06 : Fr [] w w6 := f05.trans f6 (by
    intro r hr
    rcases List.mem_cons.1 hr with rfl | h
    · left; simp only; omega
    · left; have := hr6 r h; simp only at this; omega)
  have n7 : ∀ (B : Nat → Prop), (∀ b, B b → b < w.heap.size ∨ w3.heap.size ≤ b) → ∀ r ∈ [(⟨w1.heap.size, 0, 0 + [(.int .i64 n : Value), s1, .bool nl, lv, uv].length⟩ : Rng)], ¬ B r.b := by
    intro B hB r hr hb; simp at hr; subst hr; have := hB _ hb; simp only at this; omega
  rw [repT_iff];refine ⟨s1, lv, uv, rfl, hn, ?_, ?_, ?_⟩
  · exact (ho.kept f06 (by simp) (fun _ h => h)).kept f7 (n7 A (fun b hb => .inl (hA b hb))) (fun b hb => .inl hb)
  · have h5 := LOwn.things ht.big hl5.1;have h6 := h5.kept f6 (A' := fun b => A b ∨ From w3.heap.size w6 b) (by
      intro r hr hF
      rcases List.mem_cons.1 hr with rfl | h
      · rcases hF with hF | hF
        · have := hA _ hF; simp only at this; omega
        · have := hF.1; simp only at this; omega
      · have h8 := hr6 r h
        rcases hF with hF | hF
        · have := hA _ hF; simp only at this h8; omega
        · have := hF.2; simp only at this h8; omega) (fun b hb => hb.imp (fun h => h) (From.mono hs6 b))
    exact h6.kept f7 (n7 (fun b => A b ∨ From w3.heap.size w6 b) (fun b hb => hb.imp (hA b) (fun h => h.1))) (fun b hb => hb.imp (fun h => h) (fun h => ⟨by have := h.1; omega, by have := h.2; omega⟩))
  have h6 := TOwn.tags hv.big hu6.1;exact h6.kept f7 (n7 (GE.C ⟨w.heap.size, w1.heap.size, w2.heap.size, w.heap.size, w5.heap.size, A⟩ w6) (fun b hb => hb.imp (hA b) (fun h => by have := h.1; simp only at this; omega))) (fun b hb => hb.imp (fun h => h) (fun h => ⟨by have := h.1; simp only at this; omega, by have := h.2; omega⟩))
end Go.Kq

namespace Go.Kq
open Go Go.Proofs
section
variable {P : Program} {a : Act} {w : World} {K : Act → World → Prop} {Q : Exit → Act → World → Prop} {d : Option Tmp} {t : TypeId} {p : String} {af : Array Edge} {g : Option (Nat × Bool)}
theorem wMv {x : Operand} {v : Value} (hx : a.eval x = v) (k : K (a.put d v) w) : OW P ⟨d, .move x, t, p, af, g⟩ a w K Q := by rw [wMw, hx]; exact k
theorem wAs {x : Operand} {v : Value} (hx : a.eval x = v) (k : K (a.put d v) w) : OW P ⟨d, .assign x, t, p, af, g⟩ a w K Q := by rw [wAg, hx]; exact k
theorem lt_sz {a : Act} {N d : Nat} (h : a.tmps.size = N) (hd : d < N) : d < a.tmps.size := h ▸ hd
theorem wEn {K : Act → World → Prop} (h : ∀ a', a' = a → K a' w) : wpl P (Exit.then K Q) [] a w := h a rfl
theorem wEk {a0 : Act} {N : Nat} {l : List Deferred} {K : Act → World → Prop} (hz : a0.tmps.size = N) (hd : a0.defers = l) (k : ∀ a', a' = a → a'.tmps.size = N → a'.defers = l → K a' w) (hp : a.tmps.size = a0.tmps.size := by (repeat first | rw [sPu] | rw [pNo]); try rfl) (hq : a.defers = a0.defers := by (repeat first | rw [dPu] | rw [pNo]); try rfl) : wpl P (Exit.then K Q) [] a w := wEn fun a' h => k a' h (kS h hz hp) (kD h hd hq)
theorem wp_blockT {id : Nat} {c : Code} {K : Act → World → Prop} (h : c.wp P (Exit.then K (Exit.inBlock id (Exit.then K Q))) a w) : (Code.block id c).wp P (Exit.then K Q) a w :=
  wp_block (wp_mono h fun _ _ _ => inBlock_then)
theorem wCr {f : FuncId} {xs : Array Operand} {ts : Array TypeId} {vs : Array Value} {R : Value → World → Prop} (he : Enters P f) (hx : xs.map a.eval = vs)
    (hc : Calls P f vs w fun e w' => ∃ v, e = .returned v ∧ R v w') (k : ∀ v w', R v w' → K (a.put d v) w') : OW P ⟨d, .call ⟨.value (.func f), xs, ts⟩, t, p, af, g⟩ a w K Q := wp_calls he hx hc k
variable {s u : TypeId} {x y : Operand} {k1 : IntKind} {i j : Int}
theorem wp_lssT (h : i < j) (hx : a.eval x = .int k1 i) (hy : a.eval y = .int k1 j) (k : K (a.put d (.bool true)) w) : OW P ⟨d, .binOp .lss s x y u, t, p, af, g⟩ a w K Q := wp_lss hx hy (by rw [decide_eq_true h]; exact k)
theorem wp_lssF (h : ¬ i < j) (hx : a.eval x = .int k1 i) (hy : a.eval y = .int k1 j) (k : K (a.put d (.bool false)) w) : OW P ⟨d, .binOp .lss s x y u, t, p, af, g⟩ a w K Q := wp_lss hx hy (by rw [decide_eq_false h]; exact k)
theorem wp_leqT (h : i ≤ j) (hx : a.eval x = .int k1 i) (hy : a.eval y = .int k1 j) (k : K (a.put d (.bool true)) w) : OW P ⟨d, .binOp .leq s x y u, t, p, af, g⟩ a w K Q := wp_leq hx hy (by rw [decide_eq_true h]; exact k)
theorem wp_leqF (h : ¬ i ≤ j) (hx : a.eval x = .int k1 i) (hy : a.eval y = .int k1 j) (k : K (a.put d (.bool false)) w) : OW P ⟨d, .binOp .leq s x y u, t, p, af, g⟩ a w K Q := wp_leq hx hy (by rw [decide_eq_false h]; exact k)
theorem wp_geqT (h : i ≥ j) (hx : a.eval x = .int k1 i) (hy : a.eval y = .int k1 j) (k : K (a.put d (.bool true)) w) : OW P ⟨d, .binOp .geq s x y u, t, p, af, g⟩ a w K Q := wp_geq hx hy (by rw [decide_eq_true h]; exact k)
theorem wp_geqF (h : ¬ i ≥ j) (hx : a.eval x = .int k1 i) (hy : a.eval y = .int k1 j) (k : K (a.put d (.bool false)) w) : OW P ⟨d, .binOp .geq s x y u, t, p, af, g⟩ a w K Q := wp_geq hx hy (by rw [decide_eq_false h]; exact k)
theorem wp_eqlT (h : i = j) (hx : a.eval x = .int k1 i) (hy : a.eval y = .int k1 j) (k : K (a.put d (.bool true)) w) : OW P ⟨d, .binOp .eql s x y u, t, p, af, g⟩ a w K Q := wp_eql hx hy (by rw [beq_iff_eq.2 h]; exact k)
theorem wp_eqlF (h : ¬ i = j) (hx : a.eval x = .int k1 i) (hy : a.eval y = .int k1 j) (k : K (a.put d (.bool false)) w) : OW P ⟨d, .binOp .eql s x y u, t, p, af, g⟩ a w K Q := wp_eql hx hy (by rw [beq_eq_false_iff_ne.2 h]; exact k)
theorem wp_mul {x y : Operand} (hx : a.eval x = .int k1 i) (hy : a.eval y = .int k1 j) (k : K (a.put d (.int k1 (k1.wrap (i * j)))) w) :
    OW P ⟨d, .binOp .mul s x y u, t, p, af, g⟩ a w K Q := wp_val (by simp [execOp, hx, hy, eqGuard, binOp, Op.intArith]) k
theorem wp_shr {x y : Operand} {k2 : IntKind} {n : Nat} (hx : a.eval x = .int k1 i) (hy : a.eval y = .int k2 n) (hn : n ≤ k1.bits) (k : K (a.put d (.int k1 (i / (2 ^ n : Nat)))) w) :
    OW P ⟨d, .binOp .shr s x y u, t, p, af, g⟩ a w K Q := by
  have hr : (Op.shift .shr k1 i k2 (n : Int)).run P w = .ok (.int k1 (i / (2 ^ n : Nat))) w := by
    unfold Op.shift;rw [if_neg (by omega)]
    have : i.fdiv (2 ^ n) = i / ((2 ^ n : Nat) : Int) := by rw [Int.fdiv_eq_ediv_of_nonneg]; · simp
                                                            · exact Int.le_of_lt (Int.pow_pos (by omega))
    simp [Nat.min_eq_left hn, this]
  have hb : (binOp .shr s (.int k1 i) (.int k2 (n : Int))).run P w = .ok (.int k1 (i / (2 ^ n : Nat))) w := by
    simp only [binOp]; exact hr
  exact wp_val (by simp [execOp, hx, hy, eqGuard, hb]) k
theorem wp_band {x y : Operand} (hx : a.eval x = .int k1 i) (hy : a.eval y = .int k1 j) (k : K (a.put d (.int k1 (bits .and k1 i j))) w) :
    OW P ⟨d, .binOp .and s x y u, t, p, af, g⟩ a w K Q := by
  have hr : (binOp .and s (.int k1 i) (.int k1 j)).run P w = .ok (.int k1 (bits .and k1 i j)) w := by
    simp only [binOp, ne_eq, not_true, if_false]; rfl
  exact wp_val (by simp [execOp, hx, hy, eqGuard, hr]) k
theorem wp_bor {x y : Operand} (hx : a.eval x = .int k1 i) (hy : a.eval y = .int k1 j) (k : K (a.put d (.int k1 (bits .or k1 i j))) w) :
    OW P ⟨d, .binOp .or s x y u, t, p, af, g⟩ a w K Q := by
  have hr : (binOp .or s (.int k1 i) (.int k1 j)).run P w = .ok (.int k1 (bits .or k1 i j)) w := by
    simp only [binOp, ne_eq, not_true, if_false]; rfl
  exact wp_val (by simp [execOp, hx, hy, eqGuard, hr]) k
theorem wp_lenS {s : TypeId} {x : Operand} {q : Option Addr} {n cap : Nat} (h : slTy P s = true) (hx : a.eval x = .slice q n cap)
    (k : K (a.put d (.int .i64 n)) w) : OW P ⟨d, .call ⟨.builtin .len, #[x], #[s]⟩, t, p, af, g⟩ a w K Q := by
  unfold slTy at h
  cases hu : P.underlying s with
  | none => simp [hu] at h
  | some e =>
    cases e <;> simp [hu] at h
    refine wp_val (v := .int .i64 n) (w' := w) ?_ k;simp [execOp, resolve, invoke, builtin, Builtin.len_, hx, run_underlying hu, goInt]
theorem wp_min2 {x y : Operand} {ts : Array TypeId} (hx : a.eval x = .int k1 i) (hy : a.eval y = .int k1 j) (k : K (a.put d (.int k1 (if j < i then j else i))) w) :
    OW P ⟨d, .call ⟨.builtin .min, #[x, y], ts⟩, t, p, af, g⟩ a w K Q := by
  refine wp_val (v := .int k1 (if j < i then j else i)) (w' := w) ?_ k;have := run_min_int2 (P := P) (w := w) ts t k1 k1 i j;simp [execOp, resolve, invoke, builtin, hx, hy, this]
theorem wp_max2 {x y : Operand} {ts : Array TypeId} (hx : a.eval x = .int k1 i) (hy : a.eval y = .int k1 j) (k : K (a.put d (.int k1 (if j > i then j else i))) w) :
    OW P ⟨d, .call ⟨.builtin .max, #[x, y], ts⟩, t, p, af, g⟩ a w K Q := by
  refine wp_val (v := .int k1 (if j > i then j else i)) (w' := w) ?_ k;have := run_max_int2 (P := P) (w := w) ts t k1 k1 i j;simp [execOp, resolve, invoke, builtin, hx, hy, this]
end
theorem oCs {P : Program} {Q : Exit → Act → World → Prop} {l0 : List Rng} {n : Nat} {a0 : Act} {w0 : World} {sps : List Sp} {i : Nat} {o : Oper} {os : List Oper} {s : Sp} {ss : List Sp}
    (h1 : OpOk P Q l0 n a0 w0 sps i o s) (h2 : opsOk P Q l0 n a0 w0 sps (i + 1) os ss) : opsOk P Q l0 n a0 w0 sps i (o :: os) (s :: ss) := ⟨h1, h2⟩
theorem opsOk_nil {P : Program} {Q : Exit → Act → World → Prop} {l0 : List Rng} {n : Nat} {a0 : Act} {w0 : World} {sps ss : List Sp} {i : Nat} : opsOk P Q l0 n a0 w0 sps i [] ss := trivial
section
variable {P : Program} {Q : Exit → Act → World → Prop}
def wg (P : Program) (Q : Exit → Act → World → Prop) (all : List Oper) : List Oper → Act → World → Prop
  | [], a, w => Q .normal a w
  | o :: os, a, w => (o.guard = none ∧ OW P o a w (wg P Q all os) Q) ∨
      (∃ j want dj b, o.guard = some (j, want) ∧ (all[j]?.bind (·.dst)) = some dj ∧ dj < a.tmps.size ∧ get a dj = .bool b ∧ (b = want → OW P o a w (wg P Q all os) Q) ∧ (b = (!want) → wg P Q all os (a.put o.dst undef) w)) ∨
      (∃ j want dj, o.guard = some (j, want) ∧ (all[j]?.bind (·.dst)) = some dj ∧ get a dj = undef ∧ wg P Q all os (a.put o.dst undef) w)
variable {all os : List Oper} {a : Act} {w : World}
theorem gCn {d : Option Tmp} {i : Op} {t : TypeId} {p : String} {af : Array Edge} (h : OW P ⟨d, i, t, p, af, none⟩ a w (wg P Q all os) Q) : wg P Q all (⟨d, i, t, p, af, none⟩ :: os) a w := .inl ⟨rfl, h⟩
theorem wg_yes {d : Option Tmp} {i : Op} {t : TypeId} {p : String} {af : Array Edge} {j : Nat} {want : Bool} {dj : Nat} (hj : (all[j]?.bind (·.dst)) = some dj) (hs : dj < a.tmps.size) (hb : get a dj = .bool want)
    (h : OW P ⟨d, i, t, p, af, some (j, want)⟩ a w (wg P Q all os) Q) : wg P Q all (⟨d, i, t, p, af, some (j, want)⟩ :: os) a w := .inr (.inl ⟨j, want, dj, want, rfl, hj, hs, hb, fun _ => h, fun e => (by cases want <;> simp at e)⟩)
theorem wg_no {d : Option Tmp} {i : Op} {t : TypeId} {p : String} {af : Array Edge} {j : Nat} {want : Bool} {dj : Nat} (hj : (all[j]?.bind (·.dst)) = some dj) (hs : dj < a.tmps.size) (hb : get a dj = .bool (!want))
    (h : wg P Q all os (a.put d undef) w) : wg P Q all (⟨d, i, t, p, af, some (j, want)⟩ :: os) a w := .inr (.inl ⟨j, want, dj, !want, rfl, hj, hs, hb, fun e => (by cases want <;> simp at e), fun _ => h⟩)
theorem wg_un {d : Option Tmp} {i : Op} {t : TypeId} {p : String} {af : Array Edge} {j : Nat} {want : Bool} {dj : Nat} (hj : (all[j]?.bind (·.dst)) = some dj) (hb : get a dj = undef)
    (h : wg P Q all os (a.put d undef) w) : wg P Q all (⟨d, i, t, p, af, some (j, want)⟩ :: os) a w := .inr (.inr ⟨j, want, dj, rfl, hj, hb, h⟩)
theorem wg_noT {d : Option Tmp} {i : Op} {t : TypeId} {p : String} {af : Array Edge} {j : Nat} {dj : Nat} (hj : (all[j]?.bind (·.dst)) = some dj) (hs : dj < a.tmps.size) (hb : get a dj = .bool false)
    (h : wg P Q all os (a.put d undef) w) : wg P Q all (⟨d, i, t, p, af, some (j, true)⟩ :: os) a w := wg_no hj hs hb h
theorem wg_noF {d : Option Tmp} {i : Op} {t : TypeId} {p : String} {af : Array Edge} {j : Nat} {dj : Nat} (hj : (all[j]?.bind (·.dst)) = some dj) (hs : dj < a.tmps.size) (hb : get a dj = .bool true)
    (h : wg P Q all os (a.put d undef) w) : wg P Q all (⟨d, i, t, p, af, some (j, false)⟩ :: os) a w := wg_no hj hs hb h
theorem rIs {fn : Func} {t : Nat} {v : Value} (h : fn.results = #[.tmp t]) (hg : get a t = v) : (results fn a.tmps).run P w = .ok v w := by rw [← hg]; exact results_one h
theorem wg_end {K : Act → World → Prop} (h : ∀ a', a' = a → K a' w) : wg P (Exit.then K Q) all [] a w := h a rfl
theorem wpOps_of_wg {ops : Array Oper} : ∀ (n i : Nat) (a : Act) (w : World), i + n = ops.size → wg P Q ops.toList (ops.toList.drop i) a w → wpOps P ops Q (List.range' i n) a w := by
  intro n
  induction n with
  | zero =>
    intro i a w hi h;have : ops.toList.drop i = [] := by apply List.drop_of_length_le; simp; omega
    rw [this] at h
    simpa [wpOps, wg] using h
  | succ n ih =>
    intro i a w hi h;have hlt : i < ops.size := by omega
    have hd : ops.toList.drop i = ops[i] :: ops.toList.drop (i + 1) := by
      rw [List.drop_eq_getElem_cons (by simpa using hlt)]; simp
    have hs : ops[i]? = some ops[i] := Array.getElem?_eq_getElem hlt;rw [hd] at h;simp only [List.range'_succ, wpOps, hs]
    rcases h with ⟨hg, h⟩ | ⟨j, want, dj, b, hg, hj, hsz, hb, h1, h2⟩ | ⟨j, want, dj, hg, hj, hb, h⟩
    · have hw : Region.wanted ops[i] (yielded ops a.tmps) = true := by simp [Region.wanted, hg]
      simp only [hw, if_true]
      left
      exact Oper.upon_mono (fun a w h => ih (i + 1) a w (by omega) h) _ h.sem
    · have hy : yielded ops a.tmps j = some b := by
        have hj' : (ops[j]?.bind (·.dst)) = some dj := by simpa using hj
        have ht : a.tmps[dj]? = some (.bool b) := by
          unfold get at hb;rw [Array.getD_eq_getD_getElem?] at hb;simp [hsz] at hb ⊢
          exact hb
        simp [yielded, hj', ht]
      have hw : Region.wanted ops[i] (yielded ops a.tmps) = (b == want) := by simp only [Region.wanted, hg, hy]; cases b <;> cases want <;> rfl
      rw [hw]
      by_cases hbw : b = want
      · simp only [hbw, beq_self_eq_true, if_true];exact .inl (Oper.upon_mono (fun a w h => ih (i + 1) a w (by omega) h) _ (h1 hbw).sem)
      have e : b = !want := by cases b <;> cases want <;> first | rfl | exact absurd rfl hbw
      have : (b == want) = false := by cases b <;> cases want <;> first | rfl | exact absurd rfl hbw
      rw [this];simp only [Bool.false_eq_true, if_false];exact ih (i + 1) _ w (by omega) (h2 e)
    have hy : yielded ops a.tmps j = none := by
      have hj' : (ops[j]?.bind (·.dst)) = some dj := by simpa using hj
      unfold get at hb;rw [Array.getD_eq_getD_getElem?] at hb
      cases h : a.tmps[dj]? with
      | none => simp [yielded, hj', h]
      | some v => rw [h] at hb; simp at hb; subst hb; simp [yielded, hj', h, undef]
    have hw : Region.wanted ops[i] (yielded ops a.tmps) = false := by simp only [Region.wanted, hg, hy]; rfl
    rw [hw];simp only [Bool.false_eq_true, if_false];exact ih (i + 1) _ w (by omega) h
theorem wp_regG {id : Nat} {l : List Oper} {a : Act} {w : World} (h : wg P Q l l a w) : (Code.region id ⟨l⟩ false).wp P Q a w := by
  refine wp_region ?_;have := wpOps_of_wg (P := P) (Q := Q) (ops := ⟨l⟩) l.length 0 a w (by simp) (by simpa using h)
  simpa [List.range_eq_range'] using this
end
end Go.Kq

namespace Go.Kq
open Go
def T.n : T → Int | .mk k _ _ _ _ => k
def T.s : T → List UInt8 | .mk _ k _ _ _ => k
def T.nl : T → Bool | .mk _ _ k _ _ => k
def T.l : T → List T | .mk _ _ _ k _ => k
def T.u : T → List (Nat × List UInt8) | .mk _ _ _ _ k => k
inductive Fd where
  | mk (kind fr to nul tag df of : Int) (sub : List Fd)
  deriving Inhabited
def Fd.kind : Fd → Int | .mk k _ _ _ _ _ _ _ => k
def Fd.fr : Fd → Int | .mk _ k _ _ _ _ _ _ => k
def Fd.to : Fd → Int | .mk _ _ k _ _ _ _ _ => k
def Fd.nul : Fd → Int | .mk _ _ _ k _ _ _ _ => k
def Fd.tag : Fd → Int | .mk _ _ _ _ k _ _ _ => k
def Fd.df : Fd → Int | .mk _ _ _ _ _ k _ _ => k
def Fd.of : Fd → Int | .mk _ _ _ _ _ _ k _ => k
def Fd.sub : Fd → List Fd | .mk _ _ _ _ _ _ _ k => k
def Fd.has (f : Fd) (ver : Int) : Bool := decide (f.fr ≤ ver) && (decide (f.to < 0) || decide (ver ≤ f.to))
def nullW (nul ver : Int) (t : T) : Bool := t.nl && decide (nul ≥ 0) && decide (ver ≥ nul)
def wholeS (b : List UInt8) : List UInt8 := b.take 32767
def atT (l : List T) (i : Nat) : T := l[i]?.getD .zero
def uvW (n : Nat) : List UInt8 := if n > 127 then UInt8.ofNat (n % 128 + 128) :: uvW (n / 128) else [UInt8.ofNat n]
termination_by n
decreasing_by omega
def fxW (n : Int) : Nat → List UInt8
  | 0 => []
  | k + 1 => UInt8.ofNat ((n / (2 ^ (8 * k) : Nat)) % 256).toNat :: fxW n k
def widthW (kind : Int) : Nat := if kind = 1 then 1 else if kind = 2 ∨ kind = 5 then 2 else if kind = 3 then 4 else 8
def countedW (flex null : Bool) (n size : Nat) : List UInt8 :=
  if flex && null then [0] else if flex then uvW (n + 1) else if null then fxW (-1) size else fxW n size
def uuidW (s : List UInt8) : List UInt8 := s.take 16 ++ List.replicate (16 - s.length) 0
def valueW (kind : Int) (sub : T → List UInt8) (null flex : Bool) (t : T) : List UInt8 :=
  if kind = 0 then [UInt8.ofNat (t.n % 2).toNat]
  else if kind = 7 then uuidW t.s
  else if kind = 8 then countedW flex null (if null then [] else wholeS t.s).length 2 ++ (if null then [] else wholeS t.s)
  else if kind = 9 then countedW flex null (if null then [] else wholeS t.s).length 4 ++ (if null then [] else wholeS t.s)
  else if kind = 10 then sub t
  else fxW t.n (widthW kind)
def thingsW (null : Bool) (t : T) : List T := if null then [] else t.l.take 32767
def fieldV (kind nul of : Int) (sub : T → List UInt8) (ver : Int) (flex : Bool) (t : T) : List UInt8 :=
  if kind = 11 then countedW flex (nullW nul ver t) (thingsW (nullW nul ver t) t).length 4 ++ (thingsW (nullW nul ver t) t).flatMap (valueW of sub false flex)
  else if kind = 10 ∧ nul ≥ 0 then (if nullW nul ver t then [255] else 1 :: sub t)
  else valueW kind sub (nullW nul ver t) flex t
def knownW : List Fd → Nat
  | [] => 0
  | f :: fs => if f.tag ≥ 0 then max (f.tag.toNat + 1) (knownW fs) else knownW fs
def insAt (out : List (Nat × List UInt8)) (k : Nat) : Nat := (out.takeWhile fun p => decide (p.1 < k)).length
def insTag (least : Nat) (out : List (Nat × List UInt8)) (t : Nat × List UInt8) : List (Nat × List UInt8) :=
  if t.1 < least then out else if (out[insAt out t.1]?.map (·.1)) = some t.1 then out else out.take (insAt out t.1) ++ t :: out.drop (insAt out t.1)
def unknownW (fs : List Fd) (u : List (Nat × List UInt8)) : List (Nat × List UInt8) := (u.take 32767).foldl (insTag (knownW fs)) []
mutual
/-- What is so by default. -/
def usualW : Fd → T → Bool
  | .mk kind _ _ nul _ df _ sub, t =>
    if kind = 0 then decide (t.n % 2 = df)
    else if kind = 7 then (t.s.take 16).all (· == 0)
    else if kind = 8 ∨ kind = 9 then (if nul ≥ 0 then t.nl else t.s.isEmpty)
    else if kind = 11 then t.l.isEmpty
    else if kind = 10 then usualsW sub t.l 0 && (unknownW sub t.u).isEmpty
    else decide (fxW t.n (widthW kind) = fxW df (widthW kind))
def usualsW : List Fd → List T → Nat → Bool
  | [], _, _ => true
  | f :: fs, ts, i => usualW f (atT ts i) && usualsW fs ts (i + 1)
end
def pairW (p : Nat × List UInt8) : List UInt8 := uvW p.1 ++ (uvW p.2.length ++ p.2)
def bodyW (fs : List Fd) (ver : Int) (encs : List (List UInt8)) (n : Nat) : List UInt8 :=
  (List.range n).flatMap fun i => match fs[i]? with
    | some f => if decide (f.tag < 0) && f.has ver then encs.getD i [] else []
    | none => []
def knownsW (fs : List Fd) (t : T) (encs : List (List UInt8)) : List (Nat × List UInt8) :=
  (List.range (knownW fs)).flatMap fun (tag : Nat) => (List.range fs.length).flatMap fun i => match fs[i]? with
    | some f => if decide (f.tag = ((tag : Nat) : Int)) && !usualW f (atT t.l i) then [(tag, encs.getD i [])] else []
    | none => []
def unksW (fs : List Fd) (t : T) : List (Nat × List UInt8) := (unknownW fs t.u).map fun u => (u.1, wholeS u.2)
def joinW (fs : List Fd) (ver : Int) (flex : Bool) (t : T) (encs : List (List UInt8)) : List UInt8 :=
  if flex then bodyW fs ver encs fs.length ++ (uvW ((knownsW fs t encs).length + (unksW fs t).length) ++ (knownsW fs t encs ++ unksW fs t).flatMap pairW)
  else bodyW fs ver encs fs.length
mutual
def fieldW : Fd → Int → Bool → T → List UInt8
  | .mk kind _ _ nul _ _ of sub, ver, flex, t => fieldV kind nul of (fun t => joinW sub ver flex t (fieldsW sub ver flex t.l 0)) ver flex t
def fieldsW : List Fd → Int → Bool → List T → Nat → List (List UInt8)
  | [], _, _, _, _ => []
  | f :: fs, ver, flex, ts, i => fieldW f ver flex (atT ts i) :: fieldsW fs ver flex ts (i + 1)
end
def partW (fs : List Fd) (ver : Int) (flex : Bool) (t : T) : List UInt8 := joinW fs ver flex t (fieldsW fs ver flex t.l 0)
theorem fieldW_eq (f : Fd) (ver : Int) (flex : Bool) (t : T) : fieldW f ver flex t = fieldV f.kind f.nul f.of (partW f.sub ver flex) ver flex t := by
  cases f with
  | mk kind fr to nul tag df of sub => rw [fieldW]; rfl
theorem fieldsW_at : ∀ (fs : List Fd) (ver : Int) (flex : Bool) (ts : List T) (j i : Nat) (f : Fd), fs[i]? = some f → (fieldsW fs ver flex ts j).getD i [] = fieldW f ver flex (atT ts (j + i))
  | [], _, _, _, _, _, _, h => by simp at h
  | g :: fs, ver, flex, ts, j, 0, f, h => by simp at h; subst h; rw [fieldsW]; rfl
  | g :: fs, ver, flex, ts, j, i + 1, f, h => by
    rw [fieldsW, List.getD_cons_succ, fieldsW_at fs ver flex ts (j + 1) i f (by simpa using h)]
    congr 2; omega
end Go.Kq

namespace Go.Kq
open Go Go.Proofs
def zF : List Value := [.int .i64 0, .int .i64 0, .int .i64 0, .int .i64 0, .int .i64 0, .int .i64 0, .int .i64 0, .slice none 0 0]
inductive RepF (w : World) (A : Nat → Prop) : List Value → Fd → Prop where
  | nil {kind fr to nul tag df of : Int} :
      RepF w A [.int .i64 kind, .int .i64 fr, .int .i64 to, .int .i64 nul, .int .i64 tag, .int .i64 df, .int .i64 of, .slice none 0 0] (.mk kind fr to nul tag df of [])
  | sl {kind fr to nul tag df of : Int} {b o cap : Nat} {l : List Fd} (es : Nat → List Value) (hb : A b) (hc : l.length ≤ cap ∧ l.length ≤ 4294967296)
      (hr : ∀ i y, l[i]? = some y → w.rangeAt b (o + i * 8) (es i)) (hes : ∀ i y, l[i]? = some y → RepF w A (es i) y) :
      RepF w A [.int .i64 kind, .int .i64 fr, .int .i64 to, .int .i64 nul, .int .i64 tag, .int .i64 df, .int .i64 of, .slice (some ⟨b, o, none⟩) l.length cap] (.mk kind fr to nul tag df of l)
theorem RepF.kept {w w' : World} {A A' : Nat → Prop} {l : List Rng} {cs : List Value} {t : Fd} (h : RepF w A cs t) (hf : Fr l w w') (hl : ∀ r ∈ l, ¬ A r.b) (hA : ∀ b, A b → A' b) : RepF w' A' cs t := by
  induction h with
  | nil => exact .nil
  | sl es hb hc hr _ ih => exact .sl es (hA _ hb) hc (fun i y hi => hf.range (hr i y hi) (fun r hr => .inl fun e => hl r hr (e ▸ hb))) ih
theorem RepF.length {w : World} {A : Nat → Prop} {cs : List Value} {t : Fd} (h : RepF w A cs t) : cs.length = 8 := by cases h <;> rfl
def FdsR (w : World) (A : Nat → Prop) (v : Value) (l : List Fd) : Prop :=
  (v = .slice none 0 0 ∧ l = []) ∨ ∃ b o cap, A b ∧ v = .slice (some ⟨b, o, none⟩) l.length cap ∧ (l.length ≤ cap ∧ l.length ≤ 4294967296) ∧
    ∃ es : Nat → List Value, (∀ i y, l[i]? = some y → w.rangeAt b (o + i * 8) (es i)) ∧ ∀ i y, l[i]? = some y → RepF w A (es i) y
theorem FdsR.one {w : World} {A : Nat → Prop} {v : Value} {x : List Fd} (h : FdsR w A v x) : v.oneCell' = true := by
  rcases h with h | ⟨_, _, _, _, h, _⟩
  · rw [h.1]; rfl
  rw [h]; rfl
theorem FdsR.kept {w w' : World} {A A' : Nat → Prop} {l : List Rng} {v : Value} {x : List Fd} (h : FdsR w A v x) (hf : Fr l w w') (hl : ∀ r ∈ l, ¬ A r.b) (hA : ∀ b, A b → A' b) : FdsR w' A' v x := by
  rcases h with h | ⟨b, o, cap, hb, h1, h2, es, h3, h4⟩
  · exact .inl h
  exact .inr ⟨b, o, cap, hA b hb, h1, h2, es, fun i y hi => hf.range (h3 i y hi) (fun r hr => .inl fun e => hl r hr (e ▸ hb)), fun i y hi => (h4 i y hi).kept hf hl hA⟩
theorem repF_iff {w : World} {A : Nat → Prop} {cs : List Value} {f : Fd} : RepF w A cs f ↔
    ∃ sv, cs = [.int .i64 f.kind, .int .i64 f.fr, .int .i64 f.to, .int .i64 f.nul, .int .i64 f.tag, .int .i64 f.df, .int .i64 f.of, sv] ∧ FdsR w A sv f.sub := by
  constructor
  · intro h
    cases h with
    | nil => exact ⟨_, rfl, .inl ⟨rfl, rfl⟩⟩
    | sl es hb hc hr hes => exact ⟨_, rfl, .inr ⟨_, _, _, hb, rfl, hc, es, hr, hes⟩⟩
  rintro ⟨sv, rfl, h⟩
  cases f with
  | mk kind fr to nul tag df of sub =>
    rcases h with ⟨rfl, h⟩ | ⟨b, o, cap, hb, rfl, hc, es, hr, hes⟩
    · simp only [Fd.sub] at h; subst h; exact .nil
    exact .sl es hb hc hr hes
theorem FdsR.slice {w : World} {A : Nat → Prop} {v : Value} {l : List Fd} (h : FdsR w A v l) : ∃ q cap, v = .slice q l.length cap ∧ l.length ≤ 4294967296 ∧
    (∀ i f, l[i]? = some f → ∃ b o cs, q = some ⟨b, o, none⟩ ∧ A b ∧ w.rangeAt b (o + i * 8) cs ∧ RepF w A cs f) := by
  rcases h with ⟨rfl, rfl⟩ | ⟨b, o, cap, hb, rfl, hc, es, hr, hes⟩
  · exact ⟨none, 0, rfl, by simp, by simp⟩
  exact ⟨_, cap, rfl, hc.2, fun i f hi => ⟨b, o, es i, rfl, hb, hr i f hi, hes i f hi⟩⟩
theorem Things.sl2 {w : World} {A : Nat → Prop} {v : Value} {l : List T} (h : Things w A v l) : ∃ q cap, v = .slice q l.length cap ∧ l.length ≤ cap ∧ l.length ≤ 4294967296 ∧
    (∀ i t, l[i]? = some t → ∃ b o cs, q = some ⟨b, o, none⟩ ∧ A b ∧ w.rangeAt b (o + i * 5) cs ∧ RepT w A cs t) := by
  rcases h with ⟨rfl | ⟨a, rfl⟩, rfl⟩ | ⟨b, o, cap, hb, rfl, hc, es, hr, hes⟩
  · exact ⟨none, 0, rfl, by simp, by simp, by simp⟩
  · exact ⟨some a, 0, rfl, by simp, by simp, by simp⟩
  exact ⟨_, cap, rfl, hc.1, hc.2, fun i f hi => ⟨b, o, es i, rfl, hb, hr i f hi, hes i f hi⟩⟩
theorem TagsR.sl2 {w : World} {A : Nat → Prop} {v : Value} {u : List (Nat × List UInt8)} (h : TagsR w A v u) : ∃ q cap, v = .slice q u.length cap ∧ u.length ≤ cap ∧ u.length ≤ 4294967296 ∧
    (∀ (i k : Nat) (x : List UInt8), u[i]? = some (k, x) → ∃ b o xv, q = some ⟨b, o, none⟩ ∧ A b ∧ k < 4294967296 ∧ w.rangeAt b (o + i * 2) [.int .u32 k, xv] ∧ OctE w A xv x) := by
  rcases h with ⟨rfl | ⟨a, rfl⟩, rfl⟩ | ⟨b, o, cap, hb, rfl, hc, h⟩
  · exact ⟨none, 0, rfl, by simp, by simp, by simp⟩
  · exact ⟨some a, 0, rfl, by simp, by simp, by simp⟩
  exact ⟨_, cap, rfl, hc.1, hc.2, fun i k x hi => by obtain ⟨xv, h1, h2, h3⟩ := h i k x hi; exact ⟨b, o, xv, rfl, hb, h1, h2, h3⟩⟩
def Fresh (w : World) (xs : List UInt8) (e : Ending) (w' : World) : Prop := ∃ v, e = .returned v ∧ Fr [] w w' ∧ Own w' (From w.heap.size w') 1 v xs.length (octets xs)
theorem Own.octE {w : World} {A : Nat → Prop} {v : Value} {xs : List UInt8} (h : Own w A 1 v xs.length (octets xs)) (hl : xs.length ≤ 4294967296) : OctE w A v xs := by
  obtain ⟨_, ⟨rfl, h0⟩ | ⟨g, o, cap, hg, rfl, hc, hm, hr, ht⟩⟩ := h
  · have : xs = [] := List.eq_nil_of_length_eq_zero h0;subst this; exact .nil
  exact .inl ⟨some xs, .inr ⟨g, o, cap, xs, hg, rfl, ⟨hc, hl⟩, hr, rfl⟩, rfl⟩
theorem octs_ones (xs : List UInt8) : ∀ u ∈ octets xs, u.oneCell' = true := by
  intro u hu; simp [octets] at hu; obtain ⟨c, _, rfl⟩ := hu; rfl
theorem octets_append (xs ys : List UInt8) : octets (xs ++ ys) = octets xs ++ octets ys := by simp [octets]
theorem Own.upTo {w w' : World} {A A' : Nat → Prop} {sz n : Nat} {v : Value} {xs : List Value} (h : Own w A sz v n xs) (hf : Fr [] w w') (hA : ∀ b, A b → A' b) : Own w' A' sz v n xs := h.kept hf (by simp) hA
theorem Own.sl {w : World} {A : Nat → Prop} {sz n : Nat} {v : Value} {xs : List Value} (h : Own w A sz v n xs) : ∃ q cap, v = .slice q n cap := by
  obtain ⟨_, ⟨rfl, rfl⟩ | ⟨g, o, cap, hg, rfl, _⟩⟩ := h
  · exact ⟨_, _, rfl⟩
  exact ⟨_, _, rfl⟩
section
variable {P : Program} {a : Act} {w : World} {K : Act → World → Prop} {Q : Exit → Act → World → Prop} {d : Option Tmp} {t : TypeId} {p : String} {af : Array Edge} {g : Option (Nat × Bool)}
theorem wp_appO {T e : TypeId} {A B : Nat → Prop} {v u : Value} {xs ys : List UInt8} {x y : Operand} (hT : sliceOf P T e 1 1 = true) (hz : zeroIs P e [.int .u8 0])
    (hx : a.eval x = v) (hy : a.eval y = u) (h : Own w A 1 v xs.length (octets xs)) (hu : OctE w B u ys) (hb : xs.length + ys.length ≤ 4294967296)
    (k : ∀ v' w', Fr (spare v 1) w w' → Own w' (fun b => A b ∨ (w.heap.size ≤ b ∧ b < w'.heap.size)) 1 v' (xs ++ ys).length (octets (xs ++ ys)) → (∀ r ∈ spare v' 1, r.In (spare v 1) w) → (blk v' = blk v ∨ blk v' = some w.heap.size) → K (a.put d v') w') :
    OW P ⟨d, .call ⟨.builtin .append, #[x, y], #[T, T]⟩, t, p, af, g⟩ a w K Q := by
  obtain ⟨q, cap, rfl, hq⟩ := hu.slice
  by_cases h0 : ys = []
  · subst h0;obtain ⟨hut, i, z0, hi, hs', hby, hzz, hsz⟩ := under_slice hT;obtain ⟨q', cap', rfl⟩ := h.sl;have hle : xs.length ≤ cap' := by
      obtain ⟨_, ⟨hv, h0⟩ | ⟨g, o, cap, hg, hv, hc, _⟩⟩ := h
      · omega
      cases hv; exact hc
    have hr : (Builtin.append_ #[T, T] t #[.slice q' xs.length cap', .slice q 0 cap]).run P w = .ok (.slice q' xs.length cap') w := by
      cases q <;> cases q' <;> simp [Builtin.append_, run_underlying hut, sizeOf, typeInfo, hi, Builtin.lenOf, Builtin.firstCells, loadCells, loadCellsFrom, storeCells, hle]
    refine wp_val (v := .slice q' xs.length cap') (w' := w) ?_ (k _ _ (Fr.refl _ _) (by rw [List.append_nil]; exact h.upTo (Fr.refl _ _) (fun _ h => .inl h)) (fun r hr => Rng.in_self hr) (.inl rfl));simp only [List.length_nil] at hy;simp [execOp, resolve, invoke, builtin, hx, hy, hr]
  have hpos : 0 < ys.length := List.length_pos_iff.2 h0;obtain ⟨b, o, rfl, hr⟩ := hq hpos;refine wp_appendIn (z := [.int .u8 0]) (m := ys.length) (news := octets ys) hT hz rfl hx hy h hpos (by rw [lOc, Nat.mul_one]) hr (octs_ones ys) (by omega) (by simp only [maxLen]; omega) ?_;intro v' w' hf ho hbk hin;refine k v' w' hf ?_ hin hbk;rw [octets_append, List.length_append]; exact ho
theorem foldl_sets {n o : Nat} : ∀ (l : List Value) (k : Nat) (acc : List Value), o + k + l.length ≤ acc.length → acc.length = n →
    (l.zipIdx k).foldl (fun cs (x : Value × Nat) => cs.setIfInBounds (o + x.2) x.1) acc.toArray = (acc.take (o + k) ++ l ++ acc.drop (o + k + l.length)).toArray
  | [], k, acc, h, hn => by simp
  | v :: l, k, acc, h, hn => by
    simp only [List.length_cons] at h;simp only [List.zipIdx_cons, List.foldl_cons, List.setIfInBounds_toArray];rw [foldl_sets (n := n) l (k + 1) (acc.set (o + k) v) (by simp; omega) (by simpa using hn)]
    congr 1
    have hk : o + k < acc.length := by omega
    have e1 : (acc.set (o + k) v).take (o + (k + 1)) = acc.take (o + k) ++ [v] := by
      rw [show o + (k + 1) = (o + k) + 1 from by omega, List.take_succ_eq_append_getElem (by simpa using hk)];simp [List.take_set_of_le]
    have e2 : (acc.set (o + k) v).drop (o + (k + 1) + l.length) = acc.drop (o + k + (l.length + 1)) := by
      rw [List.drop_set_of_lt (by omega)]; congr 1; omega
    rw [e1, e2]; simp
theorem fill_all {sz : Nat} : ∀ (vs : List Value) (css : List (List Value)) (i : Nat) (pre : List Value) (rest : List Value), vs.map (fun v => v.cells) = css.map List.toArray → (∀ c ∈ css, c.length = sz) → pre.length = i * sz → rest.length = css.length * sz →
    Instr.fill (fun i => some (i * sz, sz)) (pre ++ rest).toArray ((vs.zipIdx i).map fun x => (x.2, x.1)) = some (pre ++ css.flatten).toArray
  | [], [], i, pre, rest, _, _, hp, hr => by
    have : rest = [] := List.eq_nil_of_length_eq_zero (by simpa using hr);subst this;simp [Instr.fill]
  | v :: vs, [], i, pre, rest, h, _, _, _ => by simp at h
  | [], c :: css, i, pre, rest, h, _, _, _ => by simp at h
  | v :: vs, c :: css, i, pre, rest, h, hc, hp, hr => by
    simp only [List.map_cons, List.cons.injEq] at h;have hcl : c.length = sz := hc c (by simp);rw [List.zipIdx_cons, List.map_cons, Instr.fill.eq_2];simp only [h.1, List.size_toArray, hcl];simp only [List.length_cons, Nat.add_mul, Nat.one_mul] at hr;rw [if_neg (by simp; omega)];have hf := foldl_sets (n := (pre ++ rest).length) (o := i * sz) c 0 (pre ++ rest) (by simp; omega) rfl;have hz : ∀ (acc : Array Value), Array.foldl (fun cs (x : Value × Nat) => cs.setIfInBounds (i * sz + x.2) x.1) acc c.toArray.zipIdx = (c.zipIdx 0).foldl (fun cs (x : Value × Nat) => cs.setIfInBounds (i * sz + x.2) x.1) acc := by
      intro acc; rw [← Array.foldl_toList]; simp
    rw [hz, hf];have e1 : (pre ++ rest).take (i * sz + 0) = pre := by rw [Nat.add_zero, ← hp]; simp
    have e2 : (pre ++ rest).drop (i * sz + 0 + c.length) = rest.drop sz := by rw [Nat.add_zero, hcl, ← hp]; simp [List.drop_append]
    rw [e1, e2];rw [fill_all vs css (i + 1) (pre ++ c) (rest.drop sz) h.2 (fun x hx => hc x (by simp [hx])) (by rw [List.length_append, hp, hcl, Nat.add_mul]; omega) (by rw [List.length_drop]; omega)];simp
theorem wp_sliceL {T e sz bs : Nat} {xs : List Operand} {css : List (List Value)} {n : Nat} (hT : sliceOf P T e sz bs = true) (hn : n = css.length) (hn0 : 0 < n) (hsz : n * sz ≤ 16777216) (hx : (xs.map a.eval).map (fun v => v.cells) = css.map List.toArray) (hl : ∀ c ∈ css, c.length = sz)
    (k : K (a.put d (.slice (some ⟨w.heap.size, 0, none⟩) n n)) (w.alloc (.cells css.flatten.toArray e))) :
    OW P ⟨d, .buildSlice T n ((xs.zipIdx 0).map fun x => (x.2, x.1)).toArray, t, p, af, g⟩ a w K Q := by
  obtain ⟨hu, i, z0, hi, hs, hby, hzz, hsz0⟩ := under_slice hT;subst hs
  constructor
  refine wp_buildSlice T e n _ rfl css.flatten.toArray i z0 hu hi hzz (by omega) (by have := Nat.mul_pos hn0 hsz0; omega) ?_ k;have h1 : (Array.map (fun x : Nat × Operand => (x.1, a.eval x.2)) ((xs.zipIdx 0).map fun x => (x.2, x.1)).toArray).toList = ((xs.map a.eval).zipIdx 0).map fun x => (x.2, x.1) := by
    simp only [List.map_toArray, List.map_map, List.zipIdx_map]
    rfl
  have h2 := fill_all (sz := i.size) (xs.map a.eval) css 0 [] ((Array.range (n * i.size)).map (z0.cells[· % z0.cells.size]!)).toList hx hl (by simp) (by simp [hn]);simp only [List.nil_append] at h2
  have h3 : ((Array.range (n * i.size)).map (z0.cells[· % z0.cells.size]!)).toList.toArray = (Array.range (n * i.size)).map (z0.cells[· % z0.cells.size]!) := Array.toArray_toList;rw [h3] at h2;rw [← h1] at h2;exact h2
theorem wp_boxL {s : TypeId} {x : Operand} {cs : List Value} (hx : a.eval x = .agg cs.toArray)
    (k : ∀ w', Fr [] w w' → w'.heap.size = w.heap.size + 1 → w'.rangeAt w.heap.size 0 cs → w'.there w.heap.size 0 cs.length → K (a.put d (.pointer (some ⟨w.heap.size, 0, none⟩))) w') :
    OW P ⟨d, .box s x, t, p, af, g⟩ a w K Q := by
  have hr := range_new w cs.toArray s (0, 0);have ht := there_new w cs.toArray s;refine wp_box hx (k _ (Fr.alloc _ _ _) (size_alloc _ _) (by simpa [Value.cells] using hr) (by simpa [Value.cells] using ht))
theorem wp_allocL {s : TypeId} {z : List Value} (hz : Flat P s z)
    (k : ∀ w', Fr [] w w' → w'.heap.size = w.heap.size + 1 → w'.rangeAt w.heap.size 0 z → w'.there w.heap.size 0 z.length → K (a.put d (.pointer (some ⟨w.heap.size, 0, none⟩))) w') :
    OW P ⟨d, .alloc s, t, p, af, g⟩ a w K Q := by
  have hr := range_new w z.toArray s (0, 0);have ht := there_new w z.toArray s;refine wp_alloc hz.zero (k _ (Fr.alloc _ _ _) (size_alloc _ _) (by simpa [Value.cells] using hr) (by simpa [Value.cells] using ht))
theorem wp_storeL {s : TypeId} {z : List Value} {x y : Operand} {b o : Nat} {cs : List Value} (h : Flat P s z) (hl : cs.length = z.length) (hx : a.eval x = .pointer (some ⟨b, o, none⟩)) (hy : a.eval y = .agg cs.toArray)
    (h1 : ∀ u ∈ cs, u.oneCell' = true) (ht : w.there b o z.length) (k : ∀ w', Fr [⟨b, o, o + z.length⟩] w w' → w'.heap.size = w.heap.size → w'.rangeAt b o cs → w'.there b o z.length → K (a.put d undef) w') : OW P ⟨d, .store s x y, t, p, af, g⟩ a w K Q := by
  rw [← hl] at ht;have f := Fr.sets b cs w o;refine wp_storeFlat h hl hx hy h1 ht (k _ (by rw [← hl]; exact f) ?_ (World.rangeAt_setCells_same _ _ _ _ ht) (by rw [← hl]; exact f.there ht));have h2 : ∀ (vs : List Value) (w : World) (o : Nat), (w.setCells b o vs).heap.size = w.heap.size := by
    intro vs
    induction vs with
    | nil => intro w o; rfl
    | cons v r ih => intro w o; show ((w.setCell ⟨b, o, none⟩ v).setCells b (o + 1) r).heap.size = _; rw [ih]; simp [World.setCell]
  exact h2 cs w o
theorem wL0 {s : TypeId} {x : Operand} {b j : Nat} {cs : List Value} {v : Value} (hs : scal P s = true) (hx : a.eval x = .pointer (some ⟨b, j, none⟩)) (hr : w.rangeAt b 0 cs) (hj : cs[j]? = some v)
    (k : K (a.put d v) w) : OW P ⟨d, .load s x, t, p, af, g⟩ a w K Q := wp_load hs hx (by have := hr j v hj; rwa [Nat.zero_add] at this) k
theorem wp_buildL {s : TypeId} {z : List Value} {ps : List (Nat × Operand)} {vs : List (Nat × Value)} (h : Flat P s z) (hv : ps.map (fun p => (p.1, a.eval p.2)) = vs) (h1 : ∀ p ∈ vs, p.1 < z.length ∧ p.2.oneCell' = true)
    (k : K (a.put d (.agg (laid z vs).toArray)) w) : OW P ⟨d, .build s ps.toArray, t, p, af, g⟩ a w K Q := by
  refine wp_val (v := .agg (laid z vs).toArray) (w' := w) ?_ k;have hr := run_build (w := w) (ps := vs) h h1;have hm : (ps.toArray.map fun (x : Nat × Operand) => (x.1, a.eval x.2)) = vs.toArray := by rw [← hv]; simp
  simp only [execOp];have : (Array.map (fun (x : Nat × Operand) => match x with | (i, x) => (i, a.eval x)) ps.toArray) = vs.toArray := hm;simp only [this, Sem.run_bind, hr, Result.andThen_ok, Sem.run_pure]
theorem wp_buildZ {s : TypeId} {z : List Value} (h : Flat P s z) (k : K (a.put d (.agg z.toArray)) w) : OW P ⟨d, .build s #[], t, p, af, g⟩ a w K Q :=
  wp_buildL (ps := []) h rfl (by simp) k
theorem wp_ixN {s e n bs : Nat} {x y : Operand} {b o len cap : Nat} {k1 : IntKind} {i : Nat} (h : sliceOf P s e n bs = true) (hx : a.eval x = .slice (some ⟨b, o, none⟩) len cap) (hy : a.eval y = .int k1 (i : Int))
    (h1 : i < len) (k : K (a.put d (.pointer (some ⟨b, o + i * n, none⟩))) w) : OW P ⟨d, .indexAddr s x y, t, p, af, g⟩ a w K Q :=
  wp_indexAddr h hx hy (by omega) (by omega) (by simpa using k)
end
theorem Flat.fld {P : Program} {t : TypeId} {z : List Value} (h : Flat P t z) {k : Nat} (hk : k < z.length) : fieldOf P t k k = true := by
  obtain ⟨_, _, fs, hu, hs, hf⟩ := h;have hk' : k < fs.size := by omega
  have hfk : fs[k]? = some fs[k] := by simp [hk']
  obtain ⟨h1, i, h2, h3⟩ := hf k _ hfk;simp only [fieldOf, hu, hfk, h1, h2, h3];simp
theorem results_cellL {P : Program} {fn : Func} {t : Nat} {T : TypeId} {z : List Value} {a : Act} {w : World} {b o : Nat} {cs : List Value} (h : fn.results = #[.cell t T]) (hT : Flat P T z) (hl : cs.length = z.length) (ha : get a t = .pointer (some ⟨b, o, none⟩)) (hc : w.rangeAt b o cs) :
    (results fn a.tmps).run P w = .ok (.agg cs.toArray) w := by
  obtain ⟨_, hs, fs, hu, _⟩ := hT;have hr := run_loadVar_mid (P := P) w b o T cs _ hc hu rfl (by rw [hs, hl]);have ha' : a.tmps[t]?.getD undef = .pointer (some ⟨b, o, none⟩) := by rw [← Array.getD_eq_getD_getElem?]; exact ha
  simp only [results, h];simp [ha', asAddr, hr]
theorem OctE.slice2 {w : World} {A : Nat → Prop} {v : Value} {s : List UInt8} (h : OctE w A v s) : ∃ q cap, v = .slice q s.length cap ∧ s.length ≤ cap ∧ s.length ≤ 4294967296 ∧ ∀ n, n ≤ s.length → OctE w A (.slice q n cap) (s.take n) := by
  rcases h with ⟨x, h, rfl⟩ | ⟨⟨a, rfl⟩, rfl⟩
  rotate_left
  · refine ⟨some a, 0, rfl, by simp, by simp, fun n hn => ?_⟩;simp at hn; subst hn
    exact .inr ⟨⟨a, rfl⟩, rfl⟩
  rcases h with ⟨rfl, rfl⟩ | ⟨b, o, cap, l, hb, rfl, hc, hr, rfl⟩
  · refine ⟨none, 0, rfl, by simp, by simp, fun n hn => ?_⟩;simp at hn; subst hn
    exact .inl ⟨none, .inl ⟨rfl, rfl⟩, rfl⟩
  refine ⟨_, cap, rfl, hc.1, hc.2, fun n hn => .inl ⟨some (l.take n), .inr ⟨b, o, cap, l.take n, hb, ?_, ⟨by simp; omega, by simp; omega⟩, ?_, rfl⟩, rfl⟩⟩
  · simp only [List.length_take, Option.getD_some] at hn ⊢;rw [Nat.min_eq_left hn]
  have := octets_range hr 0 n
  simpa using this
theorem Things.take {w : World} {A : Nat → Prop} {q : Option Addr} {cap : Nat} {l : List T} (h : Things w A (.slice q l.length cap) l) (n : Nat) (hn : n ≤ l.length) : Things w A (.slice q n cap) (l.take n) := by
  rcases h with ⟨hv, rfl⟩ | ⟨b, o, c, hb, hv, hc, es, hr, hes⟩
  · simp at hn; subst hn
    rcases hv with hv | ⟨a, hv⟩
    · cases hv; exact .inl ⟨.inl rfl, rfl⟩
    cases hv; exact .inl ⟨.inr ⟨a, rfl⟩, rfl⟩
  cases hv
  refine .inr ⟨b, o, cap, hb, by rw [List.length_take, Nat.min_eq_left hn], ⟨by simp; omega, by simp; omega⟩, es, fun i y hi => hr i y ?_, fun i y hi => hes i y ?_⟩ <;>
  · rw [List.getElem?_take] at hi; split at hi <;> first | exact hi | cases hi
end Go.Kq
