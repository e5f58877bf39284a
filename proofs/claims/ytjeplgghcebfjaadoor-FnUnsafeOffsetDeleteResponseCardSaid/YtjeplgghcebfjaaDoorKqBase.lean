/- The ground of the walks: slots of a frame, frames of memory, rules for regions of operations. -/
import Derived.Below
import Derived.Calls
namespace Go.Kq
open Go

/-! ### slots -/
def get (a : Act) (t : Nat) : Value := a.tmps.getD t undef
theorem eval_tmp (a : Act) (t : Nat) : a.eval (.tmp t) = get a t := rfl
theorem eval_const (a : Act) (v : Value) : a.eval (.const v) = v := rfl
theorem size_put (a : Act) (d : Option Tmp) (v : Value) : (a.put d v).tmps.size = a.tmps.size := by
  cases d <;> simp [Act.put]
theorem defers_put (a : Act) (d : Option Tmp) (v : Value) : (a.put d v).defers = a.defers := by
  cases d <;> simp [Act.put]
theorem get_put_same {a : Act} {d : Nat} {v : Value} (h : d < a.tmps.size) : get (a.put (some d) v) d = v := by
  simp [get, Act.put, Array.getD_eq_getD_getElem?, h]
theorem get_put_ne {a : Act} {d t : Nat} {v : Value} (h : d ≠ t) : get (a.put (some d) v) t = get a t := by
  simp [get, Act.put, Array.getD_eq_getD_getElem?, h]
theorem put_none (a : Act) (v : Value) : a.put none v = a := rfl

/-! ### operations one behind the other -/
/-- What an operation must lead to, as a thing of its own (that is not looked into). -/
structure OW (P : Program) (o : Oper) (a : Act) (w : World) (K : Act → World → Prop) (Q : Exit → Act → World → Prop) : Prop where
  sem : o.wp P a w K Q
def wpl (P : Program) (Q : Exit → Act → World → Prop) : List Oper → Act → World → Prop
  | [], a, w => Q .normal a w
  | o :: os, a, w => OW P o a w (wpl P Q os) Q

theorem wpl_nil {P : Program} {Q : Exit → Act → World → Prop} {a : Act} {w : World} : wpl P Q [] a w = Q .normal a w := rfl
theorem wpl_cons {P : Program} {Q : Exit → Act → World → Prop} {o : Oper} {os : List Oper} {a : Act} {w : World} :
    wpl P Q (o :: os) a w = OW P o a w (wpl P Q os) Q := rfl

theorem Oper.upon_mono {P : Program} {o : Oper} {a : Act} {Q : Exit → Act → World → Prop} {n1 n2 : Act → World → Prop} (h : ∀ a w, n1 a w → n2 a w) :
    ∀ r, o.upon P a n1 Q r → o.upon P a n2 Q r := by
  intro r hr
  unfold Oper.upon at hr ⊢
  split at hr
  · exact h _ _ hr
  · exact h _ _ hr
  · exact h _ _ hr
  · refine Calls.mono hr ?_
    intro e w' he
    cases e with
    | returned v => exact h _ _ he
    | panicked c => exact he
    | outgrown => exact he
  · exact Rows.mono hr fun v w' hv => h _ _ hv
  · exact hr
  · exact hr.elim

theorem wpOps_of_wpl {P : Program} {Q : Exit → Act → World → Prop} {ops : Array Oper} (hg : ∀ (i : Nat) (o : Oper), ops[i]? = some o → o.guard = none) :
    ∀ (n i : Nat) (a : Act) (w : World), i + n = ops.size → wpl P Q (ops.toList.drop i) a w → wpOps P ops Q (List.range' i n) a w := by
  intro n
  induction n with
  | zero =>
    intro i a w hi h
    have : ops.toList.drop i = [] := by apply List.drop_of_length_le; simp; omega
    rw [this] at h
    simpa [wpOps, wpl] using h
  | succ n ih =>
    intro i a w hi h
    have hlt : i < ops.size := by omega
    have hd : ops.toList.drop i = ops[i] :: ops.toList.drop (i + 1) := by
      rw [List.drop_eq_getElem_cons (by simpa using hlt)]; simp
    have hs : ops[i]? = some ops[i] := Array.getElem?_eq_getElem hlt
    rw [hd] at h
    simp only [List.range'_succ, wpOps, hs]
    have hw : Region.wanted ops[i] (yielded ops a.tmps) = true := by
      simp [Region.wanted, hg i _ hs]
    simp only [hw, if_true]
    left
    exact Oper.upon_mono (fun a w h => ih (i + 1) a w (by omega) h) _ h.sem

def unguarded : List Oper → Bool
  | [] => true
  | o :: os => o.guard.isNone && unguarded os

theorem unguarded_at {l : List Oper} (h : unguarded l = true) : ∀ (i : Nat) (o : Oper), l[i]? = some o → o.guard = none := by
  induction l with
  | nil => intro i o hi; simp at hi
  | cons x l ih =>
    intro i o hi
    simp only [unguarded, Bool.and_eq_true, Option.isNone_iff_eq_none] at h
    cases i with
    | zero => simp at hi; subst hi; exact h.1
    | succ i => simp at hi; exact ih h.2 i o hi

/-- A region that draws no order: its operations in their order. -/
theorem wp_reg {P : Program} {Q : Exit → Act → World → Prop} {id : Nat} {l : List Oper} {a : Act} {w : World}
    (h : wpl P Q l a w) (hg : unguarded l = true := by rfl) : (Code.region id ⟨l⟩ false).wp P Q a w := by
  refine wp_region ?_
  have := wpOps_of_wpl (P := P) (Q := Q) (ops := ⟨l⟩) (fun i o hi => unguarded_at hg i o (by simpa using hi)) l.length 0 a w (by simp) (by simpa using h)
  simpa [List.range_eq_range'] using this

end Go.Kq
