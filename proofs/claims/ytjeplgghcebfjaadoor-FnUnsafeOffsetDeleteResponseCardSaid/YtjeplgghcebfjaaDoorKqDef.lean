/- Default, and small words for a message's text. -/
import Derived.Test.YtjeplgghcebfjaaDoorKqRoot
namespace Go.Kq
open Go Go.Proofs

def gNum (kd : IntKind) (k : Nat) (st : RSt) : V × RSt := (.n (rdNum kd k st).1, (rdNum kd k st).2)
def gStr (st : RSt) : V × RSt := (.s (rdString st).1, (rdString st).2)
def gALen (st : RSt) : V × RSt := (.n (rdArrayLen st).1, (rdArrayLen st).2)

def IsL (g : Rd) : Prop := ∀ ver fl s y s', g ver fl s = some (y, s') → ∃ ys, y = .l ys
theorem isL_nil : IsL rdSt0 := by
  intro ver fl s y s' h
  simp [rdSt0] at h
  exact ⟨[], h.1.symm⟩
theorem isL_cons {f g : Rd} (h : IsL g) : IsL (rdCons f g) := by
  intro ver fl s y s' hh
  unfold rdCons at hh
  split at hh
  · simp at hh
  · split at hh
    · simp at hh
    · rename_i y1 s1 h1
      obtain ⟨ys, rfl⟩ := h _ _ _ _ _ h1
      simp [consV] at hh
      exact ⟨_, hh.1.symm⟩

theorem def_skip {P : Program} {f : FuncId} {fn : Func} {tys : List Ty} (hf : P.funcs[f]? = some fn) (hname : (fn.name == "runtime.NumGoroutine") = false) (hb : fn.body = some .skip) (hr : fn.results = #[]) : DefM P f tys id := by
  refine ⟨enters_of hf hname hb, ?_⟩
  intro w b o z xs A hz ht hr'
  refine calls_of_wp hf hb (wp_skip ?_)
  refine ⟨rfl, .tuple #[], by simp [results, hr], _, rfl, ⟨z, hz, hr'⟩, Fr.refl _ _⟩

/-! ### facts on types, as Bools -/
def valEq : Value → Value → Bool
  | .bool a, .bool b => a == b
  | .int j a, .int k b => j == k && a == b
  | .float j a, .float k b => j == k && a == b
  | .string a, .string b => a.data.toList == b.data.toList
  | .pointer none, .pointer none => true
  | .slice none a b, .slice none c d => a == c && b == d
  | .map none, .map none => true
  | .nilFunc, .nilFunc => true
  | .nilIface, .nilIface => true
  | _, _ => false
theorem valEq_eq {a b : Value} (h : valEq a b = true) : a = b := by
  cases a <;> cases b <;> first | (simp [valEq] at h; done) | skip
  · simp [valEq] at h; subst h; rfl
  · simp [valEq] at h; obtain ⟨rfl, rfl⟩ := h; rfl
  · simp [valEq] at h; obtain ⟨rfl, rfl⟩ := h; rfl
  · rename_i s t; simp [valEq] at h; cases s; cases t; simp at h; subst h; rfl
  · rename_i x y; cases x <;> cases y <;> simp [valEq] at h; rfl
  · rename_i x _ _ y _ _; cases x <;> cases y <;> simp [valEq] at h; obtain ⟨rfl, rfl⟩ := h; rfl
  · rename_i x y; cases x <;> cases y <;> simp [valEq] at h; rfl
  · rfl
  · rfl
def valsEq : List Value → List Value → Bool
  | [], [] => true
  | a :: ar, b :: br => valEq a b && valsEq ar br
  | _, _ => false
theorem valsEq_eq : ∀ {a b : List Value}, valsEq a b = true → a = b
  | [], [], _ => rfl
  | a :: ar, b :: br, h => by
    simp only [valsEq, Bool.and_eq_true] at h
    rw [valEq_eq h.1, valsEq_eq h.2]
  | [], _ :: _, h => by simp [valsEq] at h
  | _ :: _, [], h => by simp [valsEq] at h
/-- The cells of a type's value at nought. -/
def zeroB (P : Program) (e : TypeId) (z : List Value) : Bool := match P.info? e with
  | some i => (match i.zero with | some v => valsEq v.cells.toList z | none => false)
  | none => false
theorem zeroB_is {P : Program} {e : TypeId} {z : List Value} (h : zeroB P e z = true) : zeroIs P e z := by
  unfold zeroB at h
  cases hi : P.info? e with
  | none => simp [hi] at h
  | some i =>
    simp only [hi] at h
    cases hz : i.zero with
    | none => simp [hz] at h
    | some v => simp only [hz] at h; exact ⟨i, v, hi, hz, valsEq_eq h⟩
/-- A type's value at nought. -/
def zeroVB (P : Program) (e : TypeId) (z : Value) : Bool := match P.info? e with
  | some i => (match i.zero with | some v => valEq v z | none => false)
  | none => false
theorem zeroVB_is {P : Program} {e : TypeId} {z : Value} (h : zeroVB P e z = true) : zeroOf P e z := by
  unfold zeroVB at h
  cases hi : P.info? e with
  | none => simp [hi] at h
  | some i =>
    simp only [hi] at h
    cases hz : i.zero with
    | none => simp [hz] at h
    | some v => simp only [hz] at h; exact ⟨i, hi, by rw [hz, valEq_eq h]⟩
def szIs (P : Program) (t n : Nat) : Bool := match P.info? t with | some i => i.size == n | none => false
theorem szIs_eq {P : Program} {t n : Nat} (h : szIs P t n = true) : ∃ i, P.info? t = some i ∧ i.size = n := by
  unfold szIs at h
  cases hi : P.info? t with
  | none => simp [hi] at h
  | some i => simp [hi] at h; exact ⟨i, rfl, h⟩
def readerB (P : Program) (T : TypeId) : Bool :=
  (match P.info? T with | some i => (match i.zero with | some (.agg z) => valsEq z.toList [.slice none 0 0, .bool false] | _ => false) | none => false) && aggr P T 2 &&
  (match P.underlying T with | some (.struct fs) => (match fs.toList with | [f0, f1] => f0.offset == 0 && f1.offset == 1 && szIs P f0.type 1 && szIs P f1.type 1 | _ => false) | _ => false)
theorem readerB_is {P : Program} {T : TypeId} (h : readerB P T = true) : readerTy P T := by
  simp only [readerB, Bool.and_eq_true] at h
  obtain ⟨⟨h1, h2⟩, h3⟩ := h
  refine ⟨?_, h2, ?_⟩
  · cases hi : P.info? T with
    | none => simp [hi] at h1
    | some i =>
      simp only [hi] at h1
      cases hz : i.zero with
      | none => simp [hz] at h1
      | some v =>
        simp only [hz] at h1
        cases v <;> simp only [] at h1 <;> first | (simp at h1; done) | skip
        rename_i z
        have := valsEq_eq h1
        refine ⟨i, hi, ?_⟩
        rw [hz]
        congr 2
        exact Array.ext' this
  · cases hu : P.underlying T with
    | none => simp [hu] at h3
    | some d =>
      cases d <;> simp only [hu] at h3 <;> first | (simp at h3; done) | skip
      rename_i fs
      match hl : fs.toList with
      | [f0, f1] =>
        simp only [hl, Bool.and_eq_true, beq_iff_eq] at h3
        obtain ⟨⟨⟨a1, a2⟩, a3⟩, a4⟩ := h3
        obtain ⟨i0, b1, b2⟩ := szIs_eq a3
        obtain ⟨i1, b3, b4⟩ := szIs_eq a4
        refine ⟨f0, f1, i0, i1, ?_, a1, a2, b1, b2, b3, b4⟩
        congr 2
        exact Array.ext' hl
      | [] => simp [hl] at h3
      | [_] => simp [hl] at h3
      | _ :: _ :: _ :: _ => simp [hl] at h3

end Go.Kq
