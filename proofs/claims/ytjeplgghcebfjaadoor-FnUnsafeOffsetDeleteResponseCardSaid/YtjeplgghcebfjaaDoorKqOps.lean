/- What each operation does, over any program: the rules that a walk by hand takes, one for each operation. -/
import Derived.Test.YtjeplgghcebfjaaDoorKqMem
import Derived.Shelf.Abstract
namespace Go.Kq
open Go Go.Proofs

/-! ### what a program's types are -/
/-- A type of one cell that is neither a struct nor an array. -/
def scal (P : Program) (t : TypeId) : Bool :=
  (match P.underlying t with | some (.struct _) => false | some (.array _ _) => false | some _ => true | none => false) && ((P.info? t).map (·.size)) == some 1
/-- A struct's type (or an array's) of so many cells. -/
def aggr (P : Program) (t : TypeId) (n : Nat) : Bool :=
  (match P.underlying t with | some (.struct _) => true | some (.array _ _) => true | _ => false) && ((P.info? t).map (·.size)) == some n
/-- Where a field of a struct lies; its type takes at least one cell. -/
def fieldOf (P : Program) (t : TypeId) (k o : Nat) : Bool :=
  match P.underlying t with
  | some (.struct fs) => match fs[k]? with
    | some f => f.offset == o && (match P.info? f.type with | some i => i.size != 0 | none => false)
    | none => false
  | _ => false
/-- A slice's type: its element's type, how many cells and bytes that one takes, what it is at nought. -/
def sliceOf (P : Program) (t e n b : Nat) : Bool :=
  (match P.underlying t with | some (.slice e') => e' == e | _ => false) && (match P.info? e with | some i => i.size == n && i.bytes == b && i.zero.isSome && 0 < n | none => false)
def intOf (P : Program) (t : TypeId) (k : IntKind) : Bool := match P.underlying t with | some (.int k') => k' == k | _ => false
def boolTy (P : Program) (t : TypeId) : Bool := match P.underlying t with | some .bool => true | _ => false
def strTy (P : Program) (t : TypeId) : Bool := match P.underlying t with | some .string => true | _ => false

theorem scal_isAgg {P : Program} {t : TypeId} (h : scal P t = true) (w : World) : (isAgg t).run P w = .ok false w := by
  unfold scal at h
  cases hu : P.underlying t with
  | none => simp [hu] at h
  | some d => cases d <;> simp_all [isAgg, run_underlying hu]
theorem scal_size {P : Program} {t : TypeId} (h : scal P t = true) (w : World) : (sizeOf t).run P w = .ok 1 w := by
  unfold scal at h
  simp only [Bool.and_eq_true, beq_iff_eq] at h
  cases hi : P.info? t with
  | none => simp [hi] at h
  | some i => simp [hi] at h; simp [sizeOf, typeInfo, hi, h.2]

variable {P : Program} {a : Act} {w : World} {K : Act → World → Prop} {Q : Exit → Act → World → Prop} {d : Option Tmp} {t : TypeId} {p : String} {af : Array Edge} {g : Option (Nat × Bool)}

theorem wp_val {o : Oper} {v : Value} {w' : World} (h : (execOp a.eval o).run P w = .ok (.value v) w') (k : K (a.put o.dst v) w') : OW P o a w K Q := by
  constructor
  unfold Oper.wp; rw [h]; exact k

theorem wp_move {x : Operand} : OW P ⟨d, .move x, t, p, af, g⟩ a w K Q = K (a.put d (a.eval x)) w := propext ⟨fun h => h.sem, fun h => ⟨h⟩⟩
theorem wp_assign {x : Operand} : OW P ⟨d, .assign x, t, p, af, g⟩ a w K Q = K (a.put d (a.eval x)) w := propext ⟨fun h => h.sem, fun h => ⟨h⟩⟩

theorem wp_nilCheck {x : Operand} {q : Addr} (hx : a.eval x = .pointer (some q)) (k : K (a.put d (.pointer (some q))) w) : OW P ⟨d, .nilCheck x, t, p, af, g⟩ a w K Q :=
  wp_val (by simp [execOp, hx]) k

theorem add_addr (b o n : Nat) : (⟨b, o, none⟩ : Addr).add n = ⟨b, o + n, none⟩ := Addr.add_mid b o n

theorem wp_fieldAddr {s : TypeId} {x : Operand} {f o b i : Nat} (hf : fieldOf P s f o = true) (hx : a.eval x = .pointer (some ⟨b, i, none⟩))
    (k : K (a.put d (.pointer (some ⟨b, i + o, none⟩))) w) : OW P ⟨d, .fieldAddr s x f, t, p, af, g⟩ a w K Q := by
  unfold fieldOf at hf
  cases hu : P.underlying s with
  | none => simp [hu] at hf
  | some e =>
    cases e <;> simp only [hu] at hf <;> first | (simp at hf; done) | skip
    rename_i fs
    cases hfs : fs[f]? with
    | none => simp [hfs] at hf
    | some fl =>
      simp only [hfs, Bool.and_eq_true, beq_iff_eq] at hf
      obtain ⟨rfl, hs⟩ := hf
      cases hi : P.info? fl.type with
      | none => simp [hi] at hs
      | some inf =>
        simp only [hi, bne_iff_ne] at hs
        refine wp_val (v := .pointer (some ⟨b, i + fl.offset, none⟩)) (w' := w) ?_ k
        simp [execOp, hx, Instr.fieldAt, run_underlying hu, hfs, Instr.sureAddr, fieldPlace, sizeOf, typeInfo, hi, hs, add_addr]

theorem wp_load {s : TypeId} {x : Operand} {b o : Nat} {v : Value} (hs : scal P s = true) (hx : a.eval x = .pointer (some ⟨b, o, none⟩)) (hc : w.cell? ⟨b, o, none⟩ = some v)
    (k : K (a.put d v) w) : OW P ⟨d, .load s x, t, p, af, g⟩ a w K Q := by
  refine wp_val (v := v) (w' := w) ?_ k
  simp [execOp, hx, Instr.loadAt, Instr.sureAddr, loadVar, scal_isAgg hs, hc]

theorem wp_store {s : TypeId} {x y : Operand} {b o : Nat} {v : Value} (hs : scal P s = true) (hx : a.eval x = .pointer (some ⟨b, o, none⟩)) (hy : a.eval y = v) (h1 : v.oneCell' = true)
    (hc : w.there b o 1) (k : K (a.put d undef) (w.setCell ⟨b, o, none⟩ v)) : OW P ⟨d, .store s x y, t, p, af, g⟩ a w K Q := by
  have hcs : v.cells = #[v] := by cases v <;> first | rfl | (simp [Value.oneCell'] at h1)
  obtain ⟨h2, h3⟩ := hc 0 (by omega)
  simp only [Nat.add_zero] at h2 h3
  obtain ⟨u, hu⟩ := Option.isSome_iff_exists.1 h2
  constructor
  unfold Oper.wp
  have : (execOp a.eval ⟨d, .store s x y, t, p, af, g⟩).run P w = .ok .skip (w.setCell ⟨b, o, none⟩ v) := by
    simp only [execOp, hx, hy, Instr.storeAt, Instr.sureAddr, Sem.run_bind, Sem.run_pure, Result.andThen_ok, storeVar, scal_size hs, hcs]
    simp [storeCells, run_store, h1, Addr.add, hu, h3]
  rw [this]
  exact k

theorem wp_call {f : FuncId} {xs : Array Operand} {ts : Array TypeId} {vs : Array Value} (he : Enters P f) (hx : xs.map a.eval = vs)
    (k : Calls P f vs w fun
      | .returned v, w' => K (a.put d v) w'
      | .panicked chain, w' => Q (.panic chain) a w'
      | .outgrown, _ => LetsOut Q) : OW P ⟨d, .call ⟨.value (.func f), xs, ts⟩, t, p, af, g⟩ a w K Q := by
  constructor
  unfold Oper.wp
  have : (execOp a.eval ⟨d, .call ⟨.value (.func f), xs, ts⟩, t, p, af, g⟩).run P w = .ok (.enter f vs) w := by
    have := he vs w
    simp [execOp, resolve, Act.eval, Deferred.ofValue, invoke, hx, this]
  rw [this]
  exact k
/-- A call of a function that returns. -/
theorem wp_calls {f : FuncId} {xs : Array Operand} {ts : Array TypeId} {vs : Array Value} {R : Value → World → Prop} (he : Enters P f) (hx : xs.map a.eval = vs)
    (hc : Calls P f vs w fun e w' => ∃ v, e = .returned v ∧ R v w') (k : ∀ v w', R v w' → K (a.put d v) w') : OW P ⟨d, .call ⟨.value (.func f), xs, ts⟩, t, p, af, g⟩ a w K Q :=
  wp_call he hx (hc.mono (by rintro e w' ⟨v, rfl, h⟩; exact k v w' h))

theorem wp_not {s : TypeId} {x : Operand} {b : Bool} (hx : a.eval x = .bool b) (k : K (a.put d (.bool !b)) w) : OW P ⟨d, .unOp .not s x, t, p, af, g⟩ a w K Q :=
  wp_val (by simp [execOp, hx, Op.unary]) k

theorem wp_lss {s u : TypeId} {x y : Operand} {k1 : IntKind} {i j : Int} (hx : a.eval x = .int k1 i) (hy : a.eval y = .int k1 j) (k : K (a.put d (.bool (decide (i < j)))) w) :
    OW P ⟨d, .binOp .lss s x y u, t, p, af, g⟩ a w K Q := wp_val (by simp [execOp, hx, hy, eqGuard, binOp, Op.intCmp]) k
theorem wp_gtr {s u : TypeId} {x y : Operand} {k1 : IntKind} {i j : Int} (hx : a.eval x = .int k1 i) (hy : a.eval y = .int k1 j) (k : K (a.put d (.bool (decide (i > j)))) w) :
    OW P ⟨d, .binOp .gtr s x y u, t, p, af, g⟩ a w K Q := wp_val (by simp [execOp, hx, hy, eqGuard, binOp, Op.intCmp]) k
theorem wp_geq {s u : TypeId} {x y : Operand} {k1 : IntKind} {i j : Int} (hx : a.eval x = .int k1 i) (hy : a.eval y = .int k1 j) (k : K (a.put d (.bool (decide (i ≥ j)))) w) :
    OW P ⟨d, .binOp .geq s x y u, t, p, af, g⟩ a w K Q := wp_val (by simp [execOp, hx, hy, eqGuard, binOp, Op.intCmp]) k
theorem wp_leq {s u : TypeId} {x y : Operand} {k1 : IntKind} {i j : Int} (hx : a.eval x = .int k1 i) (hy : a.eval y = .int k1 j) (k : K (a.put d (.bool (decide (i ≤ j)))) w) :
    OW P ⟨d, .binOp .leq s x y u, t, p, af, g⟩ a w K Q := wp_val (by simp [execOp, hx, hy, eqGuard, binOp, Op.intCmp]) k
theorem wp_eql {s u : TypeId} {x y : Operand} {k1 : IntKind} {i j : Int} (hx : a.eval x = .int k1 i) (hy : a.eval y = .int k1 j) (k : K (a.put d (.bool (i == j))) w) :
    OW P ⟨d, .binOp .eql s x y u, t, p, af, g⟩ a w K Q := wp_val (by simp [execOp, hx, hy, eqGuard, binOp, Op.intCmp]) k
theorem wp_neq {s u : TypeId} {x y : Operand} {k1 : IntKind} {i j : Int} (hx : a.eval x = .int k1 i) (hy : a.eval y = .int k1 j) (k : K (a.put d (.bool (i != j))) w) :
    OW P ⟨d, .binOp .neq s x y u, t, p, af, g⟩ a w K Q := wp_val (by simp [execOp, hx, hy, eqGuard, binOp, Op.intCmp]) k
theorem wp_add {s u : TypeId} {x y : Operand} {k1 : IntKind} {i j : Int} (hx : a.eval x = .int k1 i) (hy : a.eval y = .int k1 j) (k : K (a.put d (.int k1 (k1.wrap (i + j)))) w) :
    OW P ⟨d, .binOp .add s x y u, t, p, af, g⟩ a w K Q := wp_val (by simp [execOp, hx, hy, eqGuard, binOp, Op.intArith]) k
theorem wp_sub {s u : TypeId} {x y : Operand} {k1 : IntKind} {i j : Int} (hx : a.eval x = .int k1 i) (hy : a.eval y = .int k1 j) (k : K (a.put d (.int k1 (k1.wrap (i - j)))) w) :
    OW P ⟨d, .binOp .sub s x y u, t, p, af, g⟩ a w K Q := wp_val (by simp [execOp, hx, hy, eqGuard, binOp, Op.intArith]) k

theorem under_int {s : TypeId} {k1 : IntKind} (h : intOf P s k1 = true) : P.underlying s = some (.int k1) := by
  unfold intOf at h
  cases hu : P.underlying s with
  | none => simp [hu] at h
  | some e => cases e <;> simp [hu] at h; subst h; rfl
theorem wp_convert {s u : TypeId} {x : Operand} {k0 k1 k2 : IntKind} {i : Int} (h1 : intOf P s k0 = true) (h2 : intOf P u k2 = true) (hx : a.eval x = .int k1 i)
    (k : K (a.put d (.int k2 (k2.wrap i))) w) : OW P ⟨d, .convert s u x, t, p, af, g⟩ a w K Q :=
  wp_val (by simp [execOp, hx, convert, run_underlying (under_int h1), run_underlying (under_int h2), Conv.intToInt]) k

theorem under_slice {s e n b : Nat} (h : sliceOf P s e n b = true) : P.underlying s = some (.slice e) ∧ ∃ i z, P.info? e = some i ∧ i.size = n ∧ i.bytes = b ∧ i.zero = some z ∧ 0 < n := by
  unfold sliceOf at h
  simp only [Bool.and_eq_true] at h
  obtain ⟨h1, h2⟩ := h
  constructor
  · cases hu : P.underlying s with
    | none => simp [hu] at h1
    | some e => cases e <;> simp [hu] at h1; subst h1; rfl
  · cases hi : P.info? e with
    | none => simp [hi] at h2
    | some i =>
      simp only [hi, Bool.and_eq_true, beq_iff_eq, Option.isSome_iff_exists, decide_eq_true_eq] at h2
      obtain ⟨⟨⟨h3, h4⟩, z, h5⟩, h6⟩ := h2
      exact ⟨i, z, rfl, h3, h4, h5, h6⟩

theorem wp_indexAddr {s e n bs : Nat} {x y : Operand} {b o len cap : Nat} {k1 : IntKind} {i : Int} (h : sliceOf P s e n bs = true) (hx : a.eval x = .slice (some ⟨b, o, none⟩) len cap) (hy : a.eval y = .int k1 i)
    (h0 : 0 ≤ i) (h1 : i < len) (k : K (a.put d (.pointer (some ⟨b, o + i.toNat * n, none⟩))) w) : OW P ⟨d, .indexAddr s x y, t, p, af, g⟩ a w K Q := by
  obtain ⟨hu, i0, z, hi, hs, hb, hz, hn⟩ := under_slice h
  refine wp_val (v := .pointer (some ⟨b, o + i.toNat * n, none⟩)) (w' := w) ?_ k
  simp [execOp, hx, hy, Instr.indexAt, asIntOf, run_underlying hu, h0, h1, sizeOf, typeInfo, hi, hs, add_addr]

/-- 'a[:0]' -/
theorem wp_slice0 {s e n bs : Nat} {x : Operand} {q : Option Addr} {len cap : Nat} (h : sliceOf P s e n bs = true) (hx : a.eval x = .slice q len cap)
    (k : K (a.put d (.slice q 0 cap)) w) : OW P ⟨d, .slice s x none (some (.const (.int .i64 0))) none, t, p, af, g⟩ a w K Q := by
  obtain ⟨hu, i0, z, hi, hs, hb, hz, hn⟩ := under_slice h
  refine wp_val (v := .slice q 0 cap) (w' := w) ?_ k
  cases q with
  | none => simp [execOp, hx, eval_const, Instr.sliceAt, Instr.slice, Instr.sliceBounds, Instr.sliceBound, asIntOf, run_underlying hu, sizeOf, typeInfo, hi]
  | some q => simp [execOp, hx, eval_const, Instr.sliceAt, Instr.slice, Instr.sliceBounds, Instr.sliceBound, asIntOf, run_underlying hu, sizeOf, typeInfo, hi, Addr.add]
/-- 'a[l:]' -/
theorem wp_sliceLo {s e n bs : Nat} {x y : Operand} {q : Option Addr} {len cap l : Nat} {k1 : IntKind} (h : sliceOf P s e n bs = true) (hx : a.eval x = .slice q len cap) (hy : a.eval y = .int k1 l)
    (hl : l ≤ len) (k : K (a.put d (.slice (if cap = l then q else q.map (·.add (l * n))) (len - l) (cap - l))) w) : OW P ⟨d, .slice s x (some y) none none, t, p, af, g⟩ a w K Q := by
  obtain ⟨hu, i0, z, hi, hs, hb, hz, hn⟩ := under_slice h
  refine wp_val (w' := w) ?_ k
  simp [execOp, hx, hy, Instr.sliceAt, Instr.slice, Instr.sliceBounds, Instr.sliceBound, asIntOf, run_underlying hu, sizeOf, typeInfo, hi, hs, hl]
/-- 'a[:h:h]' -/
theorem wp_sliceHi2 {s e n bs : Nat} {x y y' : Operand} {q : Option Addr} {len cap l : Nat} {k1 k2 : IntKind} (h : sliceOf P s e n bs = true) (hx : a.eval x = .slice q len cap) (hy : a.eval y = .int k1 l) (hy' : a.eval y' = .int k2 l)
    (hl : l ≤ cap) (k : K (a.put d (.slice q l l)) w) : OW P ⟨d, .slice s x none (some y) (some y'), t, p, af, g⟩ a w K Q := by
  obtain ⟨hu, i0, z, hi, hs, hb, hz, hn⟩ := under_slice h
  refine wp_val (v := .slice q l l) (w' := w) ?_ k
  cases q with
  | none => simp [execOp, hx, hy, hy', Instr.sliceAt, Instr.slice, Instr.sliceBounds, Instr.sliceBound, asIntOf, run_underlying hu, sizeOf, typeInfo, hi, hs, hl]
  | some q => simp [execOp, hx, hy, hy', Instr.sliceAt, Instr.slice, Instr.sliceBounds, Instr.sliceBound, asIntOf, run_underlying hu, sizeOf, typeInfo, hi, hs, hl, Addr.add]
/-- 'a[:h]' -/
theorem wp_sliceHi {s e n bs : Nat} {x y : Operand} {q : Option Addr} {len cap l : Nat} {k1 : IntKind} (h : sliceOf P s e n bs = true) (hx : a.eval x = .slice q len cap) (hy : a.eval y = .int k1 l)
    (hl : l ≤ cap) (k : K (a.put d (.slice q l cap)) w) : OW P ⟨d, .slice s x none (some y) none, t, p, af, g⟩ a w K Q := by
  obtain ⟨hu, i0, z, hi, hs, hb, hz, hn⟩ := under_slice h
  refine wp_val (v := .slice q l cap) (w' := w) ?_ k
  cases q with
  | none => simp [execOp, hx, hy, Instr.sliceAt, Instr.slice, Instr.sliceBounds, Instr.sliceBound, asIntOf, run_underlying hu, sizeOf, typeInfo, hi, hs, hl]
  | some q => simp [execOp, hx, hy, Instr.sliceAt, Instr.slice, Instr.sliceBounds, Instr.sliceBound, asIntOf, run_underlying hu, sizeOf, typeInfo, hi, hs, hl, Addr.add]

theorem wp_len {s e n bs : Nat} {x : Operand} {q : Option Addr} {len cap : Nat} (h : sliceOf P s e n bs = true) (hx : a.eval x = .slice q len cap)
    (k : K (a.put d (.int .i64 len)) w) : OW P ⟨d, .call ⟨.builtin .len, #[x], #[s]⟩, t, p, af, g⟩ a w K Q := by
  obtain ⟨hu, _⟩ := under_slice h
  refine wp_val (v := .int .i64 len) (w' := w) ?_ k
  simp [execOp, resolve, invoke, builtin, Builtin.len_, hx, run_underlying hu, goInt]

theorem zero_of {s : TypeId} {i : TypeInfo} {z : Value} (hi : P.info? s = some i) (hz : i.zero = some z) (w : World) : (zeroValue s).run P w = .ok z w := by
  simp [zeroValue, typeInfo, hi, hz]
def zeroOf (P : Program) (s : TypeId) (z : Value) : Prop := ∃ i, P.info? s = some i ∧ i.zero = some z
theorem wp_alloc {s : TypeId} {z : Value} (hz : zeroOf P s z) (k : K (a.put d (.pointer (some ⟨w.heap.size, 0, none⟩))) (w.alloc (.cells z.cells s))) :
    OW P ⟨d, .alloc s, t, p, af, g⟩ a w K Q := by
  obtain ⟨i, hi, hz⟩ := hz
  refine wp_val (v := .pointer (some ⟨w.heap.size, 0, none⟩)) (w' := w.alloc (.cells z.cells s)) ?_ k
  simp [execOp, Instr.alloc, zero_of hi hz, newVar, newRow]

end Go.Kq
