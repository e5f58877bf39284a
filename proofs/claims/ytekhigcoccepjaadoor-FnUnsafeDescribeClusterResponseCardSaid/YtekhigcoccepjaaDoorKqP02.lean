/- Regions of operations that occur again and again, each by a rule over any slots. -/
import Derived.Test.YtekhigcoccepjaaDoorKqP01
import Derived.Lib.Hide
set_option linter.unusedVariables false
set_option linter.unusedSimpArgs false
namespace Go.Kq
open Go Go.Proofs

variable {P : Program} {a : Act} {w : World} {K : Act → World → Prop} {Q : Exit → Act → World → Prop}

/-- 's.F = v' -/
theorem r_store {id n s v m : Nat} {S T k o pb po : Nat} {x : Value} {t1 t2 t3 t4 t5 : TypeId} {p1 p2 p3 p4 p5 : String} {e1 e2 e3 e4 e5 : Array Edge}
    (hs : get a s = .pointer (some ⟨pb, po, none⟩)) (hv : get a v = x) (h1 : x.oneCell' = true) (hT : scal P T = true) (hF : fieldOf P S k o = true) (ht : w.there pb (po + o) 1)
    (hsn : s < n) (hvn : v < n) (hN : n + 3 < a.tmps.size) (hm : m ≤ n)
    (hk : ∀ a', Kept m a a' → K a' (w.setCell ⟨pb, po + o, none⟩ x)) :
    (Code.region id ⟨[⟨some n, .move (.tmp s), t1, p1, e1, none⟩, ⟨some (n + 1), .move (.tmp v), t2, p2, e2, none⟩, ⟨some (n + 2), .nilCheck (.tmp n), t3, p3, e3, none⟩,
      ⟨some (n + 3), .fieldAddr S (.tmp (n + 2)) k, t4, p4, e4, none⟩, ⟨none, .store T (.tmp (n + 3)) (.tmp (n + 1)), t5, p5, e5, none⟩]⟩ false).wp P (Exit.then K Q) a w := by
  refine wp_reg ?_
  rw [wpl_cons, wp_move, eval_tmp, hs, wpl_cons, wp_move, eval_tmp]
  rw [get_put_ne (show n ≠ v by omega), hv, wpl_cons]
  generalize ha1 : (a.put (some n) (Value.pointer (some ⟨pb, po, none⟩))).put (some (n + 1)) x = a1
  have hk1 : Kept m a a1 := by subst ha1; exact (Kept.put0 (by omega) _).put (by omega) _
  have g1 : get a1 n = .pointer (some ⟨pb, po, none⟩) := by subst ha1; rw [get_put_ne (by omega), get_put_same (by omega)]
  have g2 : get a1 (n + 1) = x := by subst ha1; rw [get_put_same (by simp only [size_put]; omega)]
  have hz := hk1.size
  refine wp_nilCheck (q := ⟨pb, po, none⟩) g1 ?_
  rw [wpl_cons]
  refine wp_fieldAddr (b := pb) (i := po) hF (get_put_same (by omega)) ?_
  rw [wpl_cons]
  refine wp_store (v := x) hT (get_put_same (by simp only [size_put]; omega)) (by rw [eval_tmp, get_put_ne (by omega), get_put_ne (by omega), g2]) h1 ht ?_
  exact hk _ ((hk1.put (by omega) _).put (by omega) _)

/-- 'v := b.M()' -/
theorem r_call {id n b v m : Nat} {f : FuncId} {ts : Array TypeId} {t1 t2 : TypeId} {p1 p2 : String} {e1 e2 : Array Edge} {R : Value → World → Prop} {u : Value}
    (he : Enters P f) (hb : get a b = u) (hc : Calls P f #[u] w fun e w' => ∃ x, e = .returned x ∧ R x w')
    (hn : n < a.tmps.size) (hv : v < a.tmps.size) (hm : m ≤ n) (hmv : m ≤ v)
    (hk : ∀ a' x w', R x w' → Kept m a a' → get a' v = x → K a' w') :
    (Code.region id ⟨[⟨some n, .call ⟨.value (.func f), #[.tmp b], ts⟩, t1, p1, e1, none⟩, ⟨some v, .assign (.tmp n), t2, p2, e2, none⟩]⟩ false).wp P (Exit.then K Q) a w := by
  refine wp_reg ?_
  rw [wpl_cons]
  refine wp_calls he (vs := #[u]) (by simp [eval_tmp, hb]) hc ?_
  intro x w' hR
  rw [wpl_cons, wp_assign, eval_tmp, get_put_same hn]
  refine hk _ x w' hR ((Kept.put0 hm _).put hmv _) (get_put_same (by simpa [size_put] using hv))

/-- 'v := s.F' -/
theorem r_load {id n s v m : Nat} {S T k o pb po : Nat} {x : Value} {t1 t2 t3 t4 t5 : TypeId} {p1 p2 p3 p4 p5 : String} {e1 e2 e3 e4 e5 : Array Edge}
    (hs : get a s = .pointer (some ⟨pb, po, none⟩)) (hT : scal P T = true) (hF : fieldOf P S k o = true) (hc : w.cell? ⟨pb, po + o, none⟩ = some x)
    (hsn : s < n) (hN : n + 3 < a.tmps.size) (hv : v < a.tmps.size) (hm : m ≤ n) (hmv : m ≤ v)
    (hk : ∀ a', Kept m a a' → get a' v = x → K a' w) :
    (Code.region id ⟨[⟨some n, .move (.tmp s), t1, p1, e1, none⟩, ⟨some (n + 1), .nilCheck (.tmp n), t2, p2, e2, none⟩,
      ⟨some (n + 2), .fieldAddr S (.tmp (n + 1)) k, t3, p3, e3, none⟩, ⟨some (n + 3), .load T (.tmp (n + 2)), t4, p4, e4, none⟩, ⟨some v, .assign (.tmp (n + 3)), t5, p5, e5, none⟩]⟩ false).wp P (Exit.then K Q) a w := by
  refine wp_reg ?_
  rw [wpl_cons, wp_move, eval_tmp, hs]
  rw [wpl_cons]
  refine wp_nilCheck (q := ⟨pb, po, none⟩) (by simp (disch := omega) only [eval_tmp, get_put_same]) ?_
  rw [wpl_cons]
  refine wp_fieldAddr (b := pb) (i := po) hF (by simp (disch := (first | omega | (simp only [size_put]; omega))) only [eval_tmp, get_put_same, size_put]) ?_
  rw [wpl_cons]
  refine wp_load hT (by simp (disch := (first | omega | (simp only [size_put]; omega))) only [eval_tmp, get_put_same, size_put]) hc ?_
  rw [wpl_cons, wp_assign, eval_tmp, get_put_same (by simp only [size_put]; omega)]
  exact hk _ (((((Kept.put0 (by omega) _).put (by omega) _).put (by omega) _).put (by omega) _).put hmv _) (get_put_same (by simp only [size_put]; omega))

/-- 'v := u' -/
theorem r_copy {id n s v m : Nat} {t1 t2 : TypeId} {p1 p2 : String} {e1 e2 : Array Edge}
    (hn : n < a.tmps.size) (hv : v < a.tmps.size) (hm : m ≤ n) (hmv : m ≤ v) (hk : ∀ a', Kept m a a' → get a' v = get a s → K a' w) :
    (Code.region id ⟨[⟨some n, .move (.tmp s), t1, p1, e1, none⟩, ⟨some v, .assign (.tmp n), t2, p2, e2, none⟩]⟩ false).wp P (Exit.then K Q) a w := by
  refine wp_reg ?_
  rw [wpl_cons, wp_move, wpl_cons, wp_assign, eval_tmp, eval_tmp, get_put_same hn]
  exact hk _ ((Kept.put0 hm _).put hmv _) (get_put_same (by simpa [size_put] using hv))
/-- 'var v T' -/
theorem r_const {id v m : Nat} {x : Value} {t1 : TypeId} {p1 : String} {e1 : Array Edge} (hv : v < a.tmps.size) (hmv : m ≤ v) (hk : ∀ a', Kept m a a' → get a' v = x → K a' w) :
    (Code.region id ⟨[⟨some v, .assign (.const x), t1, p1, e1, none⟩]⟩ false).wp P (Exit.then K Q) a w := by
  refine wp_reg ?_
  rw [wpl_cons, wp_assign, eval_const]
  exact hk _ (Kept.put0 hmv _) (get_put_same hv)
/-- '_ = v', and what a condition looks at -/
theorem r_look {id n s m : Nat} {t1 : TypeId} {p1 : String} {e1 : Array Edge} (hn : n < a.tmps.size) (hm : m ≤ n) (hk : ∀ a', Kept m a a' → get a' n = get a s → K a' w) :
    (Code.region id ⟨[⟨some n, .move (.tmp s), t1, p1, e1, none⟩]⟩ false).wp P (Exit.then K Q) a w := by
  refine wp_reg ?_
  rw [wpl_cons, wp_move, eval_tmp]
  exact hk _ (Kept.put0 hm _) (get_put_same hn)

/-- A condition on a slot that is looked at: 'if u { .. } else { .. }' -/
theorem r_if {id n s m : Nat} {t1 : TypeId} {p1 : String} {e1 : Array Edge} {b : Bool} {c1 c2 : Code} (hn : n < a.tmps.size) (hm : m ≤ n) (hs : get a s = .bool b)
    (h1 : b = true → ∀ a', Kept m a a' → c1.wp P (Exit.then K Q) a' w) (h2 : b = false → ∀ a', Kept m a a' → c2.wp P (Exit.then K Q) a' w) :
    (Code.seq (Code.region id ⟨[⟨some n, .move (.tmp s), t1, p1, e1, none⟩]⟩ false) (.cond (.tmp n) c1 c2)).wp P (Exit.then K Q) a w := by
  refine wp_seq_k fun K1 hK1 => ?_
  refine r_look hn hm fun a' hka hg => hK1 a' w ?_
  refine wp_cond_split (t := b) (by rw [eval_tmp, hg, hs]) ?_ ?_
  · intro h; exact h1 h a' hka
  · intro h; exact h2 h a' hka

def cmpR : BinOp → Int → Int → Option Bool
  | .lss, i, j => some (decide (i < j))
  | .gtr, i, j => some (decide (i > j))
  | .geq, i, j => some (decide (i ≥ j))
  | .leq, i, j => some (decide (i ≤ j))
  | .eql, i, j => some (i == j)
  | .neq, i, j => some (i != j)
  | _, _, _ => none
theorem wp_cmp {d : Option Tmp} {t : TypeId} {p : String} {af : Array Edge} {g : Option (Nat × Bool)} {s u : TypeId} {x y : Operand} {k1 : IntKind} {i j : Int} {op : BinOp} {r : Bool} (hop : cmpR op i j = some r)
    (hx : a.eval x = .int k1 i) (hy : a.eval y = .int k1 j) (k : K (a.put d (.bool r)) w) : OW P ⟨d, .binOp op s x y u, t, p, af, g⟩ a w K Q := by
  refine wp_val (v := .bool r) (w' := w) ?_ k
  cases op <;> simp only [cmpR, Option.some.injEq, reduceCtorEq] at hop <;> subst hop <;> simp [execOp, hx, hy, eqGuard, binOp, Op.intCmp]
/-- A comparison of a slot with a constant: '(version >= k)' -/
theorem r_cmp {id n s m : Nat} {t1 t2 : TypeId} {p1 p2 : String} {e1 e2 : Array Edge} {op : BinOp} {T U : TypeId} {k : IntKind} {i j : Int} {r : Bool} (hn : n + 1 < a.tmps.size) (hm : m ≤ n) (hs : get a s = .int k i)
    (hop : cmpR op i j = some r) (hk : ∀ a', Kept m a a' → get a' (n + 1) = .bool r → K a' w) :
    (Code.region id ⟨[⟨some n, .move (.tmp s), t1, p1, e1, none⟩, ⟨some (n + 1), .binOp op T (.tmp n) (.const (.int k j)) U, t2, p2, e2, none⟩]⟩ false).wp P (Exit.then K Q) a w := by
  refine wp_reg ?_
  rw [wpl_cons, wp_move, eval_tmp, hs, wpl_cons]
  refine wp_cmp (k1 := k) (i := i) (j := j) hop (by rw [eval_tmp, get_put_same (by omega)]) rfl ?_
  exact hk _ ((Kept.put0 hm _).put (by omega) _) (get_put_same (by simp only [size_put]; omega))

/-- Two slots compared: 'i < l' -/
theorem r_lss {id n s u m : Nat} {t1 t2 t3 : TypeId} {p1 p2 p3 : String} {e1 e2 e3 : Array Edge} {T U : TypeId} {k : IntKind} {i j : Int} (hn : n + 2 < a.tmps.size) (hm : m ≤ n) (hun : u < n) (hs : get a s = .int k i) (hu : get a u = .int k j)
    (hk : ∀ a', Kept m a a' → get a' (n + 2) = .bool (decide (i < j)) → K a' w) :
    (Code.region id ⟨[⟨some n, .move (.tmp s), t1, p1, e1, none⟩, ⟨some (n + 1), .move (.tmp u), t2, p2, e2, none⟩, ⟨some (n + 2), .binOp .lss T (.tmp n) (.tmp (n + 1)) U, t3, p3, e3, none⟩]⟩ false).wp P (Exit.then K Q) a w := by
  refine wp_reg ?_
  rw [wpl_cons, wp_move, eval_tmp, hs, wpl_cons, wp_move, eval_tmp, get_put_ne (by omega), hu, wpl_cons]
  refine wp_lss (k1 := k) (i := i) (j := j) (by rw [eval_tmp, get_put_ne (by omega), get_put_same (by omega)]) (by rw [eval_tmp, get_put_same (by simp only [size_put]; omega)]) ?_
  exact hk _ (((Kept.put0 hm _).put (by omega) _).put (by omega) _) (get_put_same (by simp only [size_put]; omega))
/-- 'i++' -/
theorem r_inc {id n s m : Nat} {t1 t2 t3 : TypeId} {p1 p2 p3 : String} {e1 e2 e3 : Array Edge} {T U : TypeId} {k : IntKind} {i j : Int} (hn : n + 1 < a.tmps.size) (hsn : s < a.tmps.size) (hm : m ≤ n) (hms : m ≤ s) (hs : get a s = .int k i)
    (hk : ∀ a', Kept m a a' → get a' s = .int k (k.wrap (i + j)) → K a' w) :
    (Code.region id ⟨[⟨some n, .move (.tmp s), t1, p1, e1, none⟩, ⟨some (n + 1), .binOp .add T (.tmp n) (.const (.int k j)) U, t2, p2, e2, none⟩, ⟨some s, .assign (.tmp (n + 1)), t3, p3, e3, none⟩]⟩ false).wp P (Exit.then K Q) a w := by
  refine wp_reg ?_
  rw [wpl_cons, wp_move, eval_tmp, hs, wpl_cons]
  refine wp_add (k1 := k) (i := i) (j := j) (by rw [eval_tmp, get_put_same (by omega)]) rfl ?_
  rw [wpl_cons, wp_assign, eval_tmp, get_put_same (by simp only [size_put]; omega)]
  exact hk _ (((Kept.put0 hm _).put (by omega) _).put hms _) (get_put_same (by simp only [size_put]; omega))
/-- '!b.Ok()' -/
theorem r_callNot {id n b m : Nat} {f : FuncId} {ts : Array TypeId} {t1 t2 T : TypeId} {p1 p2 : String} {e1 e2 : Array Edge} {u : Value} {r : Bool}
    (he : Enters P f) (hb : get a b = u) (hc : Calls P f #[u] w fun e w' => e = .returned (.bool r) ∧ w' = w)
    (hn : n + 1 < a.tmps.size) (hm : m ≤ n) (hk : ∀ a', Kept m a a' → get a' (n + 1) = .bool (!r) → K a' w) :
    (Code.region id ⟨[⟨some n, .call ⟨.value (.func f), #[.tmp b], ts⟩, t1, p1, e1, none⟩, ⟨some (n + 1), .unOp .not T (.tmp n), t2, p2, e2, none⟩]⟩ false).wp P (Exit.then K Q) a w := by
  refine wp_reg ?_
  rw [wpl_cons]
  refine wp_calls (R := fun v w' => v = .bool r ∧ w' = w) he (vs := #[u]) (by simp [eval_tmp, hb]) (hc.mono (by rintro e w' ⟨rfl, rfl⟩; exact ⟨_, rfl, rfl, rfl⟩)) ?_
  rintro v w' ⟨rfl, rfl⟩
  refine wp_not (b := r) (by rw [eval_tmp, get_put_same (by omega)]) ?_
  exact hk _ ((Kept.put0 hm _).put (by omega) _) (get_put_same (by simp only [size_put]; omega))
/-- 'v := &a[i]' -/
theorem r_elem {id n s u v m : Nat} {t1 t2 t3 t4 : TypeId} {p1 p2 p3 p4 : String} {e1 e2 e3 e4 : Array Edge} {T e sz bs : Nat} {b o len cap : Nat} {k : IntKind} {i : Int}
    (hT : sliceOf P T e sz bs = true) (hs : get a s = .slice (some ⟨b, o, none⟩) len cap) (hu : get a u = .int k i) (h0 : 0 ≤ i) (h1 : i < len)
    (hn : n + 2 < a.tmps.size) (hv : v < a.tmps.size) (hm : m ≤ n) (hmv : m ≤ v) (hun : u < n)
    (hk : ∀ a', Kept m a a' → get a' v = .pointer (some ⟨b, o + i.toNat * sz, none⟩) → K a' w) :
    (Code.region id ⟨[⟨some n, .move (.tmp s), t1, p1, e1, none⟩, ⟨some (n + 1), .move (.tmp u), t2, p2, e2, none⟩, ⟨some (n + 2), .indexAddr T (.tmp n) (.tmp (n + 1)), t3, p3, e3, none⟩,
      ⟨some v, .assign (.tmp (n + 2)), t4, p4, e4, none⟩]⟩ false).wp P (Exit.then K Q) a w := by
  refine wp_reg ?_
  rw [wpl_cons, wp_move, eval_tmp, hs, wpl_cons, wp_move, eval_tmp, get_put_ne (by omega), hu, wpl_cons]
  refine wp_indexAddr (k1 := k) (i := i) hT (by rw [eval_tmp, get_put_ne (by omega), get_put_same (by omega)]) (by rw [eval_tmp, get_put_same (by simp only [size_put]; omega)]) h0 h1 ?_
  rw [wpl_cons, wp_assign, eval_tmp, get_put_same (by simp only [size_put]; omega)]
  exact hk _ ((((Kept.put0 hm _).put (by omega) _).put (by omega) _).put hmv _) (get_put_same (by simp only [size_put]; omega))
/-- 'v.Default()' -/
theorem r_do {id n s m : Nat} {f : FuncId} {ts : Array TypeId} {t1 t2 : TypeId} {p1 p2 : String} {e1 e2 : Array Edge} {R : World → Prop} {u : Value}
    (he : Enters P f) (hs : get a s = u) (hc : Calls P f #[u] w fun e w' => ∃ x, e = .returned x ∧ R w') (hn : n + 1 < a.tmps.size) (hm : m ≤ n)
    (hk : ∀ a' w', R w' → Kept m a a' → K a' w') :
    (Code.region id ⟨[⟨some n, .move (.tmp s), t1, p1, e1, none⟩, ⟨some (n + 1), .call ⟨.value (.func f), #[.tmp n], ts⟩, t2, p2, e2, none⟩]⟩ false).wp P (Exit.then K Q) a w := by
  refine wp_reg ?_
  rw [wpl_cons, wp_move, eval_tmp, hs, wpl_cons]
  refine wp_calls (R := fun _ w' => R w') he (vs := #[u]) (by simp [eval_tmp, get_put_same (show n < a.tmps.size by omega)]) hc ?_
  intro v w' hR
  exact hk _ w' hR ((Kept.put0 hm _).put (by omega) _)
/-- 'a = a[:0]' -/
theorem r_slice0 {id n s m : Nat} {t1 t2 t3 : TypeId} {p1 p2 p3 : String} {e1 e2 e3 : Array Edge} {T e sz bs : Nat} {q : Option Addr} {len cap : Nat}
    (hT : sliceOf P T e sz bs = true) (hs : get a s = .slice q len cap) (hn : n + 1 < a.tmps.size) (hsn : s < a.tmps.size) (hm : m ≤ n) (hms : m ≤ s)
    (hk : ∀ a', Kept m a a' → get a' s = .slice q 0 cap → (∀ t, t < n → t ≠ s → get a' t = get a t) → K a' w) :
    (Code.region id ⟨[⟨some n, .move (.tmp s), t1, p1, e1, none⟩, ⟨some (n + 1), .slice T (.tmp n) none (some (.const (.int .i64 0))) none, t2, p2, e2, none⟩, ⟨some s, .assign (.tmp (n + 1)), t3, p3, e3, none⟩]⟩ false).wp P (Exit.then K Q) a w := by
  refine wp_reg ?_
  rw [wpl_cons, wp_move, eval_tmp, hs, wpl_cons]
  refine wp_slice0 hT (by rw [eval_tmp, get_put_same (by omega)]) ?_
  rw [wpl_cons, wp_assign, eval_tmp, get_put_same (by simp only [size_put]; omega)]
  exact hk _ (((Kept.put0 hm _).put (by omega) _).put hms _) (get_put_same (by simp only [size_put]; omega))
    (fun t h1 h2 => by rw [get_put_ne (fun e => h2 e.symm), get_put_ne (by omega), get_put_ne (by omega)])

/-- The cells of n things at nought. -/
def zeros (z : List Value) (n : Nat) : List Value := (List.range (n * z.length)).map fun i => z[i % z.length]!
def zeroIs (P : Program) (e : TypeId) (z : List Value) : Prop := ∃ i v, P.info? e = some i ∧ i.zero = some v ∧ v.cells.toList = z
theorem zeroCells_list (z : Array Value) (n : Nat) : (Builtin.zeroCells z n).toList = zeros z.toList n := by
  simp [Builtin.zeroCells, zeros]
  intro i hi
  rw [getElem!_def]
  cases z[i % z.size]? <;> rfl
theorem length_zeros (z : List Value) (n : Nat) : (zeros z n).length = n * z.length := by simp [zeros]

theorem run_appendMake {T e sz bs it : Nat} {k : IntKind} {l : Nat} {z : List Value} {q : Option Addr} (hT : sliceOf P T e sz bs = true) (hi : intOf P it k = true) (hz : zeroIs P e z) (h0 : 0 < l) (hl : l * bs ≤ 140737488355328) (hl2 : l ≤ 4294967296) :
    ∃ cap, l ≤ cap ∧ ∃ cs : Array Value, (Builtin.append_ #[T, it] T #[.slice q 0 0, .int k l]).run P w = .ok (.slice (some ⟨w.heap.size, 0, none⟩) l cap) (w.drew.alloc (.cells cs e)) ∧ cs.toList.take (l * z.length) = zeros z l ∧ l * z.length ≤ cs.size := by
  obtain ⟨hu, i, v, hinf, hs, hb, hzz, hn⟩ := under_slice hT
  obtain ⟨i', v', hinf', hz', rfl⟩ := hz
  rw [hinf] at hinf'
  obtain rfl := Option.some.inj hinf'
  rw [hzz] at hz'
  obtain rfl := Option.some.inj hz'
  have hw : IntKind.i64.wrap (l : Int) = l := by simp [IntKind.wrap, IntKind.bits, IntKind.signed]; omega
  have hns := nextslicecap_zero h0
  subst hb
  have hbi : (l : Int) * (i.bytes : Int) = ((l * i.bytes : Nat) : Int) := by simp
  refine ⟨grownCap w l 0 e, by have := grownCap_ge w l 0 e; omega, Builtin.zeroCells v.cells l ++ Builtin.zeroCells v.cells (grownCap w l 0 e - l), ?_, ?_, ?_⟩
  · have hl0 : l ≠ 0 := by omega
    have hs0 : i.size ≠ 0 := by omega
    have hls : l * i.size ≠ 0 := Nat.mul_ne_zero hl0 hs0
    have hb2 : (l : Int) * ↑i.bytes ≤ 281474976710656 := by rw [hbi]; omega
    have hb3 : l * i.bytes ≤ 281474976710656 := by omega
    have h63 : (l : Int) ≤ 9223372036854775807 := by omega
    cases q <;> simp [Builtin.append_, run_underlying hu, run_underlying (under_int hi), sizeOf, typeInfo, zeroValue, hinf, hzz, asInt, asIntOf, hw, hl0, hs0, hls, hns, Builtin.firstCells, loadCells, loadCellsFrom, newRow, grownCap, Question.forced, hb2, hb3, h63,
      show ¬ ((l : Int) < 0) by omega, show ¬ (9223372036854775807 < (l : Int)) by omega, show ¬ (281474976710656 < (l : Int) * ↑i.bytes) by rw [hbi]; omega, show ¬ (281474976710656 < l * i.bytes) by omega]
  · rw [Array.toList_append, zeroCells_list]
    have : l * v.cells.toList.length = (zeros v.cells.toList l).length := (length_zeros _ _).symm
    rw [this, List.take_left]
  · simp [Builtin.zeroCells]

/-- 'a = append(a, make([]T, l)...)' where a is empty, without spare -/
theorem r_appendMake {id n s u m : Nat} {q : Option Addr} {t1 t2 t3 t4 : TypeId} {p1 p2 p3 p4 : String} {e1 e2 e3 e4 : Array Edge} {T e sz bs it : Nat} {k : IntKind} {l : Nat} {z : List Value}
    (hT : sliceOf P T e sz bs = true) (hi : intOf P it k = true) (hz : zeroIs P e z) (h0 : 0 < l) (hl : l * bs ≤ 140737488355328) (hl2 : l ≤ 4294967296)
    (hs : get a s = .slice q 0 0) (hu : get a u = .int k l) (hn : n + 2 < a.tmps.size) (hsn : s < a.tmps.size) (hun : u < n) (hm : m ≤ n) (hms : m ≤ s) (htt : t3 = T)
    (hk : ∀ a' w' b cap, Kept m a a' → get a' s = .slice (some ⟨b, 0, none⟩) l cap → l ≤ cap → w.heap.size ≤ b → b < w'.heap.size → w'.rangeAt b 0 (zeros z l) → w'.there b 0 (l * z.length) → Fr [] w w' → (∀ t, t < n → t ≠ s → get a' t = get a t) → K a' w') :
    (Code.region id ⟨[⟨some n, .move (.tmp s), t1, p1, e1, none⟩, ⟨some (n + 1), .move (.tmp u), t2, p2, e2, none⟩, ⟨some (n + 2), .call ⟨.builtin .append, #[.tmp n, .tmp (n + 1)], #[T, it]⟩, t3, p3, e3, none⟩,
      ⟨some s, .assign (.tmp (n + 2)), t4, p4, e4, none⟩]⟩ false).wp P (Exit.then K Q) a w := by
  subst htt
  refine wp_reg ?_
  rw [wpl_cons, wp_move, eval_tmp, hs, wpl_cons, wp_move, eval_tmp, get_put_ne (by omega), hu, wpl_cons]
  obtain ⟨cap, hcap, cs, hr, htk, hsz⟩ := run_appendMake (w := w) (q := q) hT hi hz h0 hl hl2
  refine wp_val (v := .slice (some ⟨w.heap.size, 0, none⟩) l cap) (w' := w.drew.alloc (.cells cs e)) ?_ ?_
  · have x1 : ((a.put (some n) (.slice q 0 0)).put (some (n + 1)) (.int k l)).eval (.tmp n) = .slice q 0 0 := by rw [eval_tmp, get_put_ne (by omega), get_put_same (by omega)]
    have x2 : ((a.put (some n) (.slice q 0 0)).put (some (n + 1)) (.int k l)).eval (.tmp (n + 1)) = .int k l := by rw [eval_tmp, get_put_same (by simp only [size_put]; omega)]
    simp [execOp, resolve, invoke, builtin, x1, x2, hr]
  · rw [wpl_cons, wp_assign, eval_tmp, get_put_same (by simp only [size_put]; omega)]
    have hrn := range_new w.drew cs e (0, 0)
    refine hk _ _ w.heap.size cap ((((Kept.put0 hm _).put (by omega) _).put (by omega) _).put hms _) (get_put_same (by simp only [size_put]; omega)) hcap (Nat.le_refl _) (by rw [size_alloc]; show w.heap.size < w.heap.size + 1; omega) ?_ ?_ ((Fr.drew [] w).tr (Fr.alloc [] w.drew _))
      (fun t h1 h2 => by rw [get_put_ne (fun e => h2 e.symm), get_put_ne (by omega), get_put_ne (by omega), get_put_ne (by omega)])
    · have := range_part hrn 0 (l * z.length)
      rw [List.drop_zero, htk] at this
      exact this
    · exact there_part (there_new w.drew cs e) (Nat.le_refl _) (by omega)

end Go.Kq

/- Pieces of reading code: fields, texts, conditions, lists. -/
namespace Go.Kq
open Go Go.Proofs

/-! ### the library's methods -/
/-- A method of the reader that gives a value. -/
structure MethV (P : Program) (f : FuncId) (ty : Ty) (g : RSt → V × RSt) : Prop where
  enters : Enters P f
  call : ∀ w rb sb st, RW w rb sb st → Calls P f #[.pointer (some ⟨rb, 0, none⟩)] w fun e w' =>
    ∃ x, e = .returned x ∧ Rep w' (Foot sb w.heap.size w'.heap.size) ty [x] (g st).1 ∧ RW w' rb sb (g st).2 ∧ Fr [⟨rb, 0, 2⟩] w w'
structure OkM (P : Program) (f : FuncId) : Prop where
  enters : Enters P f
  call : ∀ w rb sb st, RW w rb sb st → Calls P f #[.pointer (some ⟨rb, 0, none⟩)] w fun e w' => e = .returned (.bool (!st.bad)) ∧ w' = w
structure CompleteM (P : Program) (ge : Nat) (f : FuncId) : Prop where
  enters : Enters P f
  call : ∀ w rb sb st er, RW w rb sb st → w.cell? ⟨ge, 0, none⟩ = some er → Calls P f #[.pointer (some ⟨rb, 0, none⟩)] w fun e w' => e = .returned (if st.bad then er else .nilIface) ∧ w' = w

def Ty.one : Ty → Bool
  | .uuid => false
  | .st _ => false
  | _ => true
theorem Ty.one_size {t : Ty} (h : t.one = true) : t.size = 1 := by cases t <;> simp_all [Ty.one, Ty.size]
theorem Octs.oneCell {w : World} {A : Nat → Prop} {v : Value} {x : Option (List UInt8)} (h : Octs w A v x) : v.oneCell' = true := by
  rcases h with ⟨rfl, _⟩ | ⟨_, _, _, _, _, rfl, _⟩ <;> rfl
theorem Rep.oneCell {w : World} {A : Nat → Prop} {t : Ty} {v : Value} {x : V} (h : Rep w A t [v] x) (ho : t.one = true) : v.oneCell' = true := by
  cases t with
  | int k => obtain ⟨i, h1, _⟩ := h; simp at h1; subst h1; rfl
  | bool => obtain ⟨i, h1, _⟩ := h; simp at h1; subst h1; rfl
  | f64 => obtain ⟨i, h1, _⟩ := h; simp at h1; subst h1; rfl
  | str => obtain ⟨i, h1, _⟩ := h; simp at h1; subst h1; rfl
  | pstr => rcases h with ⟨h1, _⟩ | ⟨_, _, _, _, h1, _⟩ <;> (simp at h1; subst h1; rfl)
  | bytes => obtain ⟨v, y, h1, h2, _⟩ := h; simp at h1; subst h1; exact h2.oneCell
  | uuid => simp [Ty.one] at ho
  | tags => rcases h with ⟨h1, _⟩ | ⟨_, _, _, _, _, h1, _⟩ <;> (simp at h1; subst h1; rfl)
  | arr t => rcases h with ⟨h1, _⟩ | ⟨_, _, _, _, _, h1, _⟩ <;> (simp at h1; subst h1; rfl)
  | st fs => simp [Ty.one] at ho
  | ptr t => rcases h with ⟨h1, _⟩ | ⟨_, _, _, _, h1, _⟩ <;> (simp at h1; subst h1; rfl)

/-! ### a slot that is given a value -/
def Asg (P : Program) (ge : Nat) (cx : Cx) (m : Nat) (c : Code) (v : Nat) (ty : Ty) (f : Int → Bool → RSt → V × RSt) : Prop :=
  ∀ (e : Env) (pb po : Nat) (K : Act → World → Prop) (Q : Exit → Act → World → Prop) (a : Act) (w : World) (st : RSt),
    Slots cx e pb po a → Mem e pb po ge w st →
    (∀ a' w' x, Kept m a a' → get a' v = x → Rep w' (Foot e.sb w.heap.size w'.heap.size) ty [x] (f e.ver e.flex st).1 → RW w' e.rb e.sb (f e.ver e.flex st).2 → Fr [⟨e.rb, 0, 2⟩] w w' → K a' w') →
    c.wp P (Exit.then K Q) a w

theorem asg_call {P : Program} {ge : Nat} {cx : Cx} {m id n v : Nat} {f : FuncId} {ts : Array TypeId} {t1 t2 : TypeId} {p1 p2 : String} {e1 e2 : Array Edge} {ty : Ty} {g : RSt → V × RSt}
    (h : MethV P f ty g) (hb : (decide (n < cx.N) && decide (v < cx.N) && decide (m ≤ n) && decide (m ≤ v)) = true) :
    Asg P ge cx m (Code.region id ⟨[⟨some n, .call ⟨.value (.func f), #[.tmp cx.tb], ts⟩, t1, p1, e1, none⟩, ⟨some v, .assign (.tmp n), t2, p2, e2, none⟩]⟩ false) v ty (fun _ _ => g) := by
  intro e pb po K Q a w st hs hm hk
  simp only [Bool.and_eq_true, decide_eq_true_eq] at hb
  obtain ⟨⟨⟨b1, b2⟩, b3⟩, b4⟩ := hb
  have := hs.size
  refine r_call (m := m) (R := fun x w' => Rep w' (Foot e.sb w.heap.size w'.heap.size) ty [x] (g st).1 ∧ RW w' e.rb e.sb (g st).2 ∧ Fr [⟨e.rb, 0, 2⟩] w w') h.enters hs.b (h.call w e.rb e.sb st hm.rw) (by omega) (by omega) b3 b4 ?_
  rintro a' x w' ⟨h1, h2, h3⟩ hka hg
  exact hk a' w' x hka hg h1 h2 h3

/-- 'if unsafe { .. } else { .. }' -/
theorem asg_uns {P : Program} {ge : Nat} {cx : Cx} {m id n v : Nat} {t1 : TypeId} {p1 : String} {e1 : Array Edge} {c1 c2 : Code} {ty : Ty} {g : Int → Bool → RSt → V × RSt}
    (h1 : Asg P ge cx m c1 v ty g) (h2 : Asg P ge cx m c2 v ty g) (hb : (decide (n < cx.N) && decide (m ≤ n) && cx.below m) = true) :
    Asg P ge cx m (Code.seq (Code.region id ⟨[⟨some n, .move (.tmp cx.tu), t1, p1, e1, none⟩]⟩ false) (.cond (.tmp n) c1 c2)) v ty g := by
  intro e pb po K Q a w st hs hm hk
  simp only [Bool.and_eq_true, decide_eq_true_eq] at hb
  obtain ⟨⟨b1, b2⟩, b3⟩ := hb
  have := hs.size
  refine r_if (m := m) (b := e.uns) (by omega) b2 hs.u ?_ ?_
  · intro _ a1 k1
    exact h1 e pb po K Q a1 w st (hs.kept b3 k1) hm fun a' w' x k2 => hk a' w' x (k1.trans k2)
  · intro _ a1 k1
    exact h2 e pb po K Q a1 w st (hs.kept b3 k1) hm fun a' w' x k2 => hk a' w' x (k1.trans k2)
/-- 'if isFlexible { .. } else { .. }' -/
theorem asg_flex {P : Program} {ge : Nat} {cx : Cx} {m id n v u : Nat} {t1 : TypeId} {p1 : String} {e1 : Array Edge} {c1 c2 : Code} {ty : Ty} {g1 g2 : Int → Bool → RSt → V × RSt}
    (h1 : Asg P ge cx m c1 v ty g1) (h2 : Asg P ge cx m c2 v ty g2) (hu : cx.tf = some u) (hb : (decide (n < cx.N) && decide (m ≤ n) && cx.below m) = true) :
    Asg P ge cx m (Code.seq (Code.region id ⟨[⟨some n, .move (.tmp u), t1, p1, e1, none⟩]⟩ false) (.cond (.tmp n) c1 c2)) v ty (fun ver fl st => if fl then g1 ver fl st else g2 ver fl st) := by
  intro e pb po K Q a w st hs hm hk
  simp only [Bool.and_eq_true, decide_eq_true_eq] at hb
  obtain ⟨⟨b1, b2⟩, b3⟩ := hb
  have := hs.size
  refine r_if (m := m) (b := e.flex) (by omega) b2 (hs.f u hu) ?_ ?_
  · intro hf a1 k1
    simp only [hf, if_true] at hk
    exact h1 e pb po K Q a1 w st (hs.kept b3 k1) hm fun a' w' x k2 => by rw [hf]; exact hk a' w' x (k1.trans k2)
  · intro hf a1 k1
    simp only [hf, if_false, Bool.false_eq_true] at hk
    exact h2 e pb po K Q a1 w st (hs.kept b3 k1) hm fun a' w' x k2 => by rw [hf]; exact hk a' w' x (k1.trans k2)

/-! ### fields -/
def rdOne (g : Int → Bool → RSt → V × RSt) : Rd := fun ver fl st => some (g ver fl st)

/-- 'v := ..; s.F = v' -/
theorem fld_asg {P : Program} {ge : Nat} {cx : Cx} {m id n v : Nat} {S T k o : Nat} {t1 t2 t3 t4 t5 : TypeId} {p1 p2 p3 p4 p5 : String} {e1 e2 e3 e4 e5 : Array Edge} {c : Code} {ty : Ty} {dv : V} {g : Int → Bool → RSt → V × RSt}
    (h : Asg P ge cx m c v ty g) (hT : scal P T = true) (hF : fieldOf P S k o = true) (ho : ty.one = true)
    (hb : (decide (v < n) && decide (n + 3 < cx.N) && decide (m ≤ n) && cx.below m) = true) :
    Fld P ge cx m (Code.seq c (Code.region id ⟨[⟨some n, .move (.tmp cx.ts), t1, p1, e1, none⟩, ⟨some (n + 1), .move (.tmp v), t2, p2, e2, none⟩, ⟨some (n + 2), .nilCheck (.tmp n), t3, p3, e3, none⟩,
      ⟨some (n + 3), .fieldAddr S (.tmp (n + 2)) k, t4, p4, e4, none⟩, ⟨none, .store T (.tmp (n + 3)) (.tmp (n + 1)), t5, p5, e5, none⟩]⟩ false)) o ty dv (rdOne g) := by
  intro e pb po K Q a w st hs hm ht hz hk hq
  simp only [Bool.and_eq_true, decide_eq_true_eq] at hb
  obtain ⟨⟨⟨b1, b2⟩, b3⟩, b4⟩ := hb
  have hsz := hs.size
  have ho1 := Ty.one_size ho
  have hbl := Cx.below_spec b4
  rw [ho1] at ht
  simp only [ho1] at hk
  refine wp_seq_k fun K1 hK1 => ?_
  refine h e pb po K1 _ a w st hs hm ?_
  intro a1 w1 x k1 hg hr hrw hfr
  refine hK1 a1 w1 ?_
  have hs1 := hs.kept b4 k1
  have ht1 := hfr.there ht
  have hpb : pb < w.heap.size := there_lt ht (by omega)
  refine r_store (m := m) (x := x) hs1.s hg (hr.oneCell ho) hT hF ht1 (by omega) b1 (by rw [hs1.size]; exact b2) b3 ?_
  intro a2 k2
  have f2 := Fr.set w1 pb (po + o) x
  have f3 : Fr [⟨e.rb, 0, 2⟩, ⟨pb, po + o, po + o + 1⟩] w (w1.setCell ⟨pb, po + o, none⟩ x) := by
    refine (hfr.mono (l' := [⟨e.rb, 0, 2⟩, ⟨pb, po + o, po + o + 1⟩]) ?_).trans f2 ?_
    · intro r hr; simp at hr; subst hr; exact .inr ⟨_, by simp, rfl, by simp, by simp⟩
    · intro r hr; simp at hr; subst hr; exact .inr ⟨⟨pb, po + o, po + o + 1⟩, by simp, rfl, by simp, by simp⟩
  refine hk a2 _ _ _ rfl (k1.trans k2) (hrw.kept f2 (by intro r hr; simp at hr; subst hr; exact ⟨hm.pr, hm.ps⟩)) f3 ⟨[x], range_one.2 (range_set ht1), ?_⟩
  refine hr.kept f2 (l := [⟨pb, po + o, po + o + 1⟩]) ?_ (fun b hb => hb.mono (Nat.le_refl _) f2.size)
  intro r hr hF
  simp at hr
  subst hr
  rcases hF with hF | ⟨hF, _⟩
  · exact hm.ps hF
  · simp at hF; omega

/-- 'var v T' ahead of it -/
theorem fld_var {P : Program} {ge : Nat} {cx : Cx} {m id v o : Nat} {x : Value} {t1 : TypeId} {p1 : String} {e1 : Array Edge} {c : Code} {ty : Ty} {dv : V} {f : Rd}
    (h : Fld P ge cx m c o ty dv f) (hb : (decide (v < cx.N) && decide (m ≤ v) && cx.below m) = true) :
    Fld P ge cx m (Code.seq (Code.region id ⟨[⟨some v, .assign (.const x), t1, p1, e1, none⟩]⟩ false) c) o ty dv f := by
  intro e pb po K Q a w st hs hm ht hz hk hq
  simp only [Bool.and_eq_true, decide_eq_true_eq] at hb
  obtain ⟨⟨b1, b2⟩, b3⟩ := hb
  have hsz := hs.size
  refine wp_seq_k fun K1 hK1 => ?_
  refine r_const (m := m) (by omega) b2 fun a1 k1 _ => hK1 a1 w ?_
  exact h e pb po K Q a1 w st (hs.kept b3 k1) hm ht hz (fun a' w' x' st' hf k2 => hk a' w' x' st' hf (k1.trans k2)) hq

def rdIf (p : Int → Bool) (dv : V) (f : Rd) : Rd := fun ver fl st => if p ver then f ver fl st else some (dv, st)
/-- 'if version >= k { .. }' -/
theorem fld_if {P : Program} {ge : Nat} {cx : Cx} {m id n o : Nat} {t1 t2 : TypeId} {p1 p2 : String} {e1 e2 : Array Edge} {op : BinOp} {T U : TypeId} {j : Int} {c : Code} {ty : Ty} {dv : V} {f : Rd} {p : Int → Bool}
    (h : Fld P ge cx m c o ty dv f) (hp : ∀ i, cmpR op i j = some (p i)) (hb : (decide (n + 1 < cx.N) && decide (m ≤ n) && cx.below m) = true) :
    Fld P ge cx m (Code.seq (Code.region id ⟨[⟨some n, .move (.tmp cx.tv), t1, p1, e1, none⟩, ⟨some (n + 1), .binOp op T (.tmp n) (.const (.int .i16 j)) U, t2, p2, e2, none⟩]⟩ false) (.cond (.tmp (n + 1)) c .skip)) o ty dv (rdIf p dv f) := by
  intro e pb po K Q a w st hs hm ht hz hk hq
  simp only [Bool.and_eq_true, decide_eq_true_eq] at hb
  obtain ⟨⟨b1, b2⟩, b3⟩ := hb
  have hsz := hs.size
  refine wp_seq_k fun K1 hK1 => ?_
  refine r_cmp (m := m) (by omega) b2 hs.v (hp e.ver) fun a1 k1 hg => hK1 a1 w ?_
  refine wp_cond_split (t := p e.ver) (by rw [eval_tmp, hg]) ?_ ?_
  · intro hpv
    refine h e pb po K Q a1 w st (hs.kept b3 k1) hm ht hz (fun a' w' x' st' hf k2 => hk a' w' x' st' (by simp [rdIf, hpv, hf]) (k1.trans k2)) ?_
    intro hf
    exact hq (by simp [rdIf, hpv, hf])
  · intro hpv
    refine wp_skip ?_
    obtain ⟨z, hz1, hz2⟩ := hz
    exact hk a1 w dv st (by simp [rdIf, hpv]) k1 hm.rw (Fr.refl _ _) ⟨z, hz1, hz2.kept (Fr.refl [] w) (by simp) (fun _ h => h.elim)⟩

end Go.Kq

/- Lists that are read: a loop over the elements. -/
namespace Go.Kq
open Go Go.Proofs

/-- One element is read: the list's slot, the index's slot. -/
def Elt (P : Program) (ge : Nat) (cx : Cx) (m : Nat) (c : Code) (sa si : Nat) (zs : List Value) (et : Ty) (f : Rd) : Prop :=
  ∀ (e : Env) (pb po : Nat) (K : Act → World → Prop) (Q : Exit → Act → World → Prop) (a : Act) (w : World) (st : RSt) (ba bo len cap i : Nat),
    Slots cx e pb po a → Mem e pb po ge w st → Mem e ba bo ge w st → get a sa = .slice (some ⟨ba, bo, none⟩) len cap → get a si = .int .i32 i → i < len →
    w.there ba (bo + i * et.size) et.size → w.rangeAt ba (bo + i * et.size) zs →
    (∀ a' w' x st', f e.ver e.flex st = some (x, st') → Kept m a a' → RW w' e.rb e.sb st' → Fr [⟨e.rb, 0, 2⟩, ⟨ba, bo + i * et.size, bo + i * et.size + et.size⟩] w w' →
      (∃ z, w'.rangeAt ba (bo + i * et.size) z ∧ Rep w' (Foot e.sb w.heap.size w'.heap.size) et z x) → K a' w') →
    (f e.ver e.flex st = none → ∀ a' w', a'.tmps.size = cx.N → a'.defers = [] → get a' cx.tr = e.er → Fr [⟨e.rb, 0, 2⟩, ⟨ba, bo + i * et.size, bo + i * et.size + et.size⟩] w w' → Q .ret a' w') →
    c.wp P (Exit.then K Q) a w

def rdMany (f : Rd) (ver : Int) (fl : Bool) : Nat → RSt → Option (List V × RSt)
  | 0, st => some ([], st)
  | n + 1, st => match f ver fl st with
    | none => none
    | some (x, s) => match rdMany f ver fl n s with
      | none => none
      | some (xs, s) => some (x :: xs, s)

def idxOf : Value → Nat
  | .int _ n => n.toNat
  | _ => 0

theorem inBlock_then {id : Nat} {K : Act → World → Prop} {Q : Exit → Act → World → Prop} {e : Exit} {a : Act} {w : World}
    (h : Exit.then K (Exit.inBlock id (Exit.then K Q)) e a w) : Exit.inBlock id (Exit.then K Q) e a w := by
  cases e <;> exact h

theorem zeros_part {w : World} {b : Nat} {z : List Value} {n : Nat} (h : w.rangeAt b 0 (zeros z n)) : ∀ i, i < n → w.rangeAt b (i * z.length) z := by
  intro i hi j v hv
  have hj : j < z.length := (List.getElem?_eq_some_iff.1 hv).1
  have hlt : i * z.length + j < n * z.length := by
    have : (i + 1) * z.length ≤ n * z.length := Nat.mul_le_mul_right _ hi
    rw [Nat.add_mul] at this; omega
  have := h (i * z.length + j) v ?_
  · simpa using this
  · unfold zeros
    rw [List.getElem?_map, List.getElem?_range hlt]
    simp only [Option.map_some]
    have hm : (i * z.length + j) % z.length = j := by rw [Nat.mul_comm, Nat.mul_add_mod, Nat.mod_eq_of_lt hj]
    rw [hm, ← hv, List.getElem?_eq_getElem hj]
    simp [hj]

theorem rdMany_snoc (f : Rd) (ver : Int) (fl : Bool) : ∀ (n : Nat) (st : RSt) (ys : List V) (x : V) (s s' : RSt), (rdMany f ver fl n st = some (ys, s)) → f ver fl s = some (x, s') → rdMany f ver fl (n + 1) st = some (ys ++ [x], s')
  | 0, st, ys, x, s, s', h, hf => by simp [rdMany] at h; obtain ⟨rfl, rfl⟩ := h; simp [rdMany, hf]
  | n + 1, st, ys, x, s, s', h, hf => by
    rw [rdMany] at h
    split at h
    · simp at h
    · rename_i y s1 h1
      split at h
      · simp at h
      · rename_i zs s2 h2
        simp at h
        obtain ⟨rfl, rfl⟩ := h
        have := rdMany_snoc f ver fl n s1 zs x s2 s' h2 hf
        rw [rdMany, h1]
        simp only [this]
        rfl
theorem rdMany_length (f : Rd) (ver : Int) (fl : Bool) : ∀ (n : Nat) (st : RSt) (ys : List V) (s : RSt), rdMany f ver fl n st = some (ys, s) → ys.length = n
  | 0, st, ys, s, h => by simp [rdMany] at h; simp [← h.1]
  | n + 1, st, ys, s, h => by
    rw [rdMany] at h
    split at h
    · simp at h
    · split at h
      · simp at h
      · rename_i zs s2 h2
        simp at h
        rw [← h.1, List.length_cons, rdMany_length f ver fl n _ _ _ h2]
/-- It ends early as soon as one element does. -/
theorem rdMany_stop (f : Rd) (ver : Int) (fl : Bool) : ∀ (n k : Nat) (st : RSt) (ys : List V) (s : RSt), rdMany f ver fl n st = some (ys, s) → f ver fl s = none → rdMany f ver fl (n + 1 + k) st = none
  | 0, k, st, ys, s, h, hf => by simp [rdMany] at h; obtain ⟨rfl, rfl⟩ := h; rw [show 0 + 1 + k = k + 1 from by omega, rdMany, hf]
  | n + 1, k, st, ys, s, h, hf => by
    rw [rdMany] at h
    split at h
    · simp at h
    · rename_i y s1 h1
      split at h
      · simp at h
      · rename_i zs s2 h2
        simp at h
        obtain ⟨rfl, rfl⟩ := h
        rw [show n + 1 + 1 + k = (n + 1 + k) + 1 from by omega, rdMany, h1]
        simp only [rdMany_stop f ver fl n k s1 zs s2 h2 hf]

/-- The loop over the elements. -/
theorem loop_elts {P : Program} {ge : Nat} {cx : Cx} {m m' id id1 n n' sa sl si r0 r1 r2 : Nat} {c : Code} {zs : List Value} {et : Ty} {f : Rd}
    {t0 t1 t2 t3 t4 t5 t6 : TypeId} {p0 p1 p2 p3 p4 p5 p6 : String} {e0 e1 e2 e3 e4 e5 e6 : Array Edge} {T U T' U' : TypeId}
    (h : Elt P ge cx m' c sa si zs et f)
    (hb : (decide (m ≤ sa) && decide (m ≤ sl) && decide (m ≤ si) && decide (sa < si) && decide (sl < si) && decide (si < m') && decide (si < n) && decide (si < n') && decide (n + 2 < cx.N) && decide (n' + 1 < cx.N) && cx.below m && cx.below m') = true)
    (hn0 : m' ≤ n) (hn1 : m' ≤ n')
    {e : Env} {pb po : Nat} {K : Act → World → Prop} {Q : Exit → Act → World → Prop} {a : Act} {w ws : World} {st : RSt} {L ba cap : Nat} {l : Int} {slv : Value}
    (hs : Slots cx e pb po a) (hm : Mem e pb po ge w st) (hL : L = l.toNat) (hl : l < 2147483648) (hsl : get a sl = .int .i32 l) (hsa : get a sa = slv) (hslv : 0 < L → slv = .slice (some ⟨ba, 0, none⟩) L cap)
    (hba : 0 < L → Mem e ba 0 ge w st) (hnew : 0 < L → ws.heap.size ≤ ba ∧ ba < w.heap.size) (ht : 0 < L → w.there ba 0 (L * et.size)) (hz : 0 < L → ∀ i, i < L → w.rangeAt ba (i * et.size) zs) (hfs : Fr [⟨e.rb, 0, 2⟩] ws w)
    (hk : ∀ a' w' xs st', rdMany f e.ver e.flex L st = some (xs, st') → Kept m a a' → get a' sa = slv → RW w' e.rb e.sb st' → Fr [⟨e.rb, 0, 2⟩] ws w' → w.heap.size ≤ w'.heap.size →
      (∀ i y, xs[i]? = some y → ∃ z, w'.rangeAt ba (i * et.size) z ∧ Rep w' (Foot e.sb w.heap.size w'.heap.size) et z y) → K a' w')
    (hq : rdMany f e.ver e.flex L st = none → ∀ a' w', a'.tmps.size = cx.N → a'.defers = [] → get a' cx.tr = e.er → Fr [⟨e.rb, 0, 2⟩] ws w' → Q .ret a' w') :
    (Code.seq (Code.region r0 ⟨[⟨some si, .assign (.const (.int .i32 0)), t0, p0, e0, none⟩]⟩ false)
      (.block id (.loop (.seq (.seq (Code.region r1 ⟨[⟨some n, .move (.tmp si), t1, p1, e1, none⟩, ⟨some (n + 1), .move (.tmp sl), t2, p2, e2, none⟩, ⟨some (n + 2), .binOp .lss T (.tmp n) (.tmp (n + 1)) U, t3, p3, e3, none⟩]⟩ false)
          (.cond (.tmp (n + 2)) .skip (.exit id)))
        (.seq (.block id1 c) (Code.region r2 ⟨[⟨some n', .move (.tmp si), t4, p4, e4, none⟩, ⟨some (n' + 1), .binOp .add T' (.tmp n') (.const (.int .i32 1)) U', t5, p5, e5, none⟩, ⟨some si, .assign (.tmp (n' + 1)), t6, p6, e6, none⟩]⟩ false)))))).wp P (Exit.then K Q) a w := by
  simp only [Bool.and_eq_true, decide_eq_true_eq] at hb
  obtain ⟨⟨⟨⟨⟨⟨⟨⟨⟨⟨⟨b1, b2⟩, b3⟩, b4⟩, b5⟩, b6⟩, b7⟩, b8⟩, b9⟩, b10⟩, b11⟩, b12⟩ := hb
  have hN := hs.size
  have hbl := Cx.below_spec b11
  have hbl' := Cx.below_spec b12
  refine wp_seq_k fun K1 hK1 => ?_
  refine r_const (m := si) (by omega) (Nat.le_refl _) fun a1 k1 hi0 => hK1 a1 w ?_
  have s1 := hs.kept b11 (k1.mono b3)
  refine wp_block (wp_loop (fun a' w' => ∃ (j : Nat) (ys : List V) (sj : RSt), j ≤ L ∧ rdMany f e.ver e.flex j st = some (ys, sj) ∧ Kept m a a' ∧ get a' sa = slv ∧ get a' sl = .int .i32 l ∧ get a' si = .int .i32 j ∧
      Slots cx e pb po a' ∧ Mem e pb po ge w' sj ∧ Fr [⟨e.rb, 0, 2⟩] ws w' ∧ w.heap.size ≤ w'.heap.size ∧ (0 < L → Mem e ba 0 ge w' sj ∧ w'.there ba 0 (L * et.size) ∧ ∀ i, j ≤ i → i < L → w'.rangeAt ba (i * et.size) zs) ∧
      (∀ i y, ys[i]? = some y → ∃ z, w'.rangeAt ba (i * et.size) z ∧ Rep w' (Foot e.sb w.heap.size w'.heap.size) et z y))
    (fun a' _ => L - idxOf (get a' si)) ?_ ?_)
  · exact ⟨0, [], st, Nat.zero_le _, rfl, k1.mono b3, (k1.get _ b4).trans hsa, (k1.get _ b5).trans hsl, hi0, s1, hm, hfs, Nat.le_refl _, fun h0 => ⟨hba h0, ht h0, fun i _ hi => hz h0 i hi⟩, by intro i y hy; simp at hy⟩
  · rintro a2 w2 ⟨j, ys, sj, hj, hys, k2, ga, gl, gi, s2, m2, f2, z2, hL2, hd2⟩
    have hN2 := s2.size
    refine wp_seq_k fun K2 hK2 => ?_
    refine wp_seq_k fun K3 hK3 => ?_
    refine r_lss (m := m') (k := .i32) (i := j) (j := l) (by omega) hn0 (by omega) gi gl fun a3 k3 g3 => hK3 a3 w2 ?_
    have ga3 := (k3.get sa (by omega)).trans ga
    have gl3 := (k3.get sl (by omega)).trans gl
    have gi3 := (k3.get si (by omega)).trans gi
    have s3 := s2.kept b12 k3
    refine wp_cond_split (t := decide ((j : Int) < l)) (by rw [eval_tmp, g3]) ?_ ?_
    · intro hlt
      have hlt : (j : Int) < l := by simpa using hlt
      have hjL : j < L := by omega
      have h0 : 0 < L := by omega
      obtain ⟨mb, htb, hzb⟩ := hL2 h0
      refine wp_skip (hK2 a3 w2 ?_)
      refine wp_seq_k fun K4 hK4 => ?_
      have hblk := hslv h0
      rw [hblk] at ga3
      have hmul : j * et.size + et.size ≤ L * et.size := by
        have : (j + 1) * et.size ≤ L * et.size := Nat.mul_le_mul_right _ hjL
        rw [Nat.add_mul] at this; omega
      refine wp_block (wp_mono (h e pb po K4 (Exit.inBlock id1 (Exit.then K4 _)) a3 w2 sj ba 0 L cap j s3 m2 mb ga3 gi3 hjL
        (by rw [Nat.zero_add]; exact there_part htb (by omega) (by omega)) (by rw [Nat.zero_add]; exact hzb j (Nat.le_refl _) hjL) ?_ ?_) (fun _ _ _ => inBlock_then))
      · rintro a4 w4 x s5 hf k4 hrw hfr ⟨z, hz4, hr4⟩
        rw [Nat.zero_add] at hz4 hfr
        refine hK4 a4 w4 ?_
        have gi4 := (k4.get si (by omega)).trans gi3
        have ga4 := (k4.get sa (by omega)).trans ga3
        have gl4 := (k4.get sl (by omega)).trans gl3
        have s4 := s3.kept b12 k4
        have hbaw := hnew h0
        have hN4 := s4.size
        refine r_inc (m := si) (k := .i32) (i := j) (j := 1) (by omega) (by omega) (by omega) (Nat.le_refl _) gi4 fun a5 k5 gi5 => ?_
        have hwr : IntKind.i32.wrap ((j : Int) + 1) = ((j + 1 : Nat) : Int) := by
          simp [IntKind.wrap, IntKind.bits, IntKind.signed]; omega
        rw [hwr] at gi5
        have hbr : ba ≠ e.rb := mb.pr
        have f4 : Fr [⟨e.rb, 0, 2⟩] ws w4 := f2.trans hfr (by
          intro r hr; simp at hr
          rcases hr with rfl | rfl
          · exact .inr ⟨_, by simp, rfl, by simp, by simp⟩
          · exact .inl hbaw.1)
        have m4 : Mem e pb po ge w4 s5 := ⟨hrw, hfr.cell m2.er (.cons (.inl (fun h => m2.gr h.symm)) (.cons (.inl (fun h => mb.gp h.symm)) .nil)), m2.gp, m2.gr, m2.pr, m2.ps, Nat.lt_of_lt_of_le m2.sl hfr.size⟩
        have mb4 : Mem e ba 0 ge w4 s5 := ⟨hrw, m4.er, mb.gp, mb.gr, mb.pr, mb.ps, m4.sl⟩
        refine ⟨⟨j + 1, ys ++ [x], s5, hjL, rdMany_snoc _ _ _ _ _ _ _ _ _ hys hf, ?_, ?_, ?_, gi5, s4.kept b11 (k5.mono b3), m4, f4, Nat.le_trans z2 hfr.size, fun _ => ⟨mb4, hfr.there htb, ?_⟩, ?_⟩, ?_⟩
        · exact ((k2.trans (k3.mono (by omega))).trans (k4.mono (by omega))).trans (k5.mono b3)
        · rw [k5.get sa b4, ga4, hblk]
        · rw [k5.get sl b5, gl4]
        · intro i hi1 hi2
          have hzi := hzb i (by omega) hi2
          refine hfr.range hzi (.cons (.inl (fun h => hbr h.symm)) (.cons (.inr (.inr ?_)) .nil))
          have : (j + 1) * et.size ≤ i * et.size := Nat.mul_le_mul_right _ hi1
          rw [Nat.add_mul] at this
          simp only; omega
        · intro i y hy
          have hyl : ys.length = j := rdMany_length _ _ _ _ _ _ _ hys
          by_cases hi : i < j
          · rw [List.getElem?_append_left (by omega)] at hy
            obtain ⟨z', hz', hr'⟩ := hd2 i y hy
            have hlen := hr'.length
            refine ⟨z', hfr.range hz' (.cons (.inl (fun h => hbr h.symm)) (.cons (.inr (.inl ?_)) .nil)), ?_⟩
            · have : (i + 1) * et.size ≤ j * et.size := Nat.mul_le_mul_right _ hi
              rw [Nat.add_mul] at this
              simp only; omega
            · refine Rep.kept hfr ?_ (fun b hb => hb.mono (Nat.le_refl _) hfr.size) hr'
              intro r hr hF
              simp at hr
              have hrb : e.rb < w.heap.size := lt_of_cell (range_cons.1 hm.rw.2.2.choose_spec.1).1
              rcases hr with rfl | rfl
              · rcases hF with hF | ⟨hF, _⟩
                · exact hm.rw.1 hF
                · simp at hF; omega
              · rcases hF with hF | ⟨hF, _⟩
                · exact mb.ps hF
                · simp at hF; omega
          · rw [List.getElem?_append_right (by omega)] at hy
            have hi' : i = j := by
              rcases Nat.lt_or_ge (i - ys.length) 1 with h1 | h1
              · omega
              · rw [List.getElem?_eq_none (by simpa using h1)] at hy; simp at hy
            subst hi'
            rw [hyl, Nat.sub_self] at hy
            simp at hy
            subst hy
            exact ⟨z, hz4, Rep.kept (Fr.refl [] w4) (by simp) (fun b hb => hb.mono z2 (Nat.le_refl _)) hr4⟩
        · rw [gi, gi5]
          simp [idxOf]; omega
      · intro hf a4 w4 hN4 hd4 hr4 hfr
        rw [Nat.zero_add] at hfr
        have hbaw := hnew h0
        have hst := rdMany_stop f e.ver e.flex j (L - (j + 1)) st ys sj hys hf
        rw [show j + 1 + (L - (j + 1)) = L from by omega] at hst
        refine hq hst a4 w4 hN4 hd4 hr4 (f2.trans hfr ?_)
        intro r hr; simp at hr
        rcases hr with rfl | rfl
        · exact .inr ⟨_, by simp, rfl, by simp, by simp⟩
        · exact .inl hbaw.1
    · intro hge
      have hge : ¬ ((j : Int) < l) := by simpa using hge
      have hjL : j = L := by omega
      subst hjL
      refine wp_exit ?_
      show Exit.inBlock id (Exit.then K Q) (.exit id) a3 w2
      simp only [Exit.inBlock, if_true]
      refine hk a3 w2 ys sj hys (k2.trans (k3.mono (by omega))) ga3 m2.rw f2 z2 hd2

end Go.Kq

/- A field that is a list: its whole text. -/
namespace Go.Kq
open Go Go.Proofs

/-- What Default does to a struct: numbers are set. -/
structure DefM (P : Program) (f : FuncId) (tys : List Ty) (d : List V → List V) : Prop where
  enters : Enters P f
  call : ∀ w b o z xs, w.rangeAt b o z → w.there b o z.length → Reps w NoFoot tys z xs → Calls P f #[.pointer (some ⟨b, o, none⟩)] w fun e w' =>
    ∃ x, e = .returned x ∧ (∃ z', w'.rangeAt b o z' ∧ Reps w' NoFoot tys z' (d xs)) ∧ Fr [⟨b, o, o + z.length⟩] w w'

/-- An element that is a struct. -/
theorem elt_st {P : Program} {ge : Nat} {cx : Cx} {m m' sa si sv ss n1 n2 n3 i1 i2 i3 : Nat} {fd : FuncId} {c : Code} {zs : List Value} {tys : List Ty} {z0 : List V} {d : List V → List V} {f : Rd} {ats : Array TypeId}
    {t1 t2 t3 t4 t5 t6 t7 t8 : TypeId} {p1 p2 p3 p4 p5 p6 p7 p8 : String} {e1 e2 e3 e4 e5 e6 e7 e8 : Array Edge} {T et bs : Nat}
    (h : Fld P ge { cx with ts := ss } m' c 0 (.st tys) (.l (d z0)) f) (hd : DefM P fd tys d) (hz : ∀ w, Reps w NoFoot tys zs z0)
    (hT : sliceOf P T et (Ty.st tys).size bs = true)
    (hb : (decide (m ≤ sv) && decide (m ≤ ss) && decide (sa < m) && decide (si < m) && decide (sv < ss) && decide (ss < m') && decide (m' ≤ n1) && decide (m' ≤ n2) && decide (m' ≤ n3) && decide (n1 + 2 < cx.N) && decide (n2 + 1 < cx.N) && decide (n3 < cx.N) && cx.below m && decide (m' ≤ cx.N)) = true) :
    Elt P ge cx m (.seq (Code.region i1 ⟨[⟨some n1, .move (.tmp sa), t1, p1, e1, none⟩, ⟨some (n1 + 1), .move (.tmp si), t2, p2, e2, none⟩, ⟨some (n1 + 2), .indexAddr T (.tmp n1) (.tmp (n1 + 1)), t3, p3, e3, none⟩, ⟨some sv, .assign (.tmp (n1 + 2)), t4, p4, e4, none⟩]⟩ false)
      (.seq (Code.region i2 ⟨[⟨some n2, .move (.tmp sv), t5, p5, e5, none⟩, ⟨some (n2 + 1), .call ⟨.value (.func fd), #[.tmp n2], ats⟩, t6, p6, e6, none⟩]⟩ false)
      (.seq (Code.region i3 ⟨[⟨some n3, .move (.tmp sv), t7, p7, e7, none⟩, ⟨some ss, .assign (.tmp n3), t8, p8, e8, none⟩]⟩ false) c))) sa si zs (.st tys) f := by
  intro e pb po K Q a w st ba bo len cap i hs hm hmb hsa hsi hi ht hzs hk hq
  simp only [Bool.and_eq_true, decide_eq_true_eq] at hb
  obtain ⟨⟨⟨⟨⟨⟨⟨⟨⟨⟨⟨⟨⟨b1, b2⟩, b3⟩, b4⟩, b5⟩, b6⟩, b7⟩, b8⟩, b9⟩, b10⟩, b11⟩, b12⟩, b13⟩, b14⟩ := hb
  have hN := hs.size
  have hbl := Cx.below_spec b13
  generalize hq0 : bo + i * (Ty.st tys).size = q0 at *
  refine wp_seq_k fun K1 hK1 => ?_
  refine r_elem (m := m) (k := .i32) (i := i) hT hsa hsi (by omega) (by omega) (by omega) (by omega) (by omega) b1 (by omega) fun a1 k1 g1 => hK1 a1 w ?_
  have g1 : get a1 sv = .pointer (some ⟨ba, q0, none⟩) := by rw [g1, ← hq0]; simp
  have s1 := hs.kept b13 k1
  have hN1 := s1.size
  have hz0 := hz w
  have hzl : zs.length = (Ty.st tys).size := by have := hz0.length; simpa [Ty.size] using this
  rw [← hzl] at ht
  refine wp_seq_k fun K2 hK2 => ?_
  refine r_do (m := m') (R := fun w' => (∃ z', w'.rangeAt ba q0 z' ∧ Reps w' NoFoot tys z' (d z0)) ∧ Fr [⟨ba, q0, q0 + zs.length⟩] w w') hd.enters g1
    ((hd.call w ba q0 zs z0 hzs ht hz0).mono (by rintro e' w' ⟨x, h1, h2, h3⟩; exact ⟨x, h1, h2, h3⟩)) (by omega) b8 ?_
  rintro a2 w2 ⟨⟨z', hz1, hz2⟩, f2⟩ k2
  refine hK2 a2 w2 ?_
  have s2 := s1.kept b13 (k2.mono (by omega))
  have hN2 := s2.size
  refine wp_seq_k fun K3 hK3 => ?_
  refine r_copy (m := ss) (by omega) (by omega) (by omega) (Nat.le_refl _) fun a3 k3 g3 => hK3 a3 w2 ?_
  have s3 := s2.kept b13 (k3.mono b2)
  have g3 : get a3 ss = .pointer (some ⟨ba, q0, none⟩) := by rw [g3, k2.get sv (by omega), g1]
  have rw2 : RW w2 e.rb e.sb st := hmb.rw.kept f2 (by intro r hr; simp at hr; subst hr; exact ⟨hmb.pr, hmb.ps⟩)
  have m3 : Mem e ba q0 ge w2 st := ⟨rw2, f2.cell hmb.er (.cons (.inl (fun h => hmb.gp h.symm)) .nil), hmb.gp, hmb.gr, hmb.pr, hmb.ps, Nat.lt_of_lt_of_le hmb.sl f2.size⟩
  have sc : Slots { cx with ts := ss } e ba q0 a3 := ⟨s3.size, s3.defers, s3.b, g3, s3.v, s3.f, s3.u⟩
  have hkk : Kept m a a3 := (k1.trans (k2.mono (by omega))).trans (k3.mono b2)
  refine h e ba q0 K Q a3 w2 st sc m3 ?_ ⟨z', hz1, d z0, rfl, hz2⟩ ?_ ?_
  · rw [← hzl]; exact f2.there ht
  · rintro a4 w4 x st' hf k4 hrw hfr ⟨z4, hz4, hr4⟩
    simp only [Nat.add_zero] at hfr hz4
    have hF : Fr [⟨e.rb, 0, 2⟩, ⟨ba, q0, q0 + (Ty.st tys).size⟩] w w4 := by
      refine (f2.mono (l' := [⟨e.rb, 0, 2⟩, ⟨ba, q0, q0 + (Ty.st tys).size⟩]) ?_).tr hfr
      intro r hr; simp at hr; subst hr
      exact .inr ⟨⟨ba, q0, q0 + (Ty.st tys).size⟩, by simp, rfl, by simp, by simp [hzl]⟩
    refine hk a4 w4 x st' hf (hkk.trans (k4.mono (by omega))) hrw hF ⟨z4, hz4, Rep.kept (Fr.refl [] w4) (by simp) (fun b hb => hb.mono f2.size (Nat.le_refl _)) hr4⟩
  · intro hf a4 w4 hN4 hd4 hr4 hfr
    simp only [Nat.add_zero] at hfr
    refine hq hf a4 w4 hN4 hd4 hr4 ?_
    refine (f2.mono (l' := [⟨e.rb, 0, 2⟩, ⟨ba, q0, q0 + (Ty.st tys).size⟩]) ?_).tr hfr
    intro r hr; simp at hr; subst hr
    exact .inr ⟨⟨ba, q0, q0 + (Ty.st tys).size⟩, by simp, rfl, by simp, by simp [hzl]⟩

/-- 'a[i] = v' -/
theorem r_setElem {P : Program} {a : Act} {w : World} {K : Act → World → Prop} {Q : Exit → Act → World → Prop} {id n s u v m : Nat} {t1 t2 t3 t4 t5 : TypeId} {p1 p2 p3 p4 p5 : String} {e1 e2 e3 e4 e5 : Array Edge} {T et bs S : Nat} {b o len cap : Nat} {k : IntKind} {i : Int} {x : Value}
    (hT : sliceOf P T et 1 bs = true) (hS : scal P S = true) (hs : get a s = .slice (some ⟨b, o, none⟩) len cap) (hu : get a u = .int k i) (hv : get a v = x) (h1 : x.oneCell' = true) (h0 : 0 ≤ i) (hi : i < len)
    (ht : w.there b (o + i.toNat) 1) (hn : n + 3 < a.tmps.size) (hm : m ≤ n) (hun : u < n) (hvn : v < n)
    (hk : ∀ a', Kept m a a' → K a' (w.setCell ⟨b, o + i.toNat, none⟩ x)) :
    (Code.region id ⟨[⟨some n, .move (.tmp s), t1, p1, e1, none⟩, ⟨some (n + 1), .move (.tmp u), t2, p2, e2, none⟩, ⟨some (n + 2), .move (.tmp v), t3, p3, e3, none⟩, ⟨some (n + 3), .indexAddr T (.tmp n) (.tmp (n + 1)), t4, p4, e4, none⟩,
      ⟨none, .store S (.tmp (n + 3)) (.tmp (n + 2)), t5, p5, e5, none⟩]⟩ false).wp P (Exit.then K Q) a w := by
  refine wp_reg ?_
  rw [wpl_cons, wp_move, eval_tmp, hs, wpl_cons, wp_move, eval_tmp, get_put_ne (by omega), hu, wpl_cons, wp_move, eval_tmp, get_put_ne (by omega), get_put_ne (by omega), hv]
  generalize ha1 : ((a.put (some n) (Value.slice (some ⟨b, o, none⟩) len cap)).put (some (n + 1)) (.int k i)).put (some (n + 2)) x = a1
  have hk1 : Kept m a a1 := by subst ha1; exact ((Kept.put0 hm _).put (by omega) _).put (by omega) _
  have g1 : get a1 n = .slice (some ⟨b, o, none⟩) len cap := by subst ha1; rw [get_put_ne (by omega), get_put_ne (by omega), get_put_same (by omega)]
  have g2 : get a1 (n + 1) = .int k i := by subst ha1; rw [get_put_ne (by omega), get_put_same (by simp only [size_put]; omega)]
  have g3 : get a1 (n + 2) = x := by subst ha1; rw [get_put_same (by simp only [size_put]; omega)]
  have hz := hk1.size
  rw [wpl_cons]
  refine wp_indexAddr (k1 := k) (i := i) hT g1 g2 h0 hi ?_
  rw [wpl_cons]
  rw [Nat.mul_one]
  refine wp_store (v := x) hS (get_put_same (by omega)) (by rw [eval_tmp, get_put_ne (by omega), g3]) h1 ht ?_
  exact hk _ (hk1.put (by omega) _)

/-- An element of one cell. -/
theorem elt_one {P : Program} {ge : Nat} {cx : Cx} {m m' sa si sv n i1 : Nat} {c : Code} {zs : List Value} {ty : Ty} {g : Int → Bool → RSt → V × RSt} {t1 t2 t3 t4 t5 : TypeId} {p1 p2 p3 p4 p5 : String} {e1 e2 e3 e4 e5 : Array Edge} {T et bs S : Nat}
    (h : Asg P ge cx m' c sv ty g) (hT : sliceOf P T et 1 bs = true) (hS : scal P S = true) (ho : ty.one = true)
    (hb : (decide (m ≤ m') && decide (sa < m') && decide (si < m') && decide (sv < n) && decide (m' ≤ n) && decide (n + 3 < cx.N) && cx.below m') = true) :
    Elt P ge cx m (.seq c (Code.region i1 ⟨[⟨some n, .move (.tmp sa), t1, p1, e1, none⟩, ⟨some (n + 1), .move (.tmp si), t2, p2, e2, none⟩, ⟨some (n + 2), .move (.tmp sv), t3, p3, e3, none⟩, ⟨some (n + 3), .indexAddr T (.tmp n) (.tmp (n + 1)), t4, p4, e4, none⟩,
      ⟨none, .store S (.tmp (n + 3)) (.tmp (n + 2)), t5, p5, e5, none⟩]⟩ false)) sa si zs ty (rdOne g) := by
  intro e pb po K Q a w st ba bo len cap i hs hm hmb hsa hsi hi ht hzs hk hq
  simp only [Bool.and_eq_true, decide_eq_true_eq] at hb
  obtain ⟨⟨⟨⟨⟨⟨b1, b2⟩, b3⟩, b4⟩, b5⟩, b6⟩, b7⟩ := hb
  have h1 := Ty.one_size ho
  simp only [h1, Nat.mul_one] at *
  refine wp_seq_k fun K1 hK1 => ?_
  refine h e pb po K1 _ a w st hs hm ?_
  intro a1 w1 x k1 hg hr hrw hfr
  refine hK1 a1 w1 ?_
  have s1 := hs.kept b7 k1
  have hN1 := s1.size
  have ht1 := hfr.there ht
  have hbw : ba < w.heap.size := there_lt ht (by omega)
  refine r_setElem (m := m) (k := .i32) (i := i) hT hS ((k1.get sa b2).trans hsa) ((k1.get si b3).trans hsi) hg (hr.oneCell ho) (by omega) (by omega) (by simpa using ht1) (by omega) (by omega) (by omega) b4 ?_
  intro a2 k2
  rw [Int.toNat_natCast]
  have f2 := Fr.set w1 ba (bo + i) x
  have f3 : Fr [⟨e.rb, 0, 2⟩, ⟨ba, bo + i, bo + i + 1⟩] w (w1.setCell ⟨ba, bo + i, none⟩ x) := by
    refine (hfr.mono (l' := [⟨e.rb, 0, 2⟩, ⟨ba, bo + i, bo + i + 1⟩]) ?_).trans f2 ?_
    · intro r hr; simp at hr; subst hr; exact .inr ⟨_, by simp, rfl, by simp, by simp⟩
    · intro r hr; simp at hr; subst hr; exact .inr ⟨⟨ba, bo + i, bo + i + 1⟩, by simp, rfl, by simp, by simp⟩
  refine hk a2 _ _ _ rfl ((k1.mono b1).trans k2) (hrw.kept f2 (by intro r hr; simp at hr; subst hr; exact ⟨hmb.pr, hmb.ps⟩)) f3 ⟨[x], range_one.2 (range_set ht1), ?_⟩
  refine hr.kept f2 (l := [⟨ba, bo + i, bo + i + 1⟩]) ?_ (fun b hb => hb.mono (Nat.le_refl _) f2.size)
  intro r hr hF
  simp at hr
  subst hr
  rcases hF with hF | ⟨hF, _⟩
  · exact hmb.ps hF
  · simp at hF; omega

/-- An element's slot is declared ahead: 'var v T'. -/
theorem elt_var {P : Program} {ge : Nat} {cx : Cx} {m sa si sv i1 : Nat} {x : Value} {t1 : TypeId} {p1 : String} {e1 : Array Edge} {c : Code} {zs : List Value} {ty : Ty} {f : Rd}
    (h : Elt P ge cx m c sa si zs ty f) (hb : (decide (m ≤ sv) && decide (sv < cx.N) && decide (sa < m) && decide (si < m) && cx.below m) = true) :
    Elt P ge cx m (.seq (Code.region i1 ⟨[⟨some sv, .assign (.const x), t1, p1, e1, none⟩]⟩ false) c) sa si zs ty f := by
  intro e pb po K Q a w st ba bo len cap i hs hm hmb hsa hsi hi ht hzs hk hq
  simp only [Bool.and_eq_true, decide_eq_true_eq] at hb
  obtain ⟨⟨⟨⟨b1, b2⟩, b3⟩, b4⟩, b5⟩ := hb
  have hN := hs.size
  refine wp_seq_k fun K1 hK1 => ?_
  refine r_const (m := m) (by omega) b1 fun a1 k1 _ => hK1 a1 w ?_
  exact h e pb po K Q a1 w st ba bo len cap i (hs.kept b5 k1) hm hmb ((k1.get _ b3).trans hsa) ((k1.get _ b4).trans hsi) hi ht hzs (fun a' w' x st' hf k2 => hk a' w' x st' hf (k1.trans k2)) hq


def rdArr (len : Int → Bool → RSt → V × RSt) (f : Rd) : Rd := fun ver fl st =>
  match len ver fl st with
  | (.n l, s) => if s.bad then none else if 0 < l then (match rdMany f ver fl l.toNat s with
    | none => none
    | some (xs, s) => some (.l xs, s)) else some (.nil, s)
  | _ => none

/-- The reader has gone bad: 'if !b.Ok() { return b.Complete() }' -/
theorem r_okOrOut {P : Program} {ge : Nat} {cx : Cx} {fo fc : FuncId} {m n n' i1 i2 : Nat} {T : TypeId} {t1 t2 t3 t4 : TypeId} {p1 p2 p3 p4 : String} {e1 e2 e3 e4 : Array Edge} {a1 a2 : Array TypeId}
    (ho : OkM P fo) (hc : CompleteM P ge fc) {e : Env} {pb po : Nat} {K : Act → World → Prop} {Q : Exit → Act → World → Prop} {a : Act} {w : World} {st : RSt}
    (hs : Slots cx e pb po a) (hm : Mem e pb po ge w st) (hn : n + 1 < cx.N) (hn' : n' < cx.N) (hmn : m ≤ n) (hb : cx.below m = true)
    (hk : st.bad = false → ∀ a', Kept m a a' → K a' w) (hq : st.bad = true → ∀ a', a'.tmps.size = cx.N → a'.defers = [] → get a' cx.tr = e.er → Q .ret a' w) :
    (Code.seq (Code.region i1 ⟨[⟨some n, .call ⟨.value (.func fo), #[.tmp cx.tb], a1⟩, t1, p1, e1, none⟩, ⟨some (n + 1), .unOp .not T (.tmp n), t2, p2, e2, none⟩]⟩ false)
      (.cond (.tmp (n + 1)) (.seq (Code.region i2 ⟨[⟨some n', .call ⟨.value (.func fc), #[.tmp cx.tb], a2⟩, t3, p3, e3, none⟩, ⟨some cx.tr, .assign (.tmp n'), t4, p4, e4, none⟩]⟩ false) .ret) .skip)).wp P (Exit.then K Q) a w := by
  have hN := hs.size
  have hbl := Cx.below_spec hb
  refine wp_seq_k fun K1 hK1 => ?_
  refine r_callNot (m := m) ho.enters hs.b (ho.call w e.rb e.sb st hm.rw) (by omega) hmn fun a1 k1 g1 => hK1 a1 w ?_
  rw [Bool.not_not] at g1
  have s1 := hs.kept hb k1
  have hN1 := s1.size
  refine wp_cond_split (t := st.bad) (by rw [eval_tmp, g1]) ?_ ?_
  · intro hbad
    refine wp_seq_k fun K2 hK2 => ?_
    refine r_call (m := 0) (R := fun x w' => x = e.er ∧ w' = w) hc.enters s1.b ((hc.call w e.rb e.sb st e.er hm.rw hm.er).mono (by rintro e' w' ⟨h1, h2⟩; exact ⟨_, h1, by rw [hbad]; rfl, h2⟩)) (by omega) (by omega) (by omega) (by omega) ?_
    rintro a2 x w' ⟨rfl, rfl⟩ k2 g2
    refine hK2 a2 w' (wp_ret ?_)
    exact hq hbad a2 (by rw [k2.size, hN1]) (by rw [k2.defers, s1.defers]) g2
  · intro hbad
    exact wp_skip (hk hbad a1 k1)

/-- A list behind its length: read, laid in. -/
theorem arr_tail {P : Program} {ge : Nat} {cx : Cx} {fo fc : FuncId} {m m' sv sa sl si nl nc nk nr ns ng na n n' nb nt o k S Tl T it e0 bs : Nat} {i5 i6 i7 i8 i9 i10 i11 i12 i13 i14 id id1 : Nat} {c : Code} {zs : List Value} {et : Ty} {f : Rd}
    {t9 t10 t11 t12 t13 t14 t15 t16 t17 t18 t19 t20 t21 t22 t23 t25 t26 t27 t28 t29 t30 t31 t32 t33 t34 t35 t36 t37 t38 t39 t40 t41 t42 t43 : TypeId}
    {p9 p11 p12 p13 p14 p15 p16 p18 p21 p22 p23 p24 p25 p26 p27 p28 p31 p32 p35 p36 p37 p38 p39 p40 p41 p42 p43 : String}
    {e9 e11 e12 e13 e14 e15 e16 e18 e21 e22 e23 e24 e25 e26 e27 e28 e31 e32 e35 e36 e37 e38 e39 e40 e41 e42 e43 : Array Edge} {a1 a2 : Array TypeId}
    (ho : OkM P fo) (hc : CompleteM P ge fc) (h : Elt P ge cx m' c sa si zs et f)
    (hT : sliceOf P T e0 et.size bs = true) (hbs : bs ≤ 65536) (hTl : scal P Tl = true) (hF : fieldOf P S k o = true) (hit : intOf P it .i32 = true) (hz : zeroIs P e0 zs) (hzl : zs.length = et.size) (htt : t17 = T)
    (hb : (decide (m ≤ sv) && decide (sv < sa) && decide (sa < sl) && decide (sl < si) && decide (si < m') && decide (m' ≤ nl) && decide (nl + 3 < cx.N) && decide (m' ≤ nc) && decide (nc < cx.N) && decide (m' ≤ nk) && decide (nk + 1 < cx.N) && decide (m' ≤ nr) && decide (nr < cx.N) &&
      decide (m' ≤ ns) && decide (ns + 1 < cx.N) && decide (m' ≤ ng) && decide (ng + 1 < cx.N) && decide (m' ≤ na) && decide (na + 2 < cx.N) && decide (m' ≤ n) && decide (n + 2 < cx.N) && decide (m' ≤ n') && decide (n' + 1 < cx.N) && decide (m' ≤ nb) && decide (nb < cx.N) && decide (m' ≤ nt) && decide (nt + 3 < cx.N) && cx.below m && decide (m' ≤ cx.N)) = true)
    {e : Env} {pb po : Nat} {K : Act → World → Prop} {Q : Exit → Act → World → Prop} {a a4 : Act} {w w4 : World} {q : Option Addr} {l : Int} {s : RSt} {st0 : RSt}
    (hm : Mem e pb po ge w st0) (ht : w.there pb (po + o) 1) (hkk4 : Kept m a a4) (s4 : Slots cx e pb po a4) (m4 : Mem e pb po ge w4 s) (ga4 : get a4 sa = .slice q 0 0) (g4 : get a4 sl = .int .i32 l) (hl1 : -2147483648 ≤ l) (hl2 : l ≤ 2147483647) (f4 : Fr [⟨e.rb, 0, 2⟩] w w4)
    (hqa : ∀ y, q = some y → ∃ b, y = ⟨b, 0, none⟩ ∧ w.heap.size ≤ b ∧ b < w4.heap.size)
    (hk : ∀ a' w' x st', (s.bad = false ∧ ((0 < l ∧ ∃ xs, rdMany f e.ver e.flex l.toNat s = some (xs, st') ∧ x = .l xs) ∨ (¬ 0 < l ∧ st' = s ∧ x = if q.isNone then .nil else .l []))) → Kept m a a' → RW w' e.rb e.sb st' → Fr [⟨e.rb, 0, 2⟩, ⟨pb, po + o, po + o + 1⟩] w w' → (∃ z, w'.rangeAt pb (po + o) z ∧ Rep w' (Foot e.sb w.heap.size w'.heap.size) (.arr et) z x) → K a' w')
    (hq : (s.bad = true ∨ (s.bad = false ∧ 0 < l ∧ rdMany f e.ver e.flex l.toNat s = none)) → ∀ a' w', a'.tmps.size = cx.N → a'.defers = [] → get a' cx.tr = e.er → Fr [⟨e.rb, 0, 2⟩, ⟨pb, po + o, po + o + 1⟩] w w' → Q .ret a' w') :
    (Code.seq (.seq (Code.region i5 ⟨[⟨some nk, .call ⟨.value (.func fo), #[.tmp cx.tb], a1⟩, t9, p9, e9, none⟩, ⟨some (nk + 1), .unOp .not t10 (.tmp nk), t11, p11, e11, none⟩]⟩ false)
        (.cond (.tmp (nk + 1)) (.seq (Code.region i6 ⟨[⟨some nr, .call ⟨.value (.func fc), #[.tmp cx.tb], a2⟩, t12, p12, e12, none⟩, ⟨some cx.tr, .assign (.tmp nr), t13, p13, e13, none⟩]⟩ false) .ret) .skip))
      (.seq (Code.region i7 ⟨[⟨some ns, .move (.tmp sa), t14, p14, e14, none⟩, ⟨some (ns + 1), .slice T (.tmp ns) none (some (.const (.int .i64 0))) none, t15, p15, e15, none⟩, ⟨some sa, .assign (.tmp (ns + 1)), t16, p16, e16, none⟩]⟩ false)
      (.seq (.seq (Code.region i8 ⟨[⟨some ng, .move (.tmp sl), t18, p18, e18, none⟩, ⟨some (ng + 1), .binOp .gtr t19 (.tmp ng) (.const (.int .i32 0)) t20, t21, p21, e21, none⟩]⟩ false)
        (.cond (.tmp (ng + 1)) (Code.region i9 ⟨[⟨some na, .move (.tmp sa), t22, p22, e22, none⟩, ⟨some (na + 1), .move (.tmp sl), t23, p23, e23, none⟩, ⟨some (na + 2), .call ⟨.builtin .append, #[.tmp na, .tmp (na + 1)], #[T, it]⟩, t17, p24, e24, none⟩, ⟨some sa, .assign (.tmp (na + 2)), t25, p25, e25, none⟩]⟩ false) .skip))
      (.seq (Code.seq (Code.region i10 ⟨[⟨some si, .assign (.const (.int .i32 0)), t26, p26, e26, none⟩]⟩ false)
        (.block id (.loop (.seq (.seq (Code.region i11 ⟨[⟨some n, .move (.tmp si), t27, p27, e27, none⟩, ⟨some (n + 1), .move (.tmp sl), t28, p28, e28, none⟩, ⟨some (n + 2), .binOp .lss t29 (.tmp n) (.tmp (n + 1)) t30, t31, p31, e31, none⟩]⟩ false)
          (.cond (.tmp (n + 2)) .skip (.exit id)))
          (.seq (.block id1 c) (Code.region i12 ⟨[⟨some n', .move (.tmp si), t32, p32, e32, none⟩, ⟨some (n' + 1), .binOp .add t33 (.tmp n') (.const (.int .i32 1)) t34, t35, p35, e35, none⟩, ⟨some si, .assign (.tmp (n' + 1)), t36, p36, e36, none⟩]⟩ false))))))
      (.seq (Code.region i13 ⟨[⟨some nb, .move (.tmp sa), t37, p37, e37, none⟩, ⟨some sv, .assign (.tmp nb), t38, p38, e38, none⟩]⟩ false)
        (Code.region i14 ⟨[⟨some nt, .move (.tmp cx.ts), t39, p39, e39, none⟩, ⟨some (nt + 1), .move (.tmp sv), t40, p40, e40, none⟩, ⟨some (nt + 2), .nilCheck (.tmp nt), t41, p41, e41, none⟩, ⟨some (nt + 3), .fieldAddr S (.tmp (nt + 2)) k, t42, p42, e42, none⟩, ⟨none, .store Tl (.tmp (nt + 3)) (.tmp (nt + 1)), t43, p43, e43, none⟩]⟩ false)))))).wp P (Exit.then K Q) a4 w4 := by
  subst htt
  simp only [Bool.and_eq_true, decide_eq_true_eq] at hb
  obtain ⟨⟨⟨⟨⟨⟨⟨⟨⟨⟨⟨⟨⟨⟨⟨⟨⟨⟨⟨⟨⟨⟨⟨⟨⟨⟨⟨⟨b1, b2⟩, b3⟩, b4⟩, b5⟩, b6⟩, b7⟩, b8⟩, b9⟩, b10⟩, b11⟩, b12⟩, b13⟩, b14⟩, b15⟩, b16⟩, b17⟩, b18⟩, b19⟩, b20⟩, b21⟩, b22⟩, b23⟩, b24⟩, b25⟩, b26⟩, b27⟩, b28⟩, b29⟩ := hb
  have hbl := Cx.below_spec b28
  have hlow : ∀ x, m ≤ x → x ≤ m' → cx.below x = true := by
    intro x h1 h2
    obtain ⟨g1, g2, g3, g4, g5, g6, g7⟩ := hbl
    simp only [Cx.below, Bool.and_eq_true, decide_eq_true_eq]
    refine ⟨⟨⟨⟨⟨⟨by omega, by omega⟩, by omega⟩, ?_⟩, by omega⟩, by omega⟩, by omega⟩
    cases hf : cx.tf with
    | none => rfl
    | some u => have := g4 u hf; simp; omega
  have hsz1 : (Ty.arr et).size = 1 := rfl
  have hpb : pb < w.heap.size := there_lt ht (by omega)
  have hN4 := s4.size
  have rw4 := m4.rw
  have f4' : Fr [⟨e.rb, 0, 2⟩, ⟨pb, po + o, po + o + 1⟩] w w4 := f4.mono (by intro r hr; simp at hr; subst hr; exact .inr ⟨_, by simp, rfl, by simp, by simp⟩)
  -- if !b.Ok()
  refine wp_seq_k fun K5 hK5 => ?_
  refine r_okOrOut (m := m') ho hc s4 m4 (by omega) (by omega) (by omega) (hlow m' (by omega) (by omega)) ?_ ?_
  case refine_2 =>
    intro hbad a5 hN5 hd5 hr5
    exact hq (.inl hbad) a5 w4 hN5 hd5 hr5 f4'
  intro hbad a5 k5
  refine hK5 a5 w4 ?_
  have s5 := s4.kept (hlow m' (by omega) (by omega)) k5
  have hN5 := s5.size
  -- a = a[:0]
  refine wp_seq_k fun K6 hK6 => ?_
  refine r_slice0 (m := sa) hT ((k5.get sa (by omega)).trans ga4) (by omega) (by omega) (by omega) (Nat.le_refl _) fun a6 k6 g6 x6 => hK6 a6 w4 ?_
  have s6 := s5.kept (hlow sa (by omega) (by omega)) k6
  have hN6 := s6.size
  have gl6 : get a6 sl = .int .i32 l := by rw [x6 sl (by omega) (by omega), k5.get sl (by omega), g4]
  have hkk6 : Kept m a a6 := (hkk4.trans (k5.mono (by omega))).trans (k6.mono (by omega))
  -- if l > 0
  refine wp_seq_k fun K7 hK7 => ?_
  refine wp_seq_k fun K8 hK8 => ?_
  refine r_cmp (m := m') (op := .gtr) (r := decide (l > 0)) (by omega) (by omega) gl6 rfl fun a7 k7 g7 => hK8 a7 w4 ?_
  have s7 := s6.kept (hlow m' (by omega) (by omega)) k7
  have hN7 := s7.size
  have ga7 := (k7.get sa (by omega)).trans g6
  have gl7 := (k7.get sl (by omega)).trans gl6
  have hl32 : l ≤ 2147483647 := hl2
  -- what is done behind the list's making: the loop, and the store
  have rest : ∀ (a8 : Act) (w8 : World) (L ba cap : Nat) (slv : Value), L = l.toNat → (0 < L → slv = .slice (some ⟨ba, 0, none⟩) L cap) → (L = 0 → slv = .slice q 0 0) → L ≤ cap → Kept m a a8 → Slots cx e pb po a8 → get a8 sa = slv → get a8 sl = .int .i32 l →
      Fr [] w4 w8 → (0 < L → w4.heap.size ≤ ba ∧ ba < w8.heap.size) → (0 < L → w8.rangeAt ba 0 (zeros zs L)) → (0 < L → w8.there ba 0 (L * zs.length)) → K7 a8 w8 := by
    intro a8 w8 L ba cap slv hL hsv hsv0 hcap k8 s8 ga8 gl8 f8 hba hzr8 htr8
    refine hK7 a8 w8 ?_
    have m8 : Mem e pb po ge w8 s := m4.kept f8 (by simp) (m4.rw.kept f8 (by simp))
    have hgew : ge < w4.heap.size := lt_of_cell m4.er
    have hrbw : e.rb < w4.heap.size := lt_of_cell (range_cons.1 m4.rw.2.2.choose_spec.1).1
    refine wp_seq_k fun K9 hK9 => ?_
    refine loop_elts (m := m) (m' := m') (ws := w4) (L := L) (ba := ba) (cap := cap) (slv := slv) h ?_ (by omega) (by omega) s8 m8 hL (by omega) gl8 ga8 hsv ?_ hba ?_ ?_ (Fr.nil f8) ?_ ?_
    · simp only [Bool.and_eq_true, decide_eq_true_eq]
      exact ⟨⟨⟨⟨⟨⟨⟨⟨⟨⟨⟨by omega, by omega⟩, by omega⟩, by omega⟩, by omega⟩, by omega⟩, by omega⟩, by omega⟩, by omega⟩, by omega⟩, b28⟩, hlow m' (by omega) (by omega)⟩
    · intro h0
      refine ⟨m8.rw, m8.er, ?_, m8.gr, ?_, ?_, m8.sl⟩
      · have := hba h0; omega
      · have := hba h0; omega
      · have := hba h0; have := m4.sl; omega
    · intro h0; rw [← hzl]; exact htr8 h0
    · intro h0 i hi; rw [← hzl]; exact zeros_part (hzr8 h0) i hi
    · intro a9 w9 xs st' hmany k9 g9 rw9 f9 z9 hd9
      refine hK9 a9 w9 ?_
      have s9 := s8.kept b28 k9
      have hN9 := s9.size
      -- v = a; s.F = v
      refine wp_seq_k fun K10 hK10 => ?_
      refine r_copy (m := sv) (by omega) (by omega) (by omega) (Nat.le_refl _) fun a10 k10 g10 => hK10 a10 w9 ?_
      rw [g9] at g10
      have s10 := s9.kept (hlow sv (by omega) (by omega)) k10
      have f49 : Fr [⟨e.rb, 0, 2⟩, ⟨pb, po + o, po + o + 1⟩] w w9 := f4'.trans f9 (by intro r hr; simp at hr; subst hr; exact .inr ⟨_, by simp, rfl, by simp, by simp⟩)
      have ht9 := f49.there ht
      have h1c : slv.oneCell' = true := by
        rcases Nat.eq_zero_or_pos L with h0 | h0
        · rw [hsv0 h0]; rfl
        · rw [hsv h0]; rfl
      refine r_store (m := m) (x := slv) s10.s g10 h1c hTl hF ht9 (by omega) (by omega) (by rw [s10.size]; omega) (by omega) ?_
      intro a11 k11
      have f11 := Fr.set w9 pb (po + o) slv
      have hF11 : Fr [⟨e.rb, 0, 2⟩, ⟨pb, po + o, po + o + 1⟩] w (w9.setCell ⟨pb, po + o, none⟩ slv) := f49.trans f11 (by intro r hr; simp at hr; subst hr; exact .inr ⟨⟨pb, po + o, po + o + 1⟩, by simp, rfl, by simp, by simp⟩)
      have hrw11 : RW (w9.setCell ⟨pb, po + o, none⟩ slv) e.rb e.sb st' := rw9.kept f11 (by intro r hr; simp at hr; subst hr; exact ⟨hm.pr, hm.ps⟩)
      have hkk : Kept m a a11 := ((k8.trans k9).trans (k10.mono b1)).trans k11
      rcases Nat.eq_zero_or_pos L with h0 | h0
      · have hl0 : ¬ (0 < l) := by omega
        have hst : st' = s := by rw [h0] at hmany; simp [rdMany] at hmany; exact hmany.2.symm
        subst hst
        refine hk a11 _ (if q.isNone then .nil else .l []) st' ⟨hbad, .inr ⟨hl0, rfl, rfl⟩⟩ hkk hrw11 hF11 ⟨[slv], range_one.2 (range_set ht9), ?_⟩
        have hsz11 : w4.heap.size ≤ (w9.setCell ⟨pb, po + o, none⟩ slv).heap.size := by have := f8.size; have := f9.size; have := f11.size; omega
        rw [hsv0 h0] at hsz11 ⊢
        cases hqq : q with
        | none => exact .inl ⟨rfl, rfl⟩
        | some y =>
          obtain ⟨b, rfl, hb1, hb2⟩ := hqa y hqq
          exact .inr ⟨b, 0, 0, [], .inr ⟨hb1, by rw [hqq] at hsz11; omega⟩, rfl, ⟨by simp, by simp⟩, rfl, by simp⟩
      · have hl0 : 0 < l := by omega
        have hlen := rdMany_length _ _ _ _ _ _ _ hmany
        refine hk a11 _ (.l xs) st' ?_ hkk hrw11 hF11 ⟨[slv], range_one.2 (range_set ht9), ?_⟩
        · rw [hL] at hmany
          exact ⟨hbad, .inl ⟨hl0, xs, hmany, rfl⟩⟩
        · have hbah := hba h0
          have hpba : pb ≠ ba := by have := f4.size; omega
          refine .inr ⟨ba, 0, cap, xs, .inr ⟨by have := f4.size; omega, ?_⟩, by rw [hsv h0, hlen], ⟨by omega, by omega⟩, rfl, ?_⟩
          · have := f9.size
            have := f11.size
            omega
          · intro i y hy
            obtain ⟨zi, hzi, hri⟩ := hd9 i y hy
            refine ⟨zi, ?_, hri.length, ?_⟩
            · rw [Nat.zero_add]; exact f11.range hzi (.cons (.inl hpba) .nil)
            · refine Rep.kept f11 ?_ (fun b hb => hb.mono (by have := f4.size; have := f8.size; omega) f11.size) hri
              intro r hr hFt
              simp at hr; subst hr
              rcases hFt with hFt | ⟨hFt, _⟩
              · exact hm.ps hFt
              · simp at hFt; have := f4.size; have := f8.size; omega
    · intro hmany a9 w9 hN9 hd9 hr9 f9
      have hl0 : 0 < l := by
        rcases Nat.eq_zero_or_pos L with h0 | h0
        · rw [h0] at hmany; simp [rdMany] at hmany
        · omega
      refine hq (.inr ⟨hbad, hl0, ?_⟩) a9 w9 hN9 hd9 hr9 (f4'.trans f9 (by intro r hr; simp at hr; subst hr; exact .inr ⟨_, by simp, rfl, by simp, by simp⟩))
      rw [hL] at hmany
      exact hmany
  refine wp_cond_split (t := decide (l > 0)) (by rw [eval_tmp, g7]) ?_ ?_
  · intro hpos
    have hpos : 0 < l := by simpa using hpos
    obtain ⟨L, rfl⟩ : ∃ L : Nat, l = L := ⟨l.toNat, by omega⟩
    have hLb : L * bs ≤ 140737488355328 := by
      have h1 : L * bs ≤ L * 65536 := Nat.mul_le_mul_left _ hbs
      omega
    refine r_appendMake (m := sa) (l := L) hT hit hz (by omega) hLb (by omega) ga7 gl7 (by omega) (by omega) (by omega) (by omega) (Nat.le_refl _) rfl ?_
    intro a8 w8 ba cap k8 g8 hcap hb1 hb2 hz8 ht8 f8 x8
    have s8 := s7.kept (hlow sa (by omega) (by omega)) k8
    exact rest a8 w8 L ba cap _ (by simp) (fun _ => rfl) (fun h0 => by omega) hcap ((hkk6.trans (k7.mono (by omega))).trans (k8.mono (by omega))) s8 g8 ((x8 sl (by omega) (by omega)).trans gl7) f8 (fun _ => ⟨hb1, hb2⟩) (fun _ => hz8) (fun _ => ht8)
  · intro hneg
    have hneg : ¬ (0 < l) := by simpa using hneg
    refine wp_skip ?_
    exact rest a7 w4 0 0 0 _ (by omega) (fun h0 => by omega) (fun _ => rfl) (Nat.le_refl _) (hkk6.trans (k7.mono (by omega))) s7 ga7 gl7 (Fr.refl _ _) (fun h0 => by omega) (fun h0 => by omega) (fun h0 => by omega)

theorem fld_arr {P : Program} {ge : Nat} {cx : Cx} {fo fc : FuncId} {m m' sv sa sl si nl nc nk nr ns ng na n n' nb nt o k S Tl T it e0 bs : Nat} {i1 i2 i3 i5 i6 i7 i8 i9 i10 i11 i12 i13 i14 id id1 : Nat} {cl c : Code} {zs : List Value} {et : Ty} {len : Int → Bool → RSt → V × RSt} {f : Rd}
    {t1 t2 t3 t4 t5 t6 t7 t8 t9 t10 t11 t12 t13 t14 t15 t16 t17 t18 t19 t20 t21 t22 t23 t25 t26 t27 t28 t29 t30 t31 t32 t33 t34 t35 t36 t37 t38 t39 t40 t41 t42 t43 : TypeId}
    {p1 p2 p3 p4 p5 p6 p7 p8 p9 p11 p12 p13 p14 p15 p16 p18 p21 p22 p23 p24 p25 p26 p27 p28 p31 p32 p35 p36 p37 p38 p39 p40 p41 p42 p43 : String}
    {e1 e2 e3 e4 e5 e6 e7 e8 e9 e11 e12 e13 e14 e15 e16 e18 e21 e22 e23 e24 e25 e26 e27 e28 e31 e32 e35 e36 e37 e38 e39 e40 e41 e42 e43 : Array Edge} {x0 : Value} {a1 a2 : Array TypeId}
    (ho : OkM P fo) (hc : CompleteM P ge fc) (hlen : Asg P ge cx sl cl sl (.int .i32) len) (h : Elt P ge cx m' c sa si zs et f)
    (hT : sliceOf P T e0 et.size bs = true) (hbs : bs ≤ 65536) (hTl : scal P Tl = true) (hF : fieldOf P S k o = true) (hit : intOf P it .i32 = true) (hz : zeroIs P e0 zs) (hzl : zs.length = et.size) (htt : t17 = T)
    (hb : (decide (m ≤ sv) && decide (sv < sa) && decide (sa < sl) && decide (sl < si) && decide (si < m') && decide (m' ≤ nl) && decide (nl + 3 < cx.N) && decide (m' ≤ nc) && decide (nc < cx.N) && decide (m' ≤ nk) && decide (nk + 1 < cx.N) && decide (m' ≤ nr) && decide (nr < cx.N) &&
      decide (m' ≤ ns) && decide (ns + 1 < cx.N) && decide (m' ≤ ng) && decide (ng + 1 < cx.N) && decide (m' ≤ na) && decide (na + 2 < cx.N) && decide (m' ≤ n) && decide (n + 2 < cx.N) && decide (m' ≤ n') && decide (n' + 1 < cx.N) && decide (m' ≤ nb) && decide (nb < cx.N) && decide (m' ≤ nt) && decide (nt + 3 < cx.N) && cx.below m && decide (m' ≤ cx.N)) = true) :
    Fld P ge cx m
      (.seq (Code.region i1 ⟨[⟨some nl, .move (.tmp cx.ts), t1, p1, e1, none⟩, ⟨some (nl + 1), .nilCheck (.tmp nl), t2, p2, e2, none⟩, ⟨some (nl + 2), .fieldAddr S (.tmp (nl + 1)) k, t3, p3, e3, none⟩, ⟨some (nl + 3), .load Tl (.tmp (nl + 2)), t4, p4, e4, none⟩, ⟨some sv, .assign (.tmp (nl + 3)), t5, p5, e5, none⟩]⟩ false)
      (.seq (Code.region i2 ⟨[⟨some nc, .move (.tmp sv), t6, p6, e6, none⟩, ⟨some sa, .assign (.tmp nc), t7, p7, e7, none⟩]⟩ false)
      (.seq (Code.region i3 ⟨[⟨some sl, .assign (.const x0), t8, p8, e8, none⟩]⟩ false)
      (.seq cl
      (.seq (.seq (Code.region i5 ⟨[⟨some nk, .call ⟨.value (.func fo), #[.tmp cx.tb], a1⟩, t9, p9, e9, none⟩, ⟨some (nk + 1), .unOp .not t10 (.tmp nk), t11, p11, e11, none⟩]⟩ false)
        (.cond (.tmp (nk + 1)) (.seq (Code.region i6 ⟨[⟨some nr, .call ⟨.value (.func fc), #[.tmp cx.tb], a2⟩, t12, p12, e12, none⟩, ⟨some cx.tr, .assign (.tmp nr), t13, p13, e13, none⟩]⟩ false) .ret) .skip))
      (.seq (Code.region i7 ⟨[⟨some ns, .move (.tmp sa), t14, p14, e14, none⟩, ⟨some (ns + 1), .slice T (.tmp ns) none (some (.const (.int .i64 0))) none, t15, p15, e15, none⟩, ⟨some sa, .assign (.tmp (ns + 1)), t16, p16, e16, none⟩]⟩ false)
      (.seq (.seq (Code.region i8 ⟨[⟨some ng, .move (.tmp sl), t18, p18, e18, none⟩, ⟨some (ng + 1), .binOp .gtr t19 (.tmp ng) (.const (.int .i32 0)) t20, t21, p21, e21, none⟩]⟩ false)
        (.cond (.tmp (ng + 1)) (Code.region i9 ⟨[⟨some na, .move (.tmp sa), t22, p22, e22, none⟩, ⟨some (na + 1), .move (.tmp sl), t23, p23, e23, none⟩, ⟨some (na + 2), .call ⟨.builtin .append, #[.tmp na, .tmp (na + 1)], #[T, it]⟩, t17, p24, e24, none⟩, ⟨some sa, .assign (.tmp (na + 2)), t25, p25, e25, none⟩]⟩ false) .skip))
      (.seq (Code.seq (Code.region i10 ⟨[⟨some si, .assign (.const (.int .i32 0)), t26, p26, e26, none⟩]⟩ false)
        (.block id (.loop (.seq (.seq (Code.region i11 ⟨[⟨some n, .move (.tmp si), t27, p27, e27, none⟩, ⟨some (n + 1), .move (.tmp sl), t28, p28, e28, none⟩, ⟨some (n + 2), .binOp .lss t29 (.tmp n) (.tmp (n + 1)) t30, t31, p31, e31, none⟩]⟩ false)
          (.cond (.tmp (n + 2)) .skip (.exit id)))
          (.seq (.block id1 c) (Code.region i12 ⟨[⟨some n', .move (.tmp si), t32, p32, e32, none⟩, ⟨some (n' + 1), .binOp .add t33 (.tmp n') (.const (.int .i32 1)) t34, t35, p35, e35, none⟩, ⟨some si, .assign (.tmp (n' + 1)), t36, p36, e36, none⟩]⟩ false))))))
      (.seq (Code.region i13 ⟨[⟨some nb, .move (.tmp sa), t37, p37, e37, none⟩, ⟨some sv, .assign (.tmp nb), t38, p38, e38, none⟩]⟩ false)
        (Code.region i14 ⟨[⟨some nt, .move (.tmp cx.ts), t39, p39, e39, none⟩, ⟨some (nt + 1), .move (.tmp sv), t40, p40, e40, none⟩, ⟨some (nt + 2), .nilCheck (.tmp nt), t41, p41, e41, none⟩, ⟨some (nt + 3), .fieldAddr S (.tmp (nt + 2)) k, t42, p42, e42, none⟩, ⟨none, .store Tl (.tmp (nt + 3)) (.tmp (nt + 1)), t43, p43, e43, none⟩]⟩ false))))))))))
      o (.arr et) .nil (rdArr len f) := by
  subst htt
  intro e pb po K Q a w st hs hm ht hzr hk hq
  have hb0 := hb
  simp only [Bool.and_eq_true, decide_eq_true_eq] at hb
  obtain ⟨⟨⟨⟨⟨⟨⟨⟨⟨⟨⟨⟨⟨⟨⟨⟨⟨⟨⟨⟨⟨⟨⟨⟨⟨⟨⟨⟨b1, b2⟩, b3⟩, b4⟩, b5⟩, b6⟩, b7⟩, b8⟩, b9⟩, b10⟩, b11⟩, b12⟩, b13⟩, b14⟩, b15⟩, b16⟩, b17⟩, b18⟩, b19⟩, b20⟩, b21⟩, b22⟩, b23⟩, b24⟩, b25⟩, b26⟩, b27⟩, b28⟩, b29⟩ := hb
  have hN := hs.size
  have hbl := Cx.below_spec b28
  have hlow : ∀ x, m ≤ x → x ≤ m' → cx.below x = true := by
    intro x h1 h2
    obtain ⟨g1, g2, g3, g4, g5, g6, g7⟩ := hbl
    simp only [Cx.below, Bool.and_eq_true, decide_eq_true_eq]
    refine ⟨⟨⟨⟨⟨⟨by omega, by omega⟩, by omega⟩, ?_⟩, by omega⟩, by omega⟩, by omega⟩
    cases hf : cx.tf with
    | none => rfl
    | some u => have := g4 u hf; simp; omega
  have hsz1 : (Ty.arr et).size = 1 := rfl
  simp only [hsz1] at ht hk hq
  have hpb : pb < w.heap.size := there_lt ht (by omega)
  obtain ⟨z, hz1, hz2⟩ := hzr
  have hcell : w.cell? ⟨pb, po + o, none⟩ = some (.slice none 0 0) := by
    rcases hz2 with ⟨rfl, _⟩ | ⟨_, _, _, _, _, _, _, h4, _⟩
    · exact range_one.1 hz1
    · exact absurd h4 (by simp)
  -- v := s.F
  refine wp_seq_k fun K1 hK1 => ?_
  refine r_load (m := sv) hs.s hTl hF hcell (by omega) (by omega) (by omega) (by omega) (Nat.le_refl _) fun a1 k1 g1 => hK1 a1 w ?_
  have s1 := hs.kept (hlow sv (by omega) (by omega)) k1
  have hN1 := s1.size
  -- a := v
  refine wp_seq_k fun K2 hK2 => ?_
  refine r_copy (m := sa) (by omega) (by omega) (by omega) (Nat.le_refl _) fun a2 k2 g2 => hK2 a2 w ?_
  rw [g1] at g2
  have s2 := s1.kept (hlow sa (by omega) (by omega)) k2
  have hN2 := s2.size
  -- var l
  refine wp_seq_k fun K3 hK3 => ?_
  refine r_const (m := sl) (by omega) (Nat.le_refl _) fun a3 k3 _ => hK3 a3 w ?_
  have s3 := s2.kept (hlow sl (by omega) (by omega)) k3
  -- l = ..
  refine wp_seq_k fun K4 hK4 => ?_
  refine hlen e pb po K4 _ a3 w st s3 hm ?_
  intro a4 w4 xl k4 g4 hr4 rw4 f4
  refine hK4 a4 w4 ?_
  obtain ⟨l, hx, hv4, hl1, hl2⟩ := hr4
  simp at hx
  subst hx
  have s4 := s3.kept (hlow sl (by omega) (by omega)) k4
  have hN4 := s4.size
  have m4 : Mem e pb po ge w4 (len e.ver e.flex st).2 := hm.kept f4 (by simp) rw4
  have ga4 : get a4 sa = .slice none 0 0 := by rw [k4.get sa b3, k3.get sa b3, g2]
  generalize hln : len e.ver e.flex st = ln at *
  obtain ⟨lv, s⟩ := ln
  simp only at hv4 rw4 m4
  subst hv4
  have hkk4 : Kept m a a4 := (((k1.mono (by omega)).trans (k2.mono (by omega))).trans (k3.mono (by omega))).trans (k4.mono (by omega))
  have f4' : Fr [⟨e.rb, 0, 2⟩, ⟨pb, po + o, po + o + 1⟩] w w4 := f4.mono (by intro r hr; simp at hr; subst hr; exact .inr ⟨_, by simp, rfl, by simp, by simp⟩)
  refine arr_tail (q := none) (st0 := st) ho hc h hT hbs hTl hF hit hz hzl rfl hb0 hm ht hkk4 s4 m4 ga4 g4 hl1 hl2 f4 (fun y hy => by cases hy) ?_ ?_
  · rintro a' w' x st' ⟨hb1, h1 | ⟨h1, rfl, rfl⟩⟩ k1 k2 k3 k4
    · obtain ⟨h1, xs, h2, rfl⟩ := h1
      exact hk a' w' _ st' (by simp [rdArr, hln, hb1, h1, h2]) k1 k2 k3 k4
    · exact hk a' w' _ _ (by simp [rdArr, hln, hb1, h1]) k1 k2 k3 k4
  · rintro (h1 | ⟨h1, h2, h3⟩) a' w' k1 k2 k3 k4
    · exact hq (by simp [rdArr, hln, h1]) a' w' k1 k2 k3 k4
    · exact hq (by simp [rdArr, hln, h1, h2, h3]) a' w' k1 k2 k3 k4

end Go.Kq

/- A whole reading function: its fields, and its end. -/
namespace Go.Kq
open Go Go.Proofs

def Run (P : Program) (ge : Nat) (cx : Cx) (c : Code) (o : Nat) (tys : List Ty) (ds : List V) (f : Rd) : Prop :=
  ∀ (e : Env) (pb po : Nat) (Q : Exit → Act → World → Prop) (a : Act) (w : World) (st : RSt),
    Slots cx e pb po a → Mem e pb po ge w st → w.there pb (po + o) (Ty.sizes tys) → (∃ z, w.rangeAt pb (po + o) z ∧ Reps w NoFoot tys z ds) →
    (∀ a' w' xs st', f e.ver e.flex st = some (.l xs, st') → a'.tmps.size = cx.N → a'.defers = [] → get a' cx.tr = (if st'.bad then e.er else .nilIface) → Fr [⟨e.rb, 0, 2⟩, ⟨pb, po + o, po + o + Ty.sizes tys⟩] w w' →
      (∃ z, w'.rangeAt pb (po + o) z ∧ Reps w' (Foot e.sb w.heap.size w'.heap.size) tys z xs) → Q .ret a' w') →
    (f e.ver e.flex st = none → ∀ a' w', a'.tmps.size = cx.N → a'.defers = [] → get a' cx.tr = e.er → Fr [⟨e.rb, 0, 2⟩, ⟨pb, po + o, po + o + Ty.sizes tys⟩] w w' → Q .ret a' w') →
    c.wp P Q a w

theorem then_id {Q : Exit → Act → World → Prop} {c : Code} {P : Program} {a : Act} {w : World} (h : c.wp P (Exit.then (Q .normal) Q) a w) : c.wp P Q a w :=
  wp_mono h fun e _ _ h => by cases e <;> exact h

/-- 'return b.Complete()' -/
theorem run_end {P : Program} {ge : Nat} {cx : Cx} {fc : FuncId} {n o i1 : Nat} {t1 t2 : TypeId} {p1 p2 : String} {e1 e2 : Array Edge} {a1 : Array TypeId}
    (hc : CompleteM P ge fc) (hb : (decide (n < cx.N) && decide (cx.tr < cx.N)) = true) :
    Run P ge cx (.seq (Code.region i1 ⟨[⟨some n, .call ⟨.value (.func fc), #[.tmp cx.tb], a1⟩, t1, p1, e1, none⟩, ⟨some cx.tr, .assign (.tmp n), t2, p2, e2, none⟩]⟩ false) .ret) o [] [] rdSt0 := by
  intro e pb po Q a w st hs hm ht hz hk hq
  simp only [Bool.and_eq_true, decide_eq_true_eq] at hb
  obtain ⟨b1, b2⟩ := hb
  have hN := hs.size
  refine then_id (wp_seq_k fun K1 hK1 => ?_)
  refine r_call (m := 0) (R := fun x w' => x = (if st.bad then e.er else .nilIface) ∧ w' = w) hc.enters hs.b ((hc.call w e.rb e.sb st e.er hm.rw hm.er).mono (by rintro e' w' ⟨h1, h2⟩; exact ⟨_, h1, rfl, h2⟩)) (by omega) (by omega) (by omega) (by omega) ?_
  rintro a2 x w' ⟨rfl, rfl⟩ k2 g2
  refine hK1 a2 w' (wp_ret ?_)
  refine hk a2 w' [] st rfl (by rw [k2.size, hN]) (by rw [k2.defers, hs.defers]) g2 (Fr.refl _ _) ⟨[], range_nil, rfl, rfl⟩

theorem Run.cons {P : Program} {ge : Nat} {cx : Cx} {m : Nat} {c c' : Code} {o o' : Nat} {ty : Ty} {dv : V} {f g : Rd} {ts : List Ty} {ds : List V}
    (h : Fld P ge cx m c o ty dv f) (h' : Run P ge cx c' o' ts ds g) (ho : o' = o + ty.size) (hb : cx.below m = true) (hn : 0 < ty.size) (hg0 : ∀ ver fl s y s', g ver fl s = some (y, s') → ∃ ys, y = .l ys) :
    Run P ge cx (.seq c c') o (ty :: ts) (dv :: ds) (rdCons f g) := by
  intro e pb po Q a w st hs hm0 ht hz hk hq
  subst ho
  have hsz : Ty.sizes (ty :: ts) = ty.size + Ty.sizes ts := by simp [Ty.sizes]
  simp only [hsz] at ht hk hq
  obtain ⟨z, hz1, hz2⟩ := hz
  obtain ⟨c1, c2, x, r, rfl, hxs, h1, h2⟩ := hz2
  simp at hxs
  obtain ⟨rfl, rfl⟩ := hxs
  rw [range_append] at hz1
  have hl1 := h1.length
  have hpb : pb < w.heap.size := there_lt ht (by omega)
  have hrbw : e.rb < w.heap.size := lt_of_cell (range_cons.1 hm0.rw.2.2.choose_spec.1).1
  have first : ∀ w1, Fr [⟨e.rb, 0, 2⟩, ⟨pb, po + o, po + o + ty.size⟩] w w1 → Fr [⟨e.rb, 0, 2⟩, ⟨pb, po + o, po + o + (ty.size + Ty.sizes ts)⟩] w w1 := by
    intro w1 hfr
    refine hfr.mono ?_
    intro r hr
    simp at hr
    rcases hr with rfl | rfl
    · exact .inr ⟨_, by simp, rfl, by simp, by simp⟩
    · exact .inr ⟨⟨pb, po + o, po + o + (ty.size + Ty.sizes ts)⟩, by simp, rfl, by simp, by simp <;> omega⟩
  have both : ∀ w1 w2, Fr [⟨e.rb, 0, 2⟩, ⟨pb, po + o, po + o + ty.size⟩] w w1 → Fr [⟨e.rb, 0, 2⟩, ⟨pb, po + (o + ty.size), po + (o + ty.size) + Ty.sizes ts⟩] w1 w2 → Fr [⟨e.rb, 0, 2⟩, ⟨pb, po + o, po + o + (ty.size + Ty.sizes ts)⟩] w w2 := by
    intro w1 w2 hfr hfr2
    refine (first w1 hfr).trans hfr2 ?_
    intro r hr
    simp at hr
    rcases hr with rfl | rfl
    · exact .inr ⟨_, by simp, rfl, by simp, by simp⟩
    · exact .inr ⟨⟨pb, po + o, po + o + (ty.size + Ty.sizes ts)⟩, by simp, rfl, by simp <;> omega, by simp <;> omega⟩
  refine then_id (wp_seq_k fun K1 hK1 => ?_)
  refine h e pb po K1 (Exit.then (Q .normal) Q) a w st hs hm0 (there_part ht (by omega) (by omega)) ⟨c1, hz1.1, h1⟩ ?_ ?_
  · rintro a1 w1 x st1 hf hka hrw hfr ⟨z1, hz3, hz4⟩
    refine hK1 a1 w1 (wp_mono (show Code.wp P c' Q a1 w1 from ?_) (fun e _ _ h => by cases e <;> exact h))
    have hm1 : Mem e pb po ge w1 st1 := hm0.kept hfr (by simp) hrw
    have hap : Apart [⟨e.rb, 0, 2⟩, ⟨pb, po + o, po + o + ty.size⟩] pb (po + o + ty.size) (po + o + ty.size + c2.length) :=
      .cons (.inl (fun h => hm0.pr h.symm)) (.cons (.inr (.inr (by simp))) .nil)
    refine h' e pb po Q a1 w1 st1 (hs.kept hb hka) hm1 ?_ ⟨c2, ?_, ?_⟩ ?_ ?_
    · have := hfr.there (there_part ht (o' := po + o + ty.size) (n' := Ty.sizes ts) (by omega) (by omega))
      rwa [show po + (o + ty.size) = po + o + ty.size from by omega]
    · have := hfr.range (cs := c2) (b := pb) (o := po + o + ty.size) (by have := hz1.2; rwa [hl1] at this) hap
      rwa [show po + (o + ty.size) = po + o + ty.size from by omega]
    · exact Reps.kept hfr (fun _ _ h => h) (fun _ h => h) h2
    · rintro a2 w2 ys st2 hg hN2 hd2 hr2 hfr2 ⟨z2, hz5, hz6⟩
      refine hk a2 w2 (x :: ys) st2 ?_ hN2 hd2 hr2 (both w1 w2 hfr hfr2) ⟨z1 ++ z2, ?_, z1, z2, x, ys, rfl, rfl, ?_, ?_⟩
      · simp [rdCons, hf, hg, consV]
      · rw [range_append]
        have hl3 := hz4.length
        refine ⟨hfr2.range hz3 (.cons (.inl (fun h => hm0.pr h.symm)) (.cons (.inr (.inl (by simp <;> omega))) .nil)), ?_⟩
        rw [hl3]
        rwa [show po + (o + ty.size) = po + o + ty.size from by omega] at hz5
      · refine Rep.kept hfr2 ?_ (fun b hb => hb.mono (Nat.le_refl _) hfr2.size) hz4
        intro r hr hF
        simp at hr
        rcases hr with rfl | rfl
        · rcases hF with hF | ⟨hF, _⟩
          · exact hm0.rw.1 hF
          · simp at hF; omega
        · rcases hF with hF | ⟨hF, _⟩
          · exact hm0.ps hF
          · simp at hF; omega
      · exact Reps.kept (Fr.refl [] w2) (by simp) (fun b hb => hb.mono hfr.size (Nat.le_refl _)) hz6
    · intro hg a2 w2 hN hd hr hfr2
      exact hq (by simp [rdCons, hf, hg]) a2 w2 hN hd hr (both w1 w2 hfr hfr2)
  · intro hf a1 w1 hN hd hr hfr
    exact hq (by simp [rdCons, hf]) a1 w1 hN hd hr (first w1 hfr)

/-! ### the reader is made -/
/-- The reader's type. -/
def readerTy (P : Program) (T : TypeId) : Prop :=
  zeroOf P T (.agg #[.slice none 0 0, .bool false]) ∧ aggr P T 2 = true ∧ ∃ f0 f1 i0 i1, P.underlying T = some (.struct #[f0, f1]) ∧ f0.offset = 0 ∧ f1.offset = 1 ∧ P.info? f0.type = some i0 ∧ i0.size = 1 ∧ P.info? f1.type = some i1 ∧ i1.size = 1

theorem run_buildReader {P : Program} {T : TypeId} {v : Value} {w : World} (h : readerTy P T) (h1 : v.oneCell' = true) : (Instr.build T #[(0, v)]).run P w = .ok (.agg #[v, .bool false]) w := by
  obtain ⟨⟨i, hi, hz⟩, _, f0, f1, i0, i1, hu, h0, h2, h3, h4, h5, h6⟩ := h
  have hc : v.cells = #[v] := by cases v <;> first | rfl | (simp [Value.oneCell'] at h1)
  have hza : (Value.agg #[.slice none 0 0, .bool false]).cells = #[.slice none 0 0, .bool false] := rfl
  simp [Instr.build, zero_of hi hz, run_underlying hu, sizeOf, typeInfo, h3, h5, h4, h6, h0, h2, Instr.fill, hc, hza]

variable {P : Program} {a : Act} {w : World} {K : Act → World → Prop} {Q : Exit → Act → World → Prop}

theorem wp_build {o : Operand} {d : Option Tmp} {t : TypeId} {p : String} {af : Array Edge} {g : Option (Nat × Bool)} {T : TypeId} {v : Value} (h : readerTy P T) (h1 : v.oneCell' = true) (ho : a.eval o = v) (k : K (a.put d (.agg #[v, .bool false])) w) :
    OW P ⟨d, .build T #[(0, o)], t, p, af, g⟩ a w K Q := by
  refine wp_val (v := .agg #[v, .bool false]) (w' := w) ?_ k
  simp [execOp, ho, run_buildReader h h1]

/-- 'b := kbin.Reader{Src: src}' -/
theorem r_reader {id n v b m : Nat} {T : TypeId} {t1 t2 t3 t4 : TypeId} {p1 p2 p3 p4 : String} {e1 e2 e3 e4 : Array Edge} {x : Value} (hT : readerTy P T) (hv : get a v = x) (h1 : x.oneCell' = true)
    (hn : n + 1 < a.tmps.size) (hbn : b < n) (hm : m ≤ n) (hmb : m ≤ b)
    (hk : ∀ a' w' rb, Kept m a a' → get a' b = .pointer (some ⟨rb, 0, none⟩) → rb = w.heap.size → rb < w'.heap.size → Fr [] w w' → w'.rangeAt rb 0 [x, .bool false] → w'.there rb 0 2 → K a' w') :
    (Code.region id ⟨[⟨some n, .move (.tmp v), t1, p1, e1, none⟩, ⟨some (n + 1), .build T #[(0, .tmp n)], t2, p2, e2, none⟩, ⟨some b, .alloc T, t3, p3, e3, none⟩, ⟨none, .store T (.tmp b) (.tmp (n + 1)), t4, p4, e4, none⟩]⟩ false).wp P (Exit.then K Q) a w := by
  refine wp_reg ?_
  rw [wpl_cons, wp_move, eval_tmp, hv, wpl_cons]
  refine wp_build hT h1 (by rw [eval_tmp, get_put_same (by omega)]) ?_
  rw [wpl_cons]
  refine wp_alloc hT.1 ?_
  rw [wpl_cons]
  have hg : (((a.put (some n) x).put (some (n + 1)) (.agg #[x, .bool false])).put (some b) (.pointer (some ⟨w.heap.size, 0, none⟩))).eval (.tmp b) = .pointer (some ⟨w.heap.size, 0, none⟩) := by
    rw [eval_tmp, get_put_same (by simp only [size_put]; omega)]
  have hg2 : (((a.put (some n) x).put (some (n + 1)) (.agg #[x, .bool false])).put (some b) (.pointer (some ⟨w.heap.size, 0, none⟩))).eval (.tmp (n + 1)) = .agg #[x, .bool false] := by
    rw [eval_tmp, get_put_ne (by omega), get_put_same (by simp only [size_put]; omega)]
  have hth : (w.alloc (.cells (Value.agg #[.slice none 0 0, .bool false]).cells T)).there w.heap.size 0 2 := there_new w #[.slice none 0 0, .bool false] T
  have hag := hT.2.1
  unfold aggr at hag
  simp only [Bool.and_eq_true, beq_iff_eq] at hag
  constructor
  refine wp_store_mid T (.tmp b) (.tmp (n + 1)) rfl w.heap.size 0 #[x, .bool false] hg hg2 hth hag.2 (by rw [Array.all_eq_true_iff_forall_mem]; intro u hu; simp at hu; rcases hu with rfl | rfl <;> first | exact h1 | rfl) ?_
  have f1 := Fr.alloc [] w (.cells (Value.agg #[.slice none 0 0, .bool false]).cells T)
  have f2 := Fr.sets w.heap.size [x, .bool false] (w.alloc (.cells (Value.agg #[.slice none 0 0, .bool false]).cells T)) 0
  refine hk _ _ w.heap.size (((Kept.put0 hm _).put (by omega) _).put hmb _) (get_put_same (by simp only [size_put]; omega)) rfl ?_ (f1.trans f2 ?_) ?_ (f2.there hth)
  · have := f2.size; rw [size_alloc] at this; exact Nat.lt_of_lt_of_le (Nat.lt_succ_self _) this
  · intro r hr; simp at hr; subst hr; exact .inl (Nat.le_refl _)
  · exact World.rangeAt_setCells_same _ _ _ _ hth

end Go.Kq

/- A reading function from its head on. -/
namespace Go.Kq
open Go Go.Proofs

/-- The source: octets in a block, or nil. -/
def Src (w : World) (sb : Nat) (v : Value) (xs : List UInt8) (nl : Bool) : Prop :=
  (nl = true ∧ xs = [] ∧ v = .slice none 0 0) ∨ (nl = false ∧ ∃ o cap, v = .slice (some ⟨sb, o, none⟩) xs.length cap ∧ (xs.length ≤ cap ∧ xs.length ≤ 4294967296) ∧ w.rangeAt sb o (octets xs))
theorem Src.kept {w w' : World} {sb : Nat} {v : Value} {xs : List UInt8} {nl : Bool} {l : List Rng} (h : Src w sb v xs nl) (hf : Fr l w w') (hl : ∀ r ∈ l, r.b ≠ sb) : Src w' sb v xs nl := by
  rcases h with h | ⟨h, o, cap, h1, h2, h3⟩
  · exact .inl h
  · exact .inr ⟨h, o, cap, h1, h2, hf.range h3 (fun r hr => .inl (hl r hr))⟩
theorem Src.oneCell {w : World} {sb : Nat} {v : Value} {xs : List UInt8} {nl : Bool} (h : Src w sb v xs nl) : v.oneCell' = true := by
  rcases h with ⟨_, _, rfl⟩ | ⟨_, _, _, rfl, _⟩ <;> rfl
theorem Src.reader {w : World} {sb rb : Nat} {v : Value} {xs : List UInt8} {nl : Bool} (h : Src w sb v xs nl) (hr : w.rangeAt rb 0 [v, .bool false]) (ht : w.there rb 0 2) (hn : rb ≠ sb) : RW w rb sb ⟨xs, nl, false⟩ :=
  ⟨hn, ht, v, hr, h⟩

/-- What a reading function gives. 'kept': the version is not read out of the source. -/
structure ReadM (P : Program) (ge : Nat) (f : FuncId) (tys : List Ty) (ds : List V) (fl : Int → Bool) (g : Rd) : Prop where
  enters : Enters P f
  call : ∀ w pb sb ver uns srcv xs nl er, w.there pb 0 (1 + Ty.sizes tys) → -32768 ≤ ver → ver ≤ 32767 → w.cell? ⟨pb, 0, none⟩ = some (.int .i16 ver) → (∃ z, w.rangeAt pb 1 z ∧ Reps w NoFoot tys z ds) → Src w sb srcv xs nl →
    w.cell? ⟨ge, 0, none⟩ = some er → ge ≠ pb → pb ≠ sb → sb < w.heap.size →
    Calls P f #[.pointer (some ⟨pb, 0, none⟩), srcv, .bool uns] w fun e w' => Fr [⟨pb, 0, 1 + Ty.sizes tys⟩] w w' ∧
      match g ver (fl ver) ⟨xs, nl, false⟩ with
      | none => e = .returned er
      | some (x, st') => if st'.bad then e = .returned er else e = .returned .nilIface ∧ w'.cell? ⟨pb, 0, none⟩ = some (.int .i16 ver) ∧ ∃ ys z, x = .l ys ∧ w'.rangeAt pb 1 z ∧ Reps w' (Foot sb w.heap.size w'.heap.size) tys z ys

theorem results_one {P : Program} {fn : Func} {t : Nat} {a : Act} {w : World} (h : fn.results = #[.tmp t]) : (results fn a.tmps).run P w = .ok (get a t) w := by
  simp [results, h, get]

theorem get_args {args : Array Value} {n t : Nat} {d : List Deferred} {v : Value} (h : args[t]? = some v) : get { tmps := args ++ Array.replicate n undef, defers := d } t = v := by
  have hl : t < args.size := (Array.getElem?_eq_some_iff.1 h).1
  simp only [get, Array.getD_eq_getD_getElem?]
  rw [Array.getElem?_append_left hl, h]; rfl

theorem then_up {Q : Exit → Act → World → Prop} {c : Code} {P : Program} {a : Act} {w : World} (h : c.wp P Q a w) : c.wp P (Exit.then (Q .normal) Q) a w :=
  wp_mono h fun e _ _ h => by cases e <;> exact h

/-- From the version's slot on. -/
def Bdy (P : Program) (ge N tb tv tr : Nat) (c : Code) (tys : List Ty) (ds : List V) (fl : Int → Bool) (g : Rd) : Prop :=
  ∀ (e : Env) (pb : Nat) (Q : Exit → Act → World → Prop) (a : Act) (w : World) (st : RSt),
    a.tmps.size = N → a.defers = [] → get a tb = .pointer (some ⟨e.rb, 0, none⟩) → get a 0 = .pointer (some ⟨pb, 0, none⟩) → get a 2 = .bool e.uns → get a tv = .int .i16 e.ver → e.flex = fl e.ver →
    Mem e pb 0 ge w st → w.there pb 1 (Ty.sizes tys) → (∃ z, w.rangeAt pb 1 z ∧ Reps w NoFoot tys z ds) →
    (∀ a' w' xs st', g e.ver (fl e.ver) st = some (.l xs, st') → a'.tmps.size = N → a'.defers = [] → get a' tr = (if st'.bad then e.er else .nilIface) → Fr [⟨e.rb, 0, 2⟩, ⟨pb, 1, 1 + Ty.sizes tys⟩] w w' →
      (∃ z, w'.rangeAt pb 1 z ∧ Reps w' (Foot e.sb w.heap.size w'.heap.size) tys z xs) → Q .ret a' w') →
    (g e.ver (fl e.ver) st = none → ∀ a' w', a'.tmps.size = N → a'.defers = [] → get a' tr = e.er → Fr [⟨e.rb, 0, 2⟩, ⟨pb, 1, 1 + Ty.sizes tys⟩] w w' → Q .ret a' w') →
    c.wp P Q a w

theorem bdy_s {P : Program} {ge N tb tv tr ts n i : Nat} {tf : Option Nat} {c : Code} {tys : List Ty} {ds : List V} {g : Rd} {e : Env} {pb : Nat} {Q : Exit → Act → World → Prop} {a : Act} {w : World} {st : RSt}
    {t1 t2 : TypeId} {p1 p2 : String} {e1 e2 : Array Edge} (h : Run P ge ⟨N, tb, ts, tv, tf, 2, tr⟩ c 1 tys ds g)
    (hb : (decide (n < N) && decide (ts < N) && decide (2 < ts) && decide (tb < ts) && decide (tv < ts) && (match tf with | some u => decide (u < ts) | none => true) && decide (ts ≤ n)) = true)
    (hN : a.tmps.size = N) (hd : a.defers = []) (hgb : get a tb = .pointer (some ⟨e.rb, 0, none⟩)) (hg0 : get a 0 = .pointer (some ⟨pb, 0, none⟩)) (hg2 : get a 2 = .bool e.uns) (hgv : get a tv = .int .i16 e.ver)
    (hgf : ∀ u, tf = some u → get a u = .bool e.flex) (hm : Mem e pb 0 ge w st) (ht : w.there pb 1 (Ty.sizes tys)) (hz : ∃ z, w.rangeAt pb 1 z ∧ Reps w NoFoot tys z ds)
    (hk : ∀ a' w' xs st', g e.ver e.flex st = some (.l xs, st') → a'.tmps.size = N → a'.defers = [] → get a' tr = (if st'.bad then e.er else .nilIface) → Fr [⟨e.rb, 0, 2⟩, ⟨pb, 1, 1 + Ty.sizes tys⟩] w w' →
      (∃ z, w'.rangeAt pb 1 z ∧ Reps w' (Foot e.sb w.heap.size w'.heap.size) tys z xs) → Q .ret a' w')
    (hq : g e.ver e.flex st = none → ∀ a' w', a'.tmps.size = N → a'.defers = [] → get a' tr = e.er → Fr [⟨e.rb, 0, 2⟩, ⟨pb, 1, 1 + Ty.sizes tys⟩] w w' → Q .ret a' w') :
    (Code.seq (Code.region i ⟨[⟨some n, .move (.tmp 0), t1, p1, e1, none⟩, ⟨some ts, .assign (.tmp n), t2, p2, e2, none⟩]⟩ false) c).wp P Q a w := by
  simp only [Bool.and_eq_true, decide_eq_true_eq] at hb
  obtain ⟨⟨⟨⟨⟨⟨b1, b2⟩, b3⟩, b4⟩, b5⟩, b6⟩, b7⟩ := hb
  refine then_id (wp_seq_k fun K1 hK1 => ?_)
  refine r_copy (m := ts) (by omega) (by omega) b7 (Nat.le_refl _) fun a1 k1 g1 => hK1 a1 w (then_up ?_)
  have hs : Slots ⟨N, tb, ts, tv, tf, 2, tr⟩ e pb 0 a1 := by
    refine ⟨k1.size.trans hN, k1.defers.trans hd, (k1.get _ b4).trans hgb, g1.trans hg0, (k1.get _ b5).trans hgv, fun u hu => ?_, (k1.get _ b3).trans hg2⟩
    subst hu
    simp only [decide_eq_true_eq] at b6
    exact (k1.get _ b6).trans (hgf u rfl)
  refine h e pb 0 Q a1 w st hs hm (by rw [Nat.zero_add]; exact ht) (by rw [Nat.zero_add]; exact hz) ?_ ?_
  · simp only [Nat.zero_add]
    exact hk
  · simp only [Nat.zero_add]
    exact hq

theorem bdy_nf {P : Program} {ge N tb tv tr ts n n' i i' : Nat} {c : Code} {tys : List Ty} {ds : List V} {g : Rd}
    {t0 t1 t2 : TypeId} {p0 p1 p2 : String} {e0 e1 e2 : Array Edge} {flx : Bool} (h : Run P ge ⟨N, tb, ts, tv, none, 2, tr⟩ c 1 tys ds g)
    (hb : (decide (n < N) && decide (ts < N) && decide (2 < ts) && decide (tb < ts) && decide (tv < ts) && decide (ts ≤ n) && decide (n' < N) && decide (ts ≤ n')) = true) :
    Bdy P ge N tb tv tr (.seq (Code.region i' ⟨[⟨some n', .move (.tmp tv), t0, p0, e0, none⟩]⟩ false)
      (.seq (Code.region i ⟨[⟨some n, .move (.tmp 0), t1, p1, e1, none⟩, ⟨some ts, .assign (.tmp n), t2, p2, e2, none⟩]⟩ false) c)) tys ds (fun _ => flx) g := by
  intro e pb Q a w st hN hd hgb hg0 hg2 hgv hfl hm ht hz hk hq
  simp only [Bool.and_eq_true, decide_eq_true_eq] at hb
  obtain ⟨⟨⟨⟨⟨⟨⟨b1, b2⟩, b3⟩, b4⟩, b5⟩, b6⟩, b7⟩, b8⟩ := hb
  refine then_id (wp_seq_k fun K1 hK1 => ?_)
  refine r_look (m := ts) (by omega) b8 fun a1 k1 _ => hK1 a1 w (then_up ?_)
  rw [← hfl] at hk hq
  exact bdy_s h (by simp only [Bool.and_eq_true, decide_eq_true_eq]; exact ⟨⟨⟨⟨⟨⟨b1, b2⟩, b3⟩, b4⟩, b5⟩, trivial⟩, b6⟩) (k1.size.trans hN) (k1.defers.trans hd) ((k1.get _ b4).trans hgb) ((k1.get _ (by omega)).trans hg0) ((k1.get _ b3).trans hg2)
    ((k1.get _ b5).trans hgv) (fun u hu => by cases hu) hm ht hz hk hq

theorem bdy_fl {P : Program} {ge N tb tv tr ts tf n n1 n2 n3 i i0 i1 i2 : Nat} {c : Code} {tys : List Ty} {ds : List V} {g : Rd} {j : Int} {T U : TypeId}
    {t0 t1 t2 t3 t4 t5 t6 : TypeId} {p0 p1 p2 p3 p4 p5 p6 : String} {e0 e1 e2 e3 e4 e5 e6 : Array Edge} (h : Run P ge ⟨N, tb, ts, tv, some tf, 2, tr⟩ c 1 tys ds g)
    (hb : (decide (n < N) && decide (ts < N) && decide (2 < tf) && decide (tb < tf) && decide (tv < tf) && decide (tf < ts) && decide (ts ≤ n) && decide (n1 < N) && decide (ts ≤ n1) && decide (n2 + 1 < N) && decide (ts ≤ n2) && decide (n3 < N) && decide (ts ≤ n3)) = true) :
    Bdy P ge N tb tv tr (.seq (Code.region i0 ⟨[⟨some n1, .move (.tmp tv), t0, p0, e0, none⟩]⟩ false)
      (.seq (Code.region i1 ⟨[⟨some n2, .move (.tmp tv), t1, p1, e1, none⟩, ⟨some (n2 + 1), .binOp .geq T (.tmp n2) (.const (.int .i16 j)) U, t2, p2, e2, none⟩, ⟨some tf, .assign (.tmp (n2 + 1)), t3, p3, e3, none⟩]⟩ false)
      (.seq (Code.region i2 ⟨[⟨some n3, .move (.tmp tf), t4, p4, e4, none⟩]⟩ false)
      (.seq (Code.region i ⟨[⟨some n, .move (.tmp 0), t5, p5, e5, none⟩, ⟨some ts, .assign (.tmp n), t6, p6, e6, none⟩]⟩ false) c)))) tys ds (fun v => decide (v ≥ j)) g := by
  intro e pb Q a w st hN hd hgb hg0 hg2 hgv hfl hm ht hz hk hq
  simp only [Bool.and_eq_true, decide_eq_true_eq] at hb
  obtain ⟨⟨⟨⟨⟨⟨⟨⟨⟨⟨⟨⟨b1, b2⟩, b3⟩, b4⟩, b5⟩, b6⟩, b7⟩, b8⟩, b9⟩, b10⟩, b11⟩, b12⟩, b13⟩ := hb
  refine then_id (wp_seq_k fun K1 hK1 => ?_)
  refine r_look (m := ts) (by omega) b9 fun a1 k1 _ => hK1 a1 w (then_up ?_)
  refine then_id (wp_seq_k fun K2 hK2 => ?_)
  have hv1 : get a1 tv = .int .i16 e.ver := (k1.get _ (by omega)).trans hgv
  refine wp_reg ?_
  rw [wpl_cons, wp_move, eval_tmp, hv1, wpl_cons]
  have hs1 := k1.size
  refine wp_geq (k1 := .i16) (i := e.ver) (j := j) (by rw [eval_tmp, get_put_same (by omega)]) rfl ?_
  rw [wpl_cons, wp_assign, eval_tmp, get_put_same (by simp only [size_put]; omega)]
  generalize ha2 : ((a1.put (some n2) (Value.int .i16 e.ver)).put (some (n2 + 1)) (.bool (decide (e.ver ≥ j)))).put (some tf) (.bool (decide (e.ver ≥ j))) = a2
  have k2 : Kept tf a1 a2 := by subst ha2; exact ((Kept.put0 (by omega) _).put (by omega) _).put (Nat.le_refl _) _
  have g2 : get a2 tf = .bool (decide (e.ver ≥ j)) := by subst ha2; exact get_put_same (by simp only [size_put]; omega)
  have hs2 := k2.size
  refine hK2 a2 w (then_up ?_)
  refine then_id (wp_seq_k fun K3 hK3 => ?_)
  refine r_look (m := ts) (by omega) b13 fun a3 k3 _ => hK3 a3 w (then_up ?_)
  have g2 : get a2 tf = .bool e.flex := by rw [hfl]; exact g2
  rw [← hfl] at hk hq
  have kk : Kept tf a a3 := ((k1.mono (by omega)).trans k2).trans (k3.mono (by omega))
  exact bdy_s h (by simp only [Bool.and_eq_true, decide_eq_true_eq]; exact ⟨⟨⟨⟨⟨⟨b1, b2⟩, by omega⟩, by omega⟩, by omega⟩, b6⟩, b7⟩) (kk.size.trans hN) (kk.defers.trans hd) ((kk.get _ b4).trans hgb) ((kk.get _ (by omega)).trans hg0) ((kk.get _ b3).trans hg2)
    ((kk.get _ b5).trans hgv) (fun u hu => by cases hu; exact (k3.get _ b6).trans g2) hm ht hz hk hq

/-- A message's reading function: the version stands in the struct. -/
theorem root {P : Program} {ge : Nat} {f fd : FuncId} {fn : Func} {N tb tv tr : Nat} {cv : Code} {tys : List Ty} {ds : List V} {g : Rd} {d : List V → List V} {fl : Int → Bool}
    {n1 n2 n3 i0 i1 i2 i3 : Nat} {TR S Tv : Nat} {kv : Nat} {x0 : Value} {ats : Array TypeId}
    {t0 t1 t2 t3 t4 t5 t6 t7 t8 t9 t10 t11 : TypeId} {p0 p1 p2 p3 p4 p5 p6 p7 p8 p9 p10 p11 : String} {e0 e1 e2 e3 e4 e5 e6 e7 e8 e9 e10 e11 : Array Edge}
    (hf : P.funcs[f]? = some fn) (hname : (fn.name == "runtime.NumGoroutine") = false) (hres : fn.results = #[.tmp tr]) (hN : fn.ntmps = N)
    (hbody : fn.body = some (.seq (Code.region i0 ⟨[⟨some tr, .assign (.const x0), t0, p0, e0, none⟩]⟩ false)
      (.seq (Code.region i1 ⟨[⟨some n1, .move (.tmp 0), t1, p1, e1, none⟩, ⟨some (n1 + 1), .call ⟨.value (.func fd), #[.tmp n1], ats⟩, t2, p2, e2, none⟩]⟩ false)
      (.seq (Code.region i2 ⟨[⟨some n2, .move (.tmp 1), t3, p3, e3, none⟩, ⟨some (n2 + 1), .build TR #[(0, .tmp n2)], t4, p4, e4, none⟩, ⟨some tb, .alloc TR, t5, p5, e5, none⟩, ⟨none, .store TR (.tmp tb) (.tmp (n2 + 1)), t6, p6, e6, none⟩]⟩ false)
      (.seq (Code.region i3 ⟨[⟨some n3, .move (.tmp 0), t7, p7, e7, none⟩, ⟨some (n3 + 1), .nilCheck (.tmp n3), t8, p8, e8, none⟩, ⟨some (n3 + 2), .fieldAddr S (.tmp (n3 + 1)) kv, t9, p9, e9, none⟩, ⟨some (n3 + 3), .load Tv (.tmp (n3 + 2)), t10, p10, e10, none⟩, ⟨some tv, .assign (.tmp (n3 + 3)), t11, p11, e11, none⟩]⟩ false)
        cv)))))
    (hcv : Bdy P ge N tb tv tr cv tys ds fl g) (hd : DefM P fd (.int .i16 :: tys) d) (hdd : ∀ v, d (v :: ds) = v :: ds) (hTR : readerTy P TR) (hTv : scal P Tv = true) (hS : fieldOf P S kv 0 = true)
    (hgl : ∀ ver f s y s', g ver f s = some (y, s') → ∃ ys, y = .l ys)
    (hb : (decide (2 < tr) && decide (tr < tb) && decide (tb < tv) && decide (tv < n1) && decide (tv < n2) && decide (tv < n3) && decide (n1 + 1 < N) && decide (n2 + 1 < N) && decide (n3 + 3 < N)) = true) :
    ReadM P ge f tys ds fl g := by
  simp only [Bool.and_eq_true, decide_eq_true_eq] at hb
  obtain ⟨⟨⟨⟨⟨⟨⟨⟨b1, b2⟩, b3⟩, b4⟩, b5⟩, b6⟩, b7⟩, b8⟩, b9⟩ := hb
  refine ⟨enters_of hf hname hbody, ?_⟩
  intro w pb sb ver uns srcv xs nl er ht hv1 hv2 hver hz hsrc her hgp hps hsl
  refine calls_of_wp hf hbody ?_
  generalize ha0 : ({ tmps := #[Value.pointer (some ⟨pb, 0, none⟩), srcv, Value.bool uns] ++ Array.replicate (fn.ntmps - #[Value.pointer (some ⟨pb, 0, none⟩), srcv, Value.bool uns].size) undef, defers := [] } : Act) = a0
  have hsz : a0.tmps.size = N := by subst ha0; simp [hN]; omega
  have hd0 : a0.defers = [] := by subst ha0; rfl
  have q0 : get a0 0 = .pointer (some ⟨pb, 0, none⟩) := by subst ha0; exact get_args rfl
  have q1 : get a0 1 = srcv := by subst ha0; exact get_args rfl
  have q2 : get a0 2 = .bool uns := by subst ha0; exact get_args rfl
  clear ha0
  refine then_id (wp_seq_k fun K1 hK1 => ?_)
  refine r_const (m := 3) (by omega) (by omega) fun a1 k1 _ => hK1 a1 w (then_up ?_)
  have hs1 := k1.size
  refine then_id (wp_seq_k fun K2 hK2 => ?_)
  obtain ⟨z, hz1, hz2⟩ := hz
  have hzl := hz2.length
  have hzr : w.rangeAt pb 0 (.int .i16 ver :: z) := by rw [range_cons]; exact ⟨hver, by rw [Nat.zero_add]; exact hz1⟩
  have hzz : Reps w NoFoot (.int .i16 :: tys) (.int .i16 ver :: z) (.n ver :: ds) := ⟨[.int .i16 ver], z, .n ver, ds, rfl, rfl, ⟨ver, rfl, rfl, by simpa [IntKind.min, IntKind.signed, IntKind.bits] using hv1, by simpa [IntKind.max, IntKind.signed, IntKind.bits] using hv2⟩, hz2⟩
  have hlen : (Value.int .i16 ver :: z).length = 1 + Ty.sizes tys := by simp [hzl]; omega
  refine r_do (m := 3) (R := fun w' => (∃ z', w'.rangeAt pb 0 z' ∧ Reps w' NoFoot (.int .i16 :: tys) z' (d (.n ver :: ds))) ∧ Fr [⟨pb, 0, 1 + Ty.sizes tys⟩] w w') hd.enters ((k1.get _ (by omega)).trans q0)
    ((hd.call w pb 0 _ _ hzr (by rw [hlen]; exact ht) hzz).mono (by rintro e' w' ⟨x, h1, h2, h3⟩; refine ⟨x, h1, h2, ?_⟩; rw [hlen, Nat.zero_add] at h3; exact h3)) (by omega) (by omega) ?_
  rintro a2 w2 ⟨⟨z2, hz3, hz4⟩, f2⟩ k2
  refine hK2 a2 w2 (then_up ?_)
  have hs2 := k2.size
  rw [hdd] at hz4
  obtain ⟨c1, c2, x1, r1, rfl, hx1, ⟨iv, rfl, hiv, _, _⟩, hr2⟩ := hz4
  simp at hx1
  obtain ⟨rfl, rfl⟩ := hx1
  simp at hiv
  subst hiv
  rw [List.singleton_append, range_cons, Nat.zero_add] at hz3
  refine then_id (wp_seq_k fun K3 hK3 => ?_)
  have hsrc2 := hsrc.kept f2 (by intro r hr; simp at hr; subst hr; exact hps)
  have kk2 := k1.trans k2
  refine r_reader (m := 3) hTR ((kk2.get _ (by omega)).trans q1) hsrc2.oneCell (by omega) (by omega) (by omega) (by omega) ?_
  intro a3 w3 rb k3 g3 hrb hrb2 f3 hrr htr
  refine hK3 a3 w3 (then_up ?_)
  have hs3 := k3.size
  have kk3 := kk2.trans k3
  have hpbw : pb < w.heap.size := there_lt ht (by omega)
  have hgew := lt_of_cell her
  have f2s := f2.size
  have f3s := f3.size
  have f23 : Fr [⟨pb, 0, 1 + Ty.sizes tys⟩] w w3 := f2.tr (Fr.nil f3)
  have ver3 : w3.cell? ⟨pb, 0, none⟩ = some (.int .i16 ver) := f3.cell hz3.1 .nil
  refine then_id (wp_seq_k fun K4 hK4 => ?_)
  refine r_load (m := tv) (pb := pb) (po := 0) ((kk3.get _ (by omega)).trans q0) hTv hS ver3 (by omega) (by omega) (by omega) (by omega) (Nat.le_refl _) fun a4 k4 g4 => hK4 a4 w3 (then_up ?_)
  have hs4 := k4.size
  have hrw : RW w3 rb sb ⟨xs, nl, false⟩ := (hsrc2.kept f3 (by simp)).reader hrr htr (by omega)
  have er3 : w3.cell? ⟨ge, 0, none⟩ = some er := f3.cell (f2.cell her (.cons (.inl (fun h => hgp h.symm)) .nil)) .nil
  have hm : Mem ⟨rb, sb, ver, fl ver, uns, er⟩ pb 0 ge w3 ⟨xs, nl, false⟩ := ⟨hrw, er3, hgp, by simp only; omega, by simp only; omega, hps, by simp only; omega⟩
  have fall : ∀ w4, Fr [⟨rb, 0, 2⟩, ⟨pb, 1, 1 + Ty.sizes tys⟩] w3 w4 → Fr [⟨pb, 0, 1 + Ty.sizes tys⟩] w w4 := by
    intro w4 h4
    refine f23.trans h4 ?_
    intro r hr
    simp at hr
    rcases hr with rfl | rfl
    · exact .inl (by simp only; omega)
    · exact .inr ⟨⟨pb, 0, 1 + Ty.sizes tys⟩, by simp, rfl, by simp, by simp⟩
  refine hcv ⟨rb, sb, ver, fl ver, uns, er⟩ pb _ a4 w3 ⟨xs, nl, false⟩ (by rw [k4.size, k3.size, k2.size, k1.size, hsz]) (by rw [k4.defers, k3.defers, k2.defers, k1.defers, hd0]) ((k4.get _ b3).trans g3)
    ((k4.get _ (by omega)).trans ((kk3.get _ (by omega)).trans q0)) ((k4.get _ (by omega)).trans ((kk3.get _ (by omega)).trans q2)) g4 rfl hm ((f23.there (there_part ht (by omega) (by omega)))) ⟨c2, f3.range hz3.2 .nil, Reps.kept f3 (by simp) (fun _ h => h) hr2⟩ ?_ ?_
  · intro a5 w5 ys st' hg hN5 hd5 hr5 hfr ⟨z5, hz5, hr6⟩
    refine ⟨hd5, _, results_one hres, ?_⟩
    refine ⟨fall w5 hfr, ?_⟩
    simp only [hg]
    cases hbd : st'.bad with
    | true =>
      rw [hbd] at hr5
      simp only [if_true]
      rw [hr5]
      rfl
    | false =>
      rw [hbd] at hr5
      simp only [Bool.false_eq_true, if_false]
      refine ⟨by rw [hr5]; rfl, hfr.cell ver3 (.cons (.inl (by simp only; omega)) (.cons (.inr (.inl (by simp))) .nil)), ys, z5, rfl, hz5, ?_⟩
      exact Reps.kept (Fr.refl [] w5) (by simp) (fun b hb => hb.mono (by omega) (Nat.le_refl _)) hr6
  · intro hg a5 w5 hN5 hd5 hr5 hfr
    refine ⟨hd5, _, results_one hres, ?_⟩
    refine ⟨fall w5 hfr, ?_⟩
    simp only [hg]
    rw [hr5]

end Go.Kq

/- Default, and small words for a message's text. -/
namespace Go.Kq
open Go Go.Proofs

def gNum (kd : IntKind) (k : Nat) (st : RSt) : V × RSt := (.n (rdNum kd k st).1, (rdNum kd k st).2)
def gStr (st : RSt) : V × RSt := (.s (rdString st).1, (rdString st).2)
def gALen (st : RSt) : V × RSt := (.n (rdArrayLen st).1, (rdArrayLen st).2)

def IsL (g : Rd) : Prop := ∀ ver fl s y s', g ver fl s = some (y, s') → ∃ ys, y = .l ys
theorem isL_nil : IsL rdSt0 := by
  intro ver fl s y s' h
  simp [rdSt0] at h
  exact ⟨[], h.1.symm⟩
theorem isL_cons {f g : Rd} (h : IsL g) : IsL (rdCons f g) := by
  intro ver fl s y s' hh
  unfold rdCons at hh
  split at hh
  · simp at hh
  · split at hh
    · simp at hh
    · rename_i y1 s1 h1
      obtain ⟨ys, rfl⟩ := h _ _ _ _ _ h1
      simp [consV] at hh
      exact ⟨_, hh.1.symm⟩

theorem def_skip {P : Program} {f : FuncId} {fn : Func} {tys : List Ty} (hf : P.funcs[f]? = some fn) (hname : (fn.name == "runtime.NumGoroutine") = false) (hb : fn.body = some .skip) (hr : fn.results = #[]) : DefM P f tys id := by
  refine ⟨enters_of hf hname hb, ?_⟩
  intro w b o z xs hz ht hr'
  refine calls_of_wp hf hb (wp_skip ?_)
  refine ⟨rfl, .tuple #[], by simp [results, hr], _, rfl, ⟨z, hz, hr'⟩, Fr.refl _ _⟩

/-! ### facts on types, as Bools -/
def valEq : Value → Value → Bool
  | .bool a, .bool b => a == b
  | .int j a, .int k b => j == k && a == b
  | .float j a, .float k b => j == k && a == b
  | .string a, .string b => a.data.toList == b.data.toList
  | .pointer none, .pointer none => true
  | .slice none a b, .slice none c d => a == c && b == d
  | .map none, .map none => true
  | .nilFunc, .nilFunc => true
  | .nilIface, .nilIface => true
  | _, _ => false
theorem valEq_eq {a b : Value} (h : valEq a b = true) : a = b := by
  cases a <;> cases b <;> first | (simp [valEq] at h; done) | skip
  · simp [valEq] at h; subst h; rfl
  · simp [valEq] at h; obtain ⟨rfl, rfl⟩ := h; rfl
  · simp [valEq] at h; obtain ⟨rfl, rfl⟩ := h; rfl
  · rename_i s t; simp [valEq] at h; cases s; cases t; simp at h; subst h; rfl
  · rename_i x y; cases x <;> cases y <;> simp [valEq] at h; rfl
  · rename_i x _ _ y _ _; cases x <;> cases y <;> simp [valEq] at h; obtain ⟨rfl, rfl⟩ := h; rfl
  · rename_i x y; cases x <;> cases y <;> simp [valEq] at h; rfl
  · rfl
  · rfl
def valsEq : List Value → List Value → Bool
  | [], [] => true
  | a :: ar, b :: br => valEq a b && valsEq ar br
  | _, _ => false
theorem valsEq_eq : ∀ {a b : List Value}, valsEq a b = true → a = b
  | [], [], _ => rfl
  | a :: ar, b :: br, h => by
    simp only [valsEq, Bool.and_eq_true] at h
    rw [valEq_eq h.1, valsEq_eq h.2]
  | [], _ :: _, h => by simp [valsEq] at h
  | _ :: _, [], h => by simp [valsEq] at h
/-- The cells of a type's value at nought. -/
def zeroB (P : Program) (e : TypeId) (z : List Value) : Bool := match P.info? e with
  | some i => (match i.zero with | some v => valsEq v.cells.toList z | none => false)
  | none => false
theorem zeroB_is {P : Program} {e : TypeId} {z : List Value} (h : zeroB P e z = true) : zeroIs P e z := by
  unfold zeroB at h
  cases hi : P.info? e with
  | none => simp [hi] at h
  | some i =>
    simp only [hi] at h
    cases hz : i.zero with
    | none => simp [hz] at h
    | some v => simp only [hz] at h; exact ⟨i, v, hi, hz, valsEq_eq h⟩
/-- A type's value at nought. -/
def zeroVB (P : Program) (e : TypeId) (z : Value) : Bool := match P.info? e with
  | some i => (match i.zero with | some v => valEq v z | none => false)
  | none => false
theorem zeroVB_is {P : Program} {e : TypeId} {z : Value} (h : zeroVB P e z = true) : zeroOf P e z := by
  unfold zeroVB at h
  cases hi : P.info? e with
  | none => simp [hi] at h
  | some i =>
    simp only [hi] at h
    cases hz : i.zero with
    | none => simp [hz] at h
    | some v => simp only [hz] at h; exact ⟨i, hi, by rw [hz, valEq_eq h]⟩
def szIs (P : Program) (t n : Nat) : Bool := match P.info? t with | some i => i.size == n | none => false
theorem szIs_eq {P : Program} {t n : Nat} (h : szIs P t n = true) : ∃ i, P.info? t = some i ∧ i.size = n := by
  unfold szIs at h
  cases hi : P.info? t with
  | none => simp [hi] at h
  | some i => simp [hi] at h; exact ⟨i, rfl, h⟩
def readerB (P : Program) (T : TypeId) : Bool :=
  (match P.info? T with | some i => (match i.zero with | some (.agg z) => valsEq z.toList [.slice none 0 0, .bool false] | _ => false) | none => false) && aggr P T 2 &&
  (match P.underlying T with | some (.struct fs) => (match fs.toList with | [f0, f1] => f0.offset == 0 && f1.offset == 1 && szIs P f0.type 1 && szIs P f1.type 1 | _ => false) | _ => false)
theorem readerB_is {P : Program} {T : TypeId} (h : readerB P T = true) : readerTy P T := by
  simp only [readerB, Bool.and_eq_true] at h
  obtain ⟨⟨h1, h2⟩, h3⟩ := h
  refine ⟨?_, h2, ?_⟩
  · cases hi : P.info? T with
    | none => simp [hi] at h1
    | some i =>
      simp only [hi] at h1
      cases hz : i.zero with
      | none => simp [hz] at h1
      | some v =>
        simp only [hz] at h1
        cases v <;> simp only [] at h1 <;> first | (simp at h1; done) | skip
        rename_i z
        have := valsEq_eq h1
        refine ⟨i, hi, ?_⟩
        rw [hz]
        congr 2
        exact Array.ext' this
  · cases hu : P.underlying T with
    | none => simp [hu] at h3
    | some d =>
      cases d <;> simp only [hu] at h3 <;> first | (simp at h3; done) | skip
      rename_i fs
      match hl : fs.toList with
      | [f0, f1] =>
        simp only [hl, Bool.and_eq_true, beq_iff_eq] at h3
        obtain ⟨⟨⟨a1, a2⟩, a3⟩, a4⟩ := h3
        obtain ⟨i0, b1, b2⟩ := szIs_eq a3
        obtain ⟨i1, b3, b4⟩ := szIs_eq a4
        refine ⟨f0, f1, i0, i1, ?_, a1, a2, b1, b2, b3, b4⟩
        congr 2
        exact Array.ext' hl
      | [] => simp [hl] at h3
      | [_] => simp [hl] at h3
      | _ :: _ :: _ :: _ => simp [hl] at h3

end Go.Kq

/- Default where it sets fields to numbers. -/
namespace Go.Kq
open Go Go.Proofs

theorem Reps.set {w : World} {A : Nat → Prop} : ∀ {tys : List Ty} {z : List Value} {xs : List V} {i : Nat} {ty : Ty} {v : Value} {x : V}, Reps w A tys z xs → tys[i]? = some ty → ty.size = 1 → Rep w A ty [v] x →
    Reps w A tys (z.set (Ty.sizes (tys.take i)) v) (xs.set i x)
  | [], z, xs, i, ty, v, x, _, hi, _, _ => by simp at hi
  | t :: ts, z, xs, i, ty, v, x, h, hi, h1, hx => by
    obtain ⟨c1, c2, y, r, rfl, rfl, h2, h3⟩ := h
    have hl := h2.length
    cases i with
    | zero =>
      simp at hi; subst hi
      rw [h1] at hl
      obtain ⟨c, rfl⟩ := List.length_eq_one_iff.1 hl
      exact ⟨[v], c2, x, r, rfl, rfl, hx, h3⟩
    | succ i =>
      have hr := Reps.set h3 (by simpa using hi) h1 hx
      refine ⟨c1, c2.set (Ty.sizes (ts.take i)) v, y, r.set i x, ?_, rfl, h2, hr⟩
      rw [List.take_succ_cons, show Ty.sizes (t :: ts.take i) = t.size + Ty.sizes (ts.take i) from rfl, ← hl, List.set_append_right _ _ (by omega)]
      congr 2; omega
theorem Reps.setLt {w : World} {A : Nat → Prop} : ∀ {tys : List Ty} {z : List Value} {xs : List V} {i : Nat} {ty : Ty}, Reps w A tys z xs → tys[i]? = some ty → ty.size = 1 → Ty.sizes (tys.take i) < z.length
  | [], z, xs, i, ty, _, hi, _ => by simp at hi
  | t :: ts, z, xs, i, ty, h, hi, h1 => by
    obtain ⟨c1, c2, y, r, rfl, rfl, h2, h3⟩ := h
    have hl := h2.length
    cases i with
    | zero => simp at hi; subst hi; simp [Ty.sizes]; omega
    | succ i =>
      have hr := Reps.setLt h3 (by simpa using hi) h1
      rw [List.take_succ_cons, show Ty.sizes (t :: ts.take i) = t.size + Ty.sizes (ts.take i) from rfl, List.length_append]; omega

/-- What is left of Default. -/
def DRun (P : Program) (N : Nat) (c : Code) (tys : List Ty) (d : List V → List V) : Prop :=
  ∀ (Q : Exit → Act → World → Prop) (a : Act) (w : World) (b o : Nat) (z : List Value) (xs : List V), a.tmps.size = N → a.defers = [] → get a 0 = .pointer (some ⟨b, o, none⟩) → w.rangeAt b o z → w.there b o z.length → Reps w NoFoot tys z xs →
    (∀ a' w' z', a'.tmps.size = N → a'.defers = [] → get a' 0 = .pointer (some ⟨b, o, none⟩) → z'.length = z.length → w'.rangeAt b o z' → w'.there b o z.length → Reps w' NoFoot tys z' (d xs) → Fr [⟨b, o, o + z.length⟩] w w' → Q .normal a' w') → c.wp P Q a w
theorem range_setAt {w : World} {b o i : Nat} {z : List Value} {v : Value} (hr : w.rangeAt b o z) (ht : w.there b o z.length) (hi : i < z.length) : (w.setCell ⟨b, o + i, none⟩ v).rangeAt b o (z.set i v) := by
  have f := Fr.set w b (o + i) v
  intro j u hj
  by_cases hij : i = j
  · subst hij
    rw [List.getElem?_set_self hi] at hj
    simp at hj; subst hj
    exact range_set (there_part ht (by omega) (by omega))
  · rw [List.getElem?_set_ne hij] at hj
    exact f.cell (hr j u hj) (.cons (.inr (by simp only; omega)) .nil)
theorem DRun.one {P : Program} {N n k o i i1 : Nat} {S T : TypeId} {v : Value} {x : V} {ty : Ty} {tys : List Ty} {t1 t2 t3 t4 : TypeId} {p1 p2 p3 p4 : String} {e1 e2 e3 e4 : Array Edge}
    (hF : fieldOf P S k o = true) (hT : scal P T = true) (hi : tys[i]? = some ty) (h1 : ty.size = 1) (ho : o = Ty.sizes (tys.take i)) (hv : v.oneCell' = true) (hx : ∀ w, Rep w NoFoot ty [v] x) (hb : (decide (0 < n) && decide (n + 2 < N)) = true) :
    DRun P N (Code.region i1 ⟨[⟨some n, .move (.tmp 0), t1, p1, e1, none⟩, ⟨some (n + 1), .nilCheck (.tmp n), t2, p2, e2, none⟩, ⟨some (n + 2), .fieldAddr S (.tmp (n + 1)) k, t3, p3, e3, none⟩, ⟨none, .store T (.tmp (n + 2)) (.const v), t4, p4, e4, none⟩]⟩ false) tys (fun xs => xs.set i x) := by
  intro Q a w b ob z xs hN hd h0 hz ht hr hk
  simp only [Bool.and_eq_true, decide_eq_true_eq] at hb
  obtain ⟨b1, b2⟩ := hb
  have hlt := hr.setLt hi h1
  subst ho
  refine wp_reg ?_
  rw [wpl_cons, wp_move, eval_tmp, h0, wpl_cons]
  refine wp_nilCheck (q := ⟨b, ob, none⟩) (by rw [eval_tmp, get_put_same (by omega)]) ?_
  rw [wpl_cons]
  refine wp_fieldAddr (b := b) (i := ob) hF (by rw [eval_tmp, get_put_same (by simp only [size_put]; omega)]) ?_
  rw [wpl_cons]
  refine wp_store hT (b := b) (o := ob + Ty.sizes (tys.take i)) (v := v) (by rw [eval_tmp, get_put_same (by simp only [size_put]; omega)]) rfl hv (there_part ht (by omega) (by omega)) ?_
  rw [put_none, wpl_nil]
  have f := Fr.set w b (ob + Ty.sizes (tys.take i)) v
  have rg := range_setAt (v := v) hz ht hlt
  have hr' := (hr.set hi h1 (hx w)).kept f (by intro r _ h; exact h) (fun _ h => h)
  generalize w.setCell ⟨b, ob + Ty.sizes (tys.take i), none⟩ v = w1 at f rg hr' ⊢
  refine hk _ w1 _ (by simp only [size_put]; omega) (by simp only [defers_put]; exact hd) (by rw [get_put_ne (by omega), get_put_ne (by omega), get_put_ne (by omega), h0]) (by simp) rg (f.there ht) hr' (f.mono ?_)
  intro r hrr; simp at hrr; subst hrr
  exact .inr ⟨_, List.mem_singleton.2 rfl, rfl, by simp, by simp only; omega⟩
theorem DRun.cons {P : Program} {N : Nat} {c c' : Code} {tys : List Ty} {d d' : List V → List V} (h : DRun P N c tys d) (h' : DRun P N c' tys d') : DRun P N (.seq c c') tys (fun xs => d' (d xs)) := by
  intro Q a w b o z xs hN hd h0 hz ht hr hk
  refine then_id (wp_seq_k fun K1 hK1 => ?_)
  refine h _ a w b o z xs hN hd h0 hz ht hr fun a1 w1 z1 s1 d1 g1 l1 r1 t1 e1 f1 => hK1 a1 w1 (then_up ?_)
  refine h' _ a1 w1 b o z1 _ s1 d1 g1 r1 (by rw [l1]; exact t1) e1 fun a2 w2 z2 s2 d2 g2 l2 r2 t2 e2 f2 => ?_
  rw [l1] at t2 f2
  exact hk a2 w2 z2 s2 d2 g2 (l2.trans l1) r2 t2 e2 (f1.tr f2)
theorem def_sets {P : Program} {f : FuncId} {fn : Func} {N : Nat} {c : Code} {tys : List Ty} {d : List V → List V} (hf : P.funcs[f]? = some fn) (hname : (fn.name == "runtime.NumGoroutine") = false) (hr : fn.results = #[]) (hN : fn.ntmps = N) (hN0 : (decide (0 < N)) = true) (hb : fn.body = some c) (h : DRun P N c tys d) : DefM P f tys d := by
  have hN0 := of_decide_eq_true hN0
  refine ⟨enters_of hf hname hb, ?_⟩
  intro w b o z xs hz ht hr'
  refine calls_of_wp hf hb ?_
  generalize ha0 : ({ tmps := #[Value.pointer (some ⟨b, o, none⟩)] ++ Array.replicate (fn.ntmps - #[Value.pointer (some ⟨b, o, none⟩)].size) undef, defers := [] } : Act) = a0
  have hsz : a0.tmps.size = N := by subst ha0; simp [hN]; omega
  have hd0 : a0.defers = [] := by subst ha0; rfl
  have g0 : get a0 0 = .pointer (some ⟨b, o, none⟩) := by subst ha0; exact get_args rfl
  clear ha0
  refine h _ a0 w b o z xs hsz hd0 g0 hz ht hr' fun a' w' z' _ d' _ _ r' _ e' f' => ?_
  exact ⟨d', .tuple #[], by simp [results, hr], _, rfl, ⟨z', r', e'⟩, f'⟩
end Go.Kq
