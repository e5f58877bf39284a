/- Regions of operations that occur again and again, each by a rule over any slots. -/
import Derived.Test.YtjeplgghcebfjaaDoorKqRd
import Derived.Test.YtjeplgghcebfjaaDoorKqStr
namespace Go.Kq
open Go Go.Proofs

variable {P : Program} {a : Act} {w : World} {K : Act → World → Prop} {Q : Exit → Act → World → Prop}

/-- 's.F = v' -/
theorem r_store {id n s v m : Nat} {S T k o pb po : Nat} {x : Value} {t1 t2 t3 t4 t5 : TypeId} {p1 p2 p3 p4 p5 : String} {e1 e2 e3 e4 e5 : Array Edge}
    (hs : get a s = .pointer (some ⟨pb, po, none⟩)) (hv : get a v = x) (h1 : x.oneCell' = true) (hT : scal P T = true) (hF : fieldOf P S k o = true) (ht : w.there pb (po + o) 1)
    (hsn : s < n) (hvn : v < n) (hN : n + 3 < a.tmps.size) (hm : m ≤ n)
    (hk : ∀ a', Kept m a a' → K a' (w.setCell ⟨pb, po + o, none⟩ x)) :
    (Code.region id ⟨[⟨some n, .move (.tmp s), t1, p1, e1, none⟩, ⟨some (n + 1), .move (.tmp v), t2, p2, e2, none⟩, ⟨some (n + 2), .nilCheck (.tmp n), t3, p3, e3, none⟩,
      ⟨some (n + 3), .fieldAddr S (.tmp (n + 2)) k, t4, p4, e4, none⟩, ⟨none, .store T (.tmp (n + 3)) (.tmp (n + 1)), t5, p5, e5, none⟩]⟩ false).wp P (Exit.then K Q) a w := by
  refine wp_reg ?_
  rw [wpl_cons, wp_move, eval_tmp, hs, wpl_cons, wp_move, eval_tmp]
  rw [get_put_ne (show n ≠ v by omega), hv, wpl_cons]
  generalize ha1 : (a.put (some n) (Value.pointer (some ⟨pb, po, none⟩))).put (some (n + 1)) x = a1
  have hk1 : Kept m a a1 := by subst ha1; exact (Kept.put0 (by omega) _).put (by omega) _
  have g1 : get a1 n = .pointer (some ⟨pb, po, none⟩) := by subst ha1; rw [get_put_ne (by omega), get_put_same (by omega)]
  have g2 : get a1 (n + 1) = x := by subst ha1; rw [get_put_same (by simp only [size_put]; omega)]
  have hz := hk1.size
  refine wp_nilCheck (q := ⟨pb, po, none⟩) g1 ?_
  rw [wpl_cons]
  refine wp_fieldAddr (b := pb) (i := po) hF (get_put_same (by omega)) ?_
  rw [wpl_cons]
  refine wp_store (v := x) hT (get_put_same (by simp only [size_put]; omega)) (by rw [eval_tmp, get_put_ne (by omega), get_put_ne (by omega), g2]) h1 ht ?_
  exact hk _ ((hk1.put (by omega) _).put (by omega) _)

/-- 'v := b.M()' -/
theorem r_call {id n b v m : Nat} {f : FuncId} {ts : Array TypeId} {t1 t2 : TypeId} {p1 p2 : String} {e1 e2 : Array Edge} {R : Value → World → Prop} {u : Value}
    (he : Enters P f) (hb : get a b = u) (hc : Calls P f #[u] w fun e w' => ∃ x, e = .returned x ∧ R x w')
    (hn : n < a.tmps.size) (hv : v < a.tmps.size) (hm : m ≤ n) (hmv : m ≤ v)
    (hk : ∀ a' x w', R x w' → Kept m a a' → get a' v = x → K a' w') :
    (Code.region id ⟨[⟨some n, .call ⟨.value (.func f), #[.tmp b], ts⟩, t1, p1, e1, none⟩, ⟨some v, .assign (.tmp n), t2, p2, e2, none⟩]⟩ false).wp P (Exit.then K Q) a w := by
  refine wp_reg ?_
  rw [wpl_cons]
  refine wp_calls he (vs := #[u]) (by simp [eval_tmp, hb]) hc ?_
  intro x w' hR
  rw [wpl_cons, wp_assign, eval_tmp, get_put_same hn]
  refine hk _ x w' hR ((Kept.put0 hm _).put hmv _) (get_put_same (by simpa [size_put] using hv))

/-- 'v := s.F' -/
theorem r_load {id n s v m : Nat} {S T k o pb po : Nat} {x : Value} {t1 t2 t3 t4 t5 : TypeId} {p1 p2 p3 p4 p5 : String} {e1 e2 e3 e4 e5 : Array Edge}
    (hs : get a s = .pointer (some ⟨pb, po, none⟩)) (hT : scal P T = true) (hF : fieldOf P S k o = true) (hc : w.cell? ⟨pb, po + o, none⟩ = some x)
    (hsn : s < n) (hN : n + 3 < a.tmps.size) (hv : v < a.tmps.size) (hm : m ≤ n) (hmv : m ≤ v)
    (hk : ∀ a', Kept m a a' → get a' v = x → K a' w) :
    (Code.region id ⟨[⟨some n, .move (.tmp s), t1, p1, e1, none⟩, ⟨some (n + 1), .nilCheck (.tmp n), t2, p2, e2, none⟩,
      ⟨some (n + 2), .fieldAddr S (.tmp (n + 1)) k, t3, p3, e3, none⟩, ⟨some (n + 3), .load T (.tmp (n + 2)), t4, p4, e4, none⟩, ⟨some v, .assign (.tmp (n + 3)), t5, p5, e5, none⟩]⟩ false).wp P (Exit.then K Q) a w := by
  refine wp_reg ?_
  rw [wpl_cons, wp_move, eval_tmp, hs]
  rw [wpl_cons]
  refine wp_nilCheck (q := ⟨pb, po, none⟩) (by simp (disch := omega) only [eval_tmp, get_put_same]) ?_
  rw [wpl_cons]
  refine wp_fieldAddr (b := pb) (i := po) hF (by simp (disch := (first | omega | (simp only [size_put]; omega))) only [eval_tmp, get_put_same, size_put]) ?_
  rw [wpl_cons]
  refine wp_load hT (by simp (disch := (first | omega | (simp only [size_put]; omega))) only [eval_tmp, get_put_same, size_put]) hc ?_
  rw [wpl_cons, wp_assign, eval_tmp, get_put_same (by simp only [size_put]; omega)]
  exact hk _ (((((Kept.put0 (by omega) _).put (by omega) _).put (by omega) _).put (by omega) _).put hmv _) (get_put_same (by simp only [size_put]; omega))

/-- 'v := u' -/
theorem r_copy {id n s v m : Nat} {t1 t2 : TypeId} {p1 p2 : String} {e1 e2 : Array Edge}
    (hn : n < a.tmps.size) (hv : v < a.tmps.size) (hm : m ≤ n) (hmv : m ≤ v) (hk : ∀ a', Kept m a a' → get a' v = get a s → K a' w) :
    (Code.region id ⟨[⟨some n, .move (.tmp s), t1, p1, e1, none⟩, ⟨some v, .assign (.tmp n), t2, p2, e2, none⟩]⟩ false).wp P (Exit.then K Q) a w := by
  refine wp_reg ?_
  rw [wpl_cons, wp_move, wpl_cons, wp_assign, eval_tmp, eval_tmp, get_put_same hn]
  exact hk _ ((Kept.put0 hm _).put hmv _) (get_put_same (by simpa [size_put] using hv))
/-- 'var v T' -/
theorem r_const {id v m : Nat} {x : Value} {t1 : TypeId} {p1 : String} {e1 : Array Edge} (hv : v < a.tmps.size) (hmv : m ≤ v) (hk : ∀ a', Kept m a a' → get a' v = x → K a' w) :
    (Code.region id ⟨[⟨some v, .assign (.const x), t1, p1, e1, none⟩]⟩ false).wp P (Exit.then K Q) a w := by
  refine wp_reg ?_
  rw [wpl_cons, wp_assign, eval_const]
  exact hk _ (Kept.put0 hmv _) (get_put_same hv)
/-- '_ = v', and what a condition looks at -/
theorem r_look {id n s m : Nat} {t1 : TypeId} {p1 : String} {e1 : Array Edge} (hn : n < a.tmps.size) (hm : m ≤ n) (hk : ∀ a', Kept m a a' → get a' n = get a s → K a' w) :
    (Code.region id ⟨[⟨some n, .move (.tmp s), t1, p1, e1, none⟩]⟩ false).wp P (Exit.then K Q) a w := by
  refine wp_reg ?_
  rw [wpl_cons, wp_move, eval_tmp]
  exact hk _ (Kept.put0 hm _) (get_put_same hn)

/-- A condition on a slot that is looked at: 'if u { .. } else { .. }' -/
theorem r_if {id n s m : Nat} {t1 : TypeId} {p1 : String} {e1 : Array Edge} {b : Bool} {c1 c2 : Code} (hn : n < a.tmps.size) (hm : m ≤ n) (hs : get a s = .bool b)
    (h1 : b = true → ∀ a', Kept m a a' → c1.wp P (Exit.then K Q) a' w) (h2 : b = false → ∀ a', Kept m a a' → c2.wp P (Exit.then K Q) a' w) :
    (Code.seq (Code.region id ⟨[⟨some n, .move (.tmp s), t1, p1, e1, none⟩]⟩ false) (.cond (.tmp n) c1 c2)).wp P (Exit.then K Q) a w := by
  refine wp_seq_k fun K1 hK1 => ?_
  refine r_look hn hm fun a' hka hg => hK1 a' w ?_
  refine wp_cond_split (t := b) (by rw [eval_tmp, hg, hs]) ?_ ?_
  · intro h; exact h1 h a' hka
  · intro h; exact h2 h a' hka

def cmpR : BinOp → Int → Int → Option Bool
  | .lss, i, j => some (decide (i < j))
  | .gtr, i, j => some (decide (i > j))
  | .geq, i, j => some (decide (i ≥ j))
  | .leq, i, j => some (decide (i ≤ j))
  | .eql, i, j => some (i == j)
  | .neq, i, j => some (i != j)
  | _, _, _ => none
theorem wp_cmp {d : Option Tmp} {t : TypeId} {p : String} {af : Array Edge} {g : Option (Nat × Bool)} {s u : TypeId} {x y : Operand} {k1 : IntKind} {i j : Int} {op : BinOp} {r : Bool} (hop : cmpR op i j = some r)
    (hx : a.eval x = .int k1 i) (hy : a.eval y = .int k1 j) (k : K (a.put d (.bool r)) w) : OW P ⟨d, .binOp op s x y u, t, p, af, g⟩ a w K Q := by
  refine wp_val (v := .bool r) (w' := w) ?_ k
  cases op <;> simp only [cmpR, Option.some.injEq, reduceCtorEq] at hop <;> subst hop <;> simp [execOp, hx, hy, eqGuard, binOp, Op.intCmp]
/-- A comparison of a slot with a constant: '(version >= k)' -/
theorem r_cmp {id n s m : Nat} {t1 t2 : TypeId} {p1 p2 : String} {e1 e2 : Array Edge} {op : BinOp} {T U : TypeId} {k : IntKind} {i j : Int} {r : Bool} (hn : n + 1 < a.tmps.size) (hm : m ≤ n) (hs : get a s = .int k i)
    (hop : cmpR op i j = some r) (hk : ∀ a', Kept m a a' → get a' (n + 1) = .bool r → K a' w) :
    (Code.region id ⟨[⟨some n, .move (.tmp s), t1, p1, e1, none⟩, ⟨some (n + 1), .binOp op T (.tmp n) (.const (.int k j)) U, t2, p2, e2, none⟩]⟩ false).wp P (Exit.then K Q) a w := by
  refine wp_reg ?_
  rw [wpl_cons, wp_move, eval_tmp, hs, wpl_cons]
  refine wp_cmp (k1 := k) (i := i) (j := j) hop (by rw [eval_tmp, get_put_same (by omega)]) rfl ?_
  exact hk _ ((Kept.put0 hm _).put (by omega) _) (get_put_same (by simp only [size_put]; omega))

/-- Two slots compared: 'i < l' -/
theorem r_lss {id n s u m : Nat} {t1 t2 t3 : TypeId} {p1 p2 p3 : String} {e1 e2 e3 : Array Edge} {T U : TypeId} {k : IntKind} {i j : Int} (hn : n + 2 < a.tmps.size) (hm : m ≤ n) (hun : u < n) (hs : get a s = .int k i) (hu : get a u = .int k j)
    (hk : ∀ a', Kept m a a' → get a' (n + 2) = .bool (decide (i < j)) → K a' w) :
    (Code.region id ⟨[⟨some n, .move (.tmp s), t1, p1, e1, none⟩, ⟨some (n + 1), .move (.tmp u), t2, p2, e2, none⟩, ⟨some (n + 2), .binOp .lss T (.tmp n) (.tmp (n + 1)) U, t3, p3, e3, none⟩]⟩ false).wp P (Exit.then K Q) a w := by
  refine wp_reg ?_
  rw [wpl_cons, wp_move, eval_tmp, hs, wpl_cons, wp_move, eval_tmp, get_put_ne (by omega), hu, wpl_cons]
  refine wp_lss (k1 := k) (i := i) (j := j) (by rw [eval_tmp, get_put_ne (by omega), get_put_same (by omega)]) (by rw [eval_tmp, get_put_same (by simp only [size_put]; omega)]) ?_
  exact hk _ (((Kept.put0 hm _).put (by omega) _).put (by omega) _) (get_put_same (by simp only [size_put]; omega))
/-- 'i++' -/
theorem r_inc {id n s m : Nat} {t1 t2 t3 : TypeId} {p1 p2 p3 : String} {e1 e2 e3 : Array Edge} {T U : TypeId} {k : IntKind} {i j : Int} (hn : n + 1 < a.tmps.size) (hsn : s < a.tmps.size) (hm : m ≤ n) (hms : m ≤ s) (hs : get a s = .int k i)
    (hk : ∀ a', Kept m a a' → get a' s = .int k (k.wrap (i + j)) → K a' w) :
    (Code.region id ⟨[⟨some n, .move (.tmp s), t1, p1, e1, none⟩, ⟨some (n + 1), .binOp .add T (.tmp n) (.const (.int k j)) U, t2, p2, e2, none⟩, ⟨some s, .assign (.tmp (n + 1)), t3, p3, e3, none⟩]⟩ false).wp P (Exit.then K Q) a w := by
  refine wp_reg ?_
  rw [wpl_cons, wp_move, eval_tmp, hs, wpl_cons]
  refine wp_add (k1 := k) (i := i) (j := j) (by rw [eval_tmp, get_put_same (by omega)]) rfl ?_
  rw [wpl_cons, wp_assign, eval_tmp, get_put_same (by simp only [size_put]; omega)]
  exact hk _ (((Kept.put0 hm _).put (by omega) _).put hms _) (get_put_same (by simp only [size_put]; omega))
/-- '!b.Ok()' -/
theorem r_callNot {id n b m : Nat} {f : FuncId} {ts : Array TypeId} {t1 t2 T : TypeId} {p1 p2 : String} {e1 e2 : Array Edge} {u : Value} {r : Bool}
    (he : Enters P f) (hb : get a b = u) (hc : Calls P f #[u] w fun e w' => e = .returned (.bool r) ∧ w' = w)
    (hn : n + 1 < a.tmps.size) (hm : m ≤ n) (hk : ∀ a', Kept m a a' → get a' (n + 1) = .bool (!r) → K a' w) :
    (Code.region id ⟨[⟨some n, .call ⟨.value (.func f), #[.tmp b], ts⟩, t1, p1, e1, none⟩, ⟨some (n + 1), .unOp .not T (.tmp n), t2, p2, e2, none⟩]⟩ false).wp P (Exit.then K Q) a w := by
  refine wp_reg ?_
  rw [wpl_cons]
  refine wp_calls (R := fun v w' => v = .bool r ∧ w' = w) he (vs := #[u]) (by simp [eval_tmp, hb]) (hc.mono (by rintro e w' ⟨rfl, rfl⟩; exact ⟨_, rfl, rfl, rfl⟩)) ?_
  rintro v w' ⟨rfl, rfl⟩
  refine wp_not (b := r) (by rw [eval_tmp, get_put_same (by omega)]) ?_
  exact hk _ ((Kept.put0 hm _).put (by omega) _) (get_put_same (by simp only [size_put]; omega))
/-- 'v := &a[i]' -/
theorem r_elem {id n s u v m : Nat} {t1 t2 t3 t4 : TypeId} {p1 p2 p3 p4 : String} {e1 e2 e3 e4 : Array Edge} {T e sz bs : Nat} {b o len cap : Nat} {k : IntKind} {i : Int}
    (hT : sliceOf P T e sz bs = true) (hs : get a s = .slice (some ⟨b, o, none⟩) len cap) (hu : get a u = .int k i) (h0 : 0 ≤ i) (h1 : i < len)
    (hn : n + 2 < a.tmps.size) (hv : v < a.tmps.size) (hm : m ≤ n) (hmv : m ≤ v) (hun : u < n)
    (hk : ∀ a', Kept m a a' → get a' v = .pointer (some ⟨b, o + i.toNat * sz, none⟩) → K a' w) :
    (Code.region id ⟨[⟨some n, .move (.tmp s), t1, p1, e1, none⟩, ⟨some (n + 1), .move (.tmp u), t2, p2, e2, none⟩, ⟨some (n + 2), .indexAddr T (.tmp n) (.tmp (n + 1)), t3, p3, e3, none⟩,
      ⟨some v, .assign (.tmp (n + 2)), t4, p4, e4, none⟩]⟩ false).wp P (Exit.then K Q) a w := by
  refine wp_reg ?_
  rw [wpl_cons, wp_move, eval_tmp, hs, wpl_cons, wp_move, eval_tmp, get_put_ne (by omega), hu, wpl_cons]
  refine wp_indexAddr (k1 := k) (i := i) hT (by rw [eval_tmp, get_put_ne (by omega), get_put_same (by omega)]) (by rw [eval_tmp, get_put_same (by simp only [size_put]; omega)]) h0 h1 ?_
  rw [wpl_cons, wp_assign, eval_tmp, get_put_same (by simp only [size_put]; omega)]
  exact hk _ ((((Kept.put0 hm _).put (by omega) _).put (by omega) _).put hmv _) (get_put_same (by simp only [size_put]; omega))
/-- 'v.Default()' -/
theorem r_do {id n s m : Nat} {f : FuncId} {ts : Array TypeId} {t1 t2 : TypeId} {p1 p2 : String} {e1 e2 : Array Edge} {R : World → Prop} {u : Value}
    (he : Enters P f) (hs : get a s = u) (hc : Calls P f #[u] w fun e w' => ∃ x, e = .returned x ∧ R w') (hn : n + 1 < a.tmps.size) (hm : m ≤ n)
    (hk : ∀ a' w', R w' → Kept m a a' → K a' w') :
    (Code.region id ⟨[⟨some n, .move (.tmp s), t1, p1, e1, none⟩, ⟨some (n + 1), .call ⟨.value (.func f), #[.tmp n], ts⟩, t2, p2, e2, none⟩]⟩ false).wp P (Exit.then K Q) a w := by
  refine wp_reg ?_
  rw [wpl_cons, wp_move, eval_tmp, hs, wpl_cons]
  refine wp_calls (R := fun _ w' => R w') he (vs := #[u]) (by simp [eval_tmp, get_put_same (show n < a.tmps.size by omega)]) hc ?_
  intro v w' hR
  exact hk _ w' hR ((Kept.put0 hm _).put (by omega) _)
/-- 'a = a[:0]' -/
theorem r_slice0 {id n s m : Nat} {t1 t2 t3 : TypeId} {p1 p2 p3 : String} {e1 e2 e3 : Array Edge} {T e sz bs : Nat} {q : Option Addr} {len cap : Nat}
    (hT : sliceOf P T e sz bs = true) (hs : get a s = .slice q len cap) (hn : n + 1 < a.tmps.size) (hsn : s < a.tmps.size) (hm : m ≤ n) (hms : m ≤ s)
    (hk : ∀ a', Kept m a a' → get a' s = .slice q 0 cap → (∀ t, t < n → t ≠ s → get a' t = get a t) → K a' w) :
    (Code.region id ⟨[⟨some n, .move (.tmp s), t1, p1, e1, none⟩, ⟨some (n + 1), .slice T (.tmp n) none (some (.const (.int .i64 0))) none, t2, p2, e2, none⟩, ⟨some s, .assign (.tmp (n + 1)), t3, p3, e3, none⟩]⟩ false).wp P (Exit.then K Q) a w := by
  refine wp_reg ?_
  rw [wpl_cons, wp_move, eval_tmp, hs, wpl_cons]
  refine wp_slice0 hT (by rw [eval_tmp, get_put_same (by omega)]) ?_
  rw [wpl_cons, wp_assign, eval_tmp, get_put_same (by simp only [size_put]; omega)]
  exact hk _ (((Kept.put0 hm _).put (by omega) _).put hms _) (get_put_same (by simp only [size_put]; omega))
    (fun t h1 h2 => by rw [get_put_ne (fun e => h2 e.symm), get_put_ne (by omega), get_put_ne (by omega)])

/-- The cells of n things at nought. -/
def zeros (z : List Value) (n : Nat) : List Value := (List.range (n * z.length)).map fun i => z[i % z.length]!
def zeroIs (P : Program) (e : TypeId) (z : List Value) : Prop := ∃ i v, P.info? e = some i ∧ i.zero = some v ∧ v.cells.toList = z
theorem zeroCells_list (z : Array Value) (n : Nat) : (Builtin.zeroCells z n).toList = zeros z.toList n := by
  simp [Builtin.zeroCells, zeros]
  intro i hi
  rw [getElem!_def]
  cases z[i % z.size]? <;> rfl
theorem length_zeros (z : List Value) (n : Nat) : (zeros z n).length = n * z.length := by simp [zeros]

theorem run_appendMake {T e sz bs it : Nat} {k : IntKind} {l : Nat} {z : List Value} (hT : sliceOf P T e sz bs = true) (hi : intOf P it k = true) (hz : zeroIs P e z) (h0 : 0 < l) (hl : l * bs ≤ 140737488355328) (hl2 : l ≤ 4294967296) :
    ∃ cap, l ≤ cap ∧ ∃ cs : Array Value, (Builtin.append_ #[T, it] T #[.slice none 0 0, .int k l]).run P w = .ok (.slice (some ⟨w.heap.size, 0, none⟩) l cap) (w.drew.alloc (.cells cs e)) ∧ cs.toList.take (l * z.length) = zeros z l ∧ l * z.length ≤ cs.size := by
  obtain ⟨hu, i, v, hinf, hs, hb, hzz, hn⟩ := under_slice hT
  obtain ⟨i', v', hinf', hz', rfl⟩ := hz
  rw [hinf] at hinf'
  obtain rfl := Option.some.inj hinf'
  rw [hzz] at hz'
  obtain rfl := Option.some.inj hz'
  have hw : IntKind.i64.wrap (l : Int) = l := by simp [IntKind.wrap, IntKind.bits, IntKind.signed]; omega
  have hns := nextslicecap_zero h0
  subst hb
  have hbi : (l : Int) * (i.bytes : Int) = ((l * i.bytes : Nat) : Int) := by simp
  refine ⟨grownCap w l 0 e, by have := grownCap_ge w l 0 e; omega, Builtin.zeroCells v.cells l ++ Builtin.zeroCells v.cells (grownCap w l 0 e - l), ?_, ?_, ?_⟩
  · have hl0 : l ≠ 0 := by omega
    have hs0 : i.size ≠ 0 := by omega
    have hls : l * i.size ≠ 0 := Nat.mul_ne_zero hl0 hs0
    have hb2 : (l : Int) * ↑i.bytes ≤ 281474976710656 := by rw [hbi]; omega
    have hb3 : l * i.bytes ≤ 281474976710656 := by omega
    have h63 : (l : Int) ≤ 9223372036854775807 := by omega
    simp [Builtin.append_, run_underlying hu, run_underlying (under_int hi), sizeOf, typeInfo, zeroValue, hinf, hzz, asInt, asIntOf, hw, hl0, hs0, hls, hns, Builtin.firstCells, newRow, grownCap, Question.forced, hb2, hb3, h63,
      show ¬ ((l : Int) < 0) by omega, show ¬ (9223372036854775807 < (l : Int)) by omega, show ¬ (281474976710656 < (l : Int) * ↑i.bytes) by rw [hbi]; omega, show ¬ (281474976710656 < l * i.bytes) by omega]
  · rw [Array.toList_append, zeroCells_list]
    have : l * v.cells.toList.length = (zeros v.cells.toList l).length := (length_zeros _ _).symm
    rw [this, List.take_left]
  · simp [Builtin.zeroCells]

/-- 'a = append(a, make([]T, l)...)' where a is nil -/
theorem r_appendMake {id n s u m : Nat} {t1 t2 t3 t4 : TypeId} {p1 p2 p3 p4 : String} {e1 e2 e3 e4 : Array Edge} {T e sz bs it : Nat} {k : IntKind} {l : Nat} {z : List Value}
    (hT : sliceOf P T e sz bs = true) (hi : intOf P it k = true) (hz : zeroIs P e z) (h0 : 0 < l) (hl : l * bs ≤ 140737488355328) (hl2 : l ≤ 4294967296)
    (hs : get a s = .slice none 0 0) (hu : get a u = .int k l) (hn : n + 2 < a.tmps.size) (hsn : s < a.tmps.size) (hun : u < n) (hm : m ≤ n) (hms : m ≤ s) (htt : t3 = T)
    (hk : ∀ a' w' b cap, Kept m a a' → get a' s = .slice (some ⟨b, 0, none⟩) l cap → l ≤ cap → w.heap.size ≤ b → b < w'.heap.size → w'.rangeAt b 0 (zeros z l) → w'.there b 0 (l * z.length) → Fr [] w w' → (∀ t, t < n → t ≠ s → get a' t = get a t) → K a' w') :
    (Code.region id ⟨[⟨some n, .move (.tmp s), t1, p1, e1, none⟩, ⟨some (n + 1), .move (.tmp u), t2, p2, e2, none⟩, ⟨some (n + 2), .call ⟨.builtin .append, #[.tmp n, .tmp (n + 1)], #[T, it]⟩, t3, p3, e3, none⟩,
      ⟨some s, .assign (.tmp (n + 2)), t4, p4, e4, none⟩]⟩ false).wp P (Exit.then K Q) a w := by
  subst htt
  refine wp_reg ?_
  rw [wpl_cons, wp_move, eval_tmp, hs, wpl_cons, wp_move, eval_tmp, get_put_ne (by omega), hu, wpl_cons]
  obtain ⟨cap, hcap, cs, hr, htk, hsz⟩ := run_appendMake (w := w) hT hi hz h0 hl hl2
  refine wp_val (v := .slice (some ⟨w.heap.size, 0, none⟩) l cap) (w' := w.drew.alloc (.cells cs e)) ?_ ?_
  · have x1 : ((a.put (some n) (.slice none 0 0)).put (some (n + 1)) (.int k l)).eval (.tmp n) = .slice none 0 0 := by rw [eval_tmp, get_put_ne (by omega), get_put_same (by omega)]
    have x2 : ((a.put (some n) (.slice none 0 0)).put (some (n + 1)) (.int k l)).eval (.tmp (n + 1)) = .int k l := by rw [eval_tmp, get_put_same (by simp only [size_put]; omega)]
    simp [execOp, resolve, invoke, builtin, x1, x2, hr]
  · rw [wpl_cons, wp_assign, eval_tmp, get_put_same (by simp only [size_put]; omega)]
    have hrn := range_new w.drew cs e (0, 0)
    refine hk _ _ w.heap.size cap ((((Kept.put0 hm _).put (by omega) _).put (by omega) _).put hms _) (get_put_same (by simp only [size_put]; omega)) hcap (Nat.le_refl _) (by rw [size_alloc]; show w.heap.size < w.heap.size + 1; omega) ?_ ?_ ((Fr.drew [] w).tr (Fr.alloc [] w.drew _))
      (fun t h1 h2 => by rw [get_put_ne (fun e => h2 e.symm), get_put_ne (by omega), get_put_ne (by omega), get_put_ne (by omega)])
    · have := range_part hrn 0 (l * z.length)
      rw [List.drop_zero, htk] at this
      exact this
    · exact there_part (there_new w.drew cs e) (Nat.le_refl _) (by omega)

end Go.Kq
