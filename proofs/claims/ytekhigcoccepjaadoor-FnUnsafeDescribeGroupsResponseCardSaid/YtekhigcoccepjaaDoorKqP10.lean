/- A map of tags ranged over; lists without twins, in order. -/
import Derived.Test.YtekhigcoccepjaaDoorKqP09
import Derived.Test.YtekhigcoccepjaaDoorKqP07
set_option linter.unusedVariables false
set_option linter.unusedSimpArgs false
namespace Go.Kq
open Go Go.Proofs

/-! ### the steps -/
variable {P : Program} {a : Act} {w : World} {K : Act → World → Prop} {Q : Exit → Act → World → Prop} {d : Option Tmp} {t : TypeId} {p : String} {af : Array Edge} {g : Option (Nat × Bool)}
theorem wp_rangeMap {T kt et : TypeId} {r : Nat} {x : Operand} {es : Array MapEntry} {clock : Nat} (hT : mapOf P T kt et = true) (hx : a.eval x = .map (some r)) (hb : w.heap[r]? = some (.map es clock))
    (k : K (a.put d (.pointer (some ⟨w.heap.size, 0, none⟩))) (w.alloc (.mapIter (some r) clock #[] clock))) : OW P ⟨d, .range T x, t, p, af, g⟩ a w K Q := by
  obtain ⟨hu, _⟩ := under_map hT
  refine wp_val (v := .pointer (some ⟨w.heap.size, 0, none⟩)) (w' := w.alloc (.mapIter (some r) clock #[] clock)) ?_ k
  simp [execOp, hx, Instr.range, run_underlying hu, run_getObj hb, newObj, Sem.run]
theorem setBlock_iter (w : World) (it : Nat) (o : Obj) {m : Option Nat} {s c : Nat} {seen : Array Nat} (h : w.heap[it]? = some (.mapIter m s seen c)) : Fr [⟨it, 0, 0⟩] w (ChangeMaps.setBlock w it o) :=
  setBlock_fr w it o (fun cs T fz e => by rw [h] at e; cases e)
theorem wp_nextMap {x : Operand} {it r since c0 clock : Nat} {seen : Array Nat} {es : Array MapEntry} (hx : a.eval x = .pointer (some ⟨it, 0, none⟩)) (hr : w.heap[it]? = some (.mapIter (some r) since seen c0)) (hb : w.heap[r]? = some (.map es clock))
    (hold : ∀ e ∈ es.toList, e.born < since) (hsc : since ≤ c0)
    (h0 : (∀ e ∈ es.toList, e.born ∈ seen.toList) → K (a.put d (.tuple #[.bool false])) w)
    (h1 : ∀ e ∈ es.toList, e.born ∉ seen.toList → ∀ w', Fr [⟨it, 0, 0⟩] w w' → w'.heap[it]? = some (.mapIter (some r) since (seen.push e.born) clock) → K (a.put d (.tuple #[.bool true, e.key, e.val])) w') : OW P ⟨d, .next x false, t, p, af, g⟩ a w K Q := by
  rcases run_next_at (P := P) w t it r since c0 seen es clock hr hb hold hsc with ⟨hz, hrun⟩ | ⟨e, he, w1, hw1, hrun⟩
  · refine wp_val (v := .tuple #[.bool false]) (w' := w) ?_ (h0 ?_)
    · simp [execOp, hx, hrun]
    · intro e he
      have hl : leftOf es seen = #[] := Array.eq_empty_of_size_eq_zero hz
      unfold leftOf at hl
      rw [Array.filter_eq_empty_iff] at hl
      have := hl e (by simpa using he)
      simpa using this
  · have hm : e ∈ es.toList ∧ e.born ∉ seen.toList := by
      unfold leftOf at he
      simp at he
      simpa using he
    refine wp_val (v := .tuple #[.bool true, e.key, e.val]) (w' := ChangeMaps.setBlock w1 it (.mapIter (some r) since (seen.push e.born) clock)) ?_ (h1 e hm.1 hm.2 _ ?_ ?_)
    · simp only [execOp, hx, hrun, Sem.run_bind, Result.andThen_ok, Sem.run_pure]
    · rcases hw1 with rfl | rfl
      · exact setBlock_iter w1 it _ hr
      · exact (Fr.drew _ w).tr (setBlock_iter w.drew it _ hr)
    · refine setBlock_at w1 it _ ?_
      rcases hw1 with rfl | rfl <;> exact lt_of_block hr
theorem wp_entryMap {x : Operand} {it r since clock : Nat} {seen : Array Nat} {es : Array MapEntry} {e : MapEntry} (hx : a.eval x = .pointer (some ⟨it, 0, none⟩)) (hr : w.heap[it]? = some (.mapIter (some r) since (seen.push e.born) clock)) (hb : w.heap[r]? = some (.map es clock))
    (he : e ∈ es.toList) (hn : (es.toList.map (·.born)).Nodup) (k : K (a.put d (.tuple #[e.key, e.val])) w) : OW P ⟨d, .entry x, t, p, af, g⟩ a w K Q :=
  wp_val (v := .tuple #[e.key, e.val]) (w' := w) (by simp [execOp, hx, run_entry_at (P := P) w it r since seen es clock e hr hb he hn]) k
theorem wp_make0 {T e sz bs : Nat} {z : List Value} {n : Nat} {y : Operand} (hT : sliceOf P T e sz bs = true) (hz : zeroIs P e z) (hb : bs * n ≤ 281474976710656) (h63 : n ≤ 9223372036854775807) (hy : a.eval y = .int .i64 n)
    (k : K (a.put d (.slice (some ⟨w.heap.size, 0, none⟩) 0 n)) (w.alloc (.cells (madeCells z.toArray (n * sz)) e))) : OW P ⟨d, .makeSlice T (.const (.int .i64 0)) y, t, p, af, g⟩ a w K Q := by
  obtain ⟨hu, i, z0, hi, hs, hby, hzz, hsz0⟩ := under_slice hT
  obtain ⟨i', v0, hi', hz', rfl⟩ := hz
  rw [hi] at hi'
  obtain rfl := Option.some.inj hi'
  rw [hzz] at hz'
  obtain rfl := Option.some.inj hz'
  subst hs
  subst hby
  have h2 : (i.bytes : Int) * (n : Int) ≤ 281474976710656 := by rw [← Int.natCast_mul]; omega
  have hr := run_make (P := P) w T e i z0 hu hi hzz .i64 .i64 (0 : Int) (n : Int) (by omega) (by omega) h2 (by omega)
  refine wp_val (v := .slice (some ⟨w.heap.size, 0, none⟩) 0 n) (w' := w.alloc (.cells (madeCells z0.cells.toList.toArray (n * i.size)) e)) ?_ k
  simp only [execOp, eval_const, hy, Sem.run_bind, hr, Result.andThen_ok, Sem.run_pure, Array.toArray_toList, Int.toNat_natCast]
  rfl
theorem wp_makeIface {T : TypeId} {x : Operand} {v : Value} (hx : a.eval x = v) {e n b : Nat} (hT : sliceOf P T e n b = true) (k : K (a.put d (.iface T v)) w) : OW P ⟨d, .makeInterface T x, t, p, af, g⟩ a w K Q :=
  wp_val (v := .iface T v) (w' := w) (by simp [execOp, hx, Instr.makeInterface, run_underlying (under_slice hT).1]) k
theorem wp_makeFunc1 {f : FuncId} {x : Operand} {v : Value} (hx : a.eval x = v) (k : K (a.put d (.func (.func f) #[] #[v])) w) : OW P ⟨d, .makeFunc (.func f) #[] #[x], t, p, af, g⟩ a w K Q :=
  wp_val (v := .func (.func f) #[] #[v]) (w' := w) (by simp [execOp, hx, Instr.makeFunc]) k
/-- A call of a function value. -/
theorem wp_callF {f : FuncId} {caps : Array Value} {y : Operand} {xs : Array Operand} {ts : Array TypeId} {vs : Array Value} {R : Value → World → Prop} (he : Enters P f) (hy : a.eval y = .func (.func f) #[] caps) (hx : xs.map a.eval = vs)
    (hc : Calls P f (vs ++ caps) w fun e w' => ∃ v, e = .returned v ∧ R v w') (k : ∀ v w', R v w' → K (a.put d v) w') (hyt : ∃ n, y = .tmp n) : OW P ⟨d, .call ⟨.value y, xs, ts⟩, t, p, af, g⟩ a w K Q := by
  obtain ⟨n, rfl⟩ := hyt
  constructor
  unfold Oper.wp
  have : (execOp a.eval ⟨d, .call ⟨.value (.tmp n), xs, ts⟩, t, p, af, g⟩).run P w = .ok (.enter f (vs ++ caps)) w := by
    have := he (vs ++ caps) w
    simp [execOp, resolve, hy, Deferred.ofValue, invoke, hx, this]
  rw [this]
  exact hc.mono (by rintro e w' ⟨v, rfl, h⟩; exact k v w' h)

def u32s (ks : List Nat) : List Value := ks.map fun k : Nat => .int .u32 k
/-- sort.Slice of keys. -/
structure SortM (P : Program) (T : TypeId) (fs fl : FuncId) : Prop where
  enters : Enters P fs
  call : ∀ w ob b o c (ks : List Nat), w.cell? ⟨ob, 0, none⟩ = some (.slice (some ⟨b, o, none⟩) ks.length c) → w.rangeAt b o (u32s ks) → w.there b o ks.length → ob ≠ b → (∀ k ∈ ks, k < 4294967296) → ks.length ≤ 4294967296 → ks ≠ [] →
    Calls P fs #[.iface T (.slice (some ⟨b, o, none⟩) ks.length c), .func (.func fl) #[] #[.pointer (some ⟨ob, 0, none⟩)]] w fun e w' => (∃ z, e = .returned z) ∧ ∃ ks' : List Nat, ks'.Perm ks ∧ ks'.Pairwise (· ≤ ·) ∧ w'.rangeAt b o (u32s ks') ∧ Fr [⟨b, o, o + ks.length⟩] w w'

/-- Tags.Each: what is called, keeps a relation I of what has been handed out; it turns what it owns, and new blocks. -/
structure EachM (P : Program) (f : FuncId) : Prop where
  enters : Enters P f
  call : ∀ (w : World) (A : Nat → Prop) (tb to : Nat) (v : Value) (x : V) (g : FuncId) (caps : Array Value) (I : List (Nat × V) → List Rng → World → Prop) (own : List Rng),
    w.cell? ⟨tb, to, none⟩ = some v → Rep w A .tags [v] x → (∀ b, A b → b < w.heap.size) → Enters P g → I [] own w → (∀ z ∈ own, ¬ A z.b ∧ z.b ≠ tb ∧ z.b < w.heap.size) →
    (∀ done own w w', I done own w → Fr [] w w' → I done own w') →
    (∀ done own w1 (k : Nat) y u, I done own w1 → (k, V.oct y) ∈ tagKv x → Octs w1 A u y → done.length < (tagKv x).length → w.heap.size ≤ w1.heap.size → Calls P g (#[.int .u32 (k : Int), u] ++ caps) w1 fun e w' => (∃ z, e = .returned z) ∧ ∃ own', I (done ++ [(k, .oct y)]) own' w' ∧ Fr own w1 w' ∧ ∀ z ∈ own', z.In own w1) →
    Calls P f #[.pointer (some ⟨tb, to, none⟩), .func (.func g) #[] caps] w fun e w' => (∃ z, e = .returned z) ∧ ∃ own', I (sortKv (tagKv x)) own' w' ∧ Fr own w w' ∧ ∀ z ∈ own', z.In own w
end Go.Kq

/- Tags.Each. Written by mk_each.py. -/
namespace Go.Kq
open Go Go.Proofs

def keyN : Value → Nat
  | .int _ n => n.toNat
  | _ => 0
theorem Entries.keys {w : World} {A : Nat → Prop} : ∀ {es : List MapEntry} {kv : List (Nat × V)}, Entries w A es kv → kv.map (·.1) = es.map (fun e => keyN e.key) ∧ ∀ e ∈ es, e.key = .int .u32 (keyN e.key : Int) ∧ keyN e.key < 4294967296
  | [], kv, h => by have : kv = [] := h; subst this; simp
  | e0 :: es, kv, h => by
    obtain ⟨k, x, r, rfl, h2, h3, h4, h5⟩ := h
    obtain ⟨i1, i2⟩ := h5.keys
    refine ⟨by simp [i1, h3, keyN], fun e he => ?_⟩
    rcases List.mem_cons.1 he with rfl | he
    · rw [h3]; exact ⟨by simp [keyN], by simpa [keyN] using h2⟩
    · exact i2 e he

set_option maxRecDepth 10000 in
theorem each_m {P : Program} {f : FuncId} {fn : Func} {kt et e59 bs : TypeId} {T3 T59 T97 T99 T146 : TypeId} {f97 f98 : FuncId} {a0 a1 : Array TypeId} {i0 i1 i2 i3 i4 i5 i6 i7 i8 i9 i10 i11 : Nat}
    {t0 t1 t2 t3 t4 t5 t6 t7 t8 t9 t10 t11 t12 t13 t14 t15 t16 t17 t18 t19 t20 t21 t22 t23 t24 t25 t26 t27 t28 t29 t30 t31 t32 t33 t34 t35 t36 t37 t38 t39 t40 t41 t42 t43 t44 t45 t46 t47 t48 t49 t50 : TypeId} {p0 p1 p2 p3 p4 p5 p6 p7 p8 p9 p10 p11 p12 p13 p14 p15 p16 p17 p18 p19 p20 p21 p22 p23 p24 p25 p26 p27 p28 p29 p30 p31 p32 p33 p34 p35 p36 p37 p38 p39 p40 p41 p42 p43 p44 p45 p46 p47 p48 p49 p50 : String} {e0 e1 e2 e3 e4 e5 e6 e7 e8 e9 e10 e11 e12 e13 e14 e15 e16 e17 e18 e19 e20 e21 e22 e23 e24 e25 e26 e27 e28 e29 e30 e31 e32 e33 e34 e35 e36 e37 e38 e39 e40 e41 e42 e43 e44 e45 e46 e47 e48 e49 e50 : Array Edge}
    (hf : P.funcs[f]? = some fn) (hname : (fn.name == "runtime.NumGoroutine") = false) (hres : fn.results = #[]) (hN : fn.ntmps = 53)
    (hbody : fn.body = some (.seq (.seq (Code.region i0 ⟨[⟨some 8, .move (.tmp 0), t0, p0, e0, none⟩,
    ⟨some 9, .nilCheck (.tmp 8), t1, p1, e1, none⟩,
    ⟨some 10, .fieldAddr T99 (.tmp 9) 0, t2, p2, e2, none⟩,
    ⟨some 11, .load T97 (.tmp 10), t3, p3, e3, none⟩,
    ⟨some 12, .call ⟨.builtin .len, #[(.tmp 11)], #[T97]⟩, t4, p4, e4, none⟩,
    ⟨some 13, .binOp .eql T3 (.tmp 12) (.const (.int .i64 0)) T3, t5, p5, e5, none⟩]⟩ false)
  (.cond (.tmp 13) .ret
  .skip))
  (.seq (Code.region i1 ⟨[⟨some 14, .move (.tmp 0), t6, p6, e6, none⟩,
    ⟨some 15, .nilCheck (.tmp 14), t7, p7, e7, none⟩,
    ⟨some 16, .fieldAddr T99 (.tmp 15) 0, t8, p8, e8, none⟩,
    ⟨some 17, .load T97 (.tmp 16), t9, p9, e9, none⟩,
    ⟨some 18, .call ⟨.builtin .len, #[(.tmp 17)], #[T97]⟩, t10, p10, e10, none⟩,
    ⟨some 19, .makeSlice T146 (.const (.int .i64 0)) (.tmp 18), t11, p11, e11, none⟩,
    ⟨some 4, .alloc T146, t12, p12, e12, none⟩,
    ⟨none, .store T146 (.tmp 4) (.tmp 19), t13, p13, e13, none⟩]⟩ false)
  (.seq (.seq (Code.region i2 ⟨[⟨some 20, .move (.tmp 0), t14, p14, e14, none⟩,
    ⟨some 21, .nilCheck (.tmp 20), t15, p15, e15, none⟩,
    ⟨some 22, .fieldAddr T99 (.tmp 21) 0, t16, p16, e16, none⟩,
    ⟨some 23, .load T97 (.tmp 22), t17, p17, e17, none⟩,
    ⟨some 24, .range T97 (.tmp 23), t18, p18, e18, none⟩]⟩ false)
  (.block 0 (.loop (.seq (Code.region i3 ⟨[⟨some 25, .next (.tmp 24) false, t19, p19, e19, none⟩,
    ⟨some 26, .extract (.tmp 25) 0, t20, p20, e20, none⟩]⟩ false)
  (.seq (.cond (.tmp 26) .skip
  (.exit 0))
  (.block 1 (.seq (Code.region i4 ⟨[⟨some 27, .entry (.tmp 24), t21, p21, e21, none⟩,
    ⟨some 28, .extract (.tmp 27) 0, t22, p22, e22, none⟩,
    ⟨some 5, .assign (.tmp 28), t23, p23, e23, none⟩]⟩ false)
  (Code.region i5 ⟨[⟨some 29, .load T146 (.tmp 4), t24, p24, e24, none⟩,
    ⟨some 30, .move (.tmp 5), t25, p25, e25, none⟩,
    ⟨some 31, .buildSlice T146 1 #[(0, .tmp 30)], t26, p26, e26, none⟩,
    ⟨some 32, .call ⟨.builtin .append, #[(.tmp 29), (.tmp 31)], #[T146, T146]⟩, t27, p27, e27, none⟩,
    ⟨none, .store T146 (.tmp 4) (.tmp 32), t28, p28, e28, none⟩]⟩ false))))))))
  (.seq (Code.region i6 ⟨[⟨some 33, .load T146 (.tmp 4), t29, p29, e29, none⟩,
    ⟨some 34, .makeInterface T146 (.tmp 33), t30, p30, e30, none⟩,
    ⟨some 35, .makeFunc (.func f98) #[] #[(.tmp 4)], t31, p31, e31, none⟩,
    ⟨some 36, .call ⟨.value (.func f97), #[(.tmp 34), (.tmp 35)], a0⟩, t32, p32, e32, none⟩]⟩ false)
  (.seq (Code.region i7 ⟨[⟨some 37, .load T146 (.tmp 4), t33, p33, e33, none⟩,
    ⟨some 38, .call ⟨.builtin .len, #[(.tmp 37)], #[T146]⟩, t34, p34, e34, none⟩,
    ⟨some 39, .move (.const (.int .i64 0)), t35, p35, e35, none⟩]⟩ false)
  (.block 2 (.loop (.seq (Code.region i8 ⟨[⟨some 40, .binOp .lss T3 (.tmp 39) (.tmp 38) T3, t36, p36, e36, none⟩]⟩ false)
  (.seq (.cond (.tmp 40) .skip
  (.exit 2))
  (.seq (.block 3 (.seq (Code.region i9 ⟨[⟨some 41, .indexAddr T146 (.tmp 37) (.tmp 39), t37, p37, e37, none⟩,
    ⟨some 42, .load T59 (.tmp 41), t38, p38, e38, none⟩,
    ⟨some 7, .assign (.tmp 42), t39, p39, e39, none⟩]⟩ false)
  (Code.region i10 ⟨[⟨some 43, .move (.tmp 1), t40, p40, e40, none⟩,
    ⟨some 44, .move (.tmp 7), t41, p41, e41, none⟩,
    ⟨some 45, .move (.tmp 0), t42, p42, e42, none⟩,
    ⟨some 46, .nilCheck (.tmp 45), t43, p43, e43, none⟩,
    ⟨some 47, .fieldAddr T99 (.tmp 46) 0, t44, p44, e44, none⟩,
    ⟨some 48, .load T97 (.tmp 47), t45, p45, e45, none⟩,
    ⟨some 49, .move (.tmp 7), t46, p46, e46, none⟩,
    ⟨some 50, .lookup T97 (.tmp 48) (.tmp 49) false, t47, p47, e47, none⟩,
    ⟨some 51, .call ⟨.value (.tmp 43), #[(.tmp 44), (.tmp 50)], a1⟩, t48, p48, e48, none⟩]⟩ false)))
  (Code.region i11 ⟨[⟨some 52, .binOp .add T3 (.tmp 39) (.const (.int .i64 1)) T3, t49, p49, e49, none⟩,
    ⟨some 39, .move (.tmp 52), t50, p50, e50, none⟩]⟩ false))))))))))))
    (hT : mapOf P T97 kt et = true) (h97 : scal P T97 = true) (hF : fieldOf P T99 0 0 = true) (hs : sliceOf P T146 e59 1 bs = true) (hbs : bs ≤ 16) (hz : zeroIs P e59 [.int .u32 0]) (h146 : scal P T146 = true) (hz146 : zeroOf P T146 (.slice none 0 0)) (h59 : scal P T59 = true) (hsort : SortM P T146 f97 f98) : EachM P f := by
  refine ⟨enters_of hf hname hbody, ?_⟩
  intro w A tb to v x g caps I own hc hrep hA hg hI0 hown hstab hcall
  have htb := lt_of_cell hc
  refine calls_of_wp hf hbody ?_
  generalize ha0 : ({ tmps := #[Value.pointer (some ⟨tb, to, none⟩), Value.func (.func g) #[] caps] ++ Array.replicate (fn.ntmps - #[Value.pointer (some ⟨tb, to, none⟩), Value.func (.func g) #[] caps].size) undef, defers := [] } : Act) = a0
  have hsz : a0.tmps.size = 53 := by subst ha0; simp [hN]
  have hd0 : a0.defers = [] := by subst ha0; rfl
  have g0 : get a0 0 = .pointer (some ⟨tb, to, none⟩) := by subst ha0; exact get_args rfl
  have g1 : get a0 1 = .func (.func g) #[] caps := by subst ha0; exact get_args rfl
  clear ha0
  obtain ⟨q, hvq, hmap⟩ : ∃ q, v = .map q ∧ ((q = none ∧ tagKv x = []) ∨ ∃ r, q = some r ∧ TagM w A r (tagKv x) ∧ A r) := by
    rcases hrep with ⟨h, rfl⟩ | ⟨r, es, clock, kv, hr, h, h2, h3, rfl, h4⟩
    · simp at h; exact ⟨none, h, .inl ⟨rfl, rfl⟩⟩
    · simp at h; exact ⟨some r, h, .inr ⟨r, rfl, ⟨es, clock, h2, h3, h4⟩, hr⟩⟩
  subst hvq
  generalize hkv : tagKv x = kv at *
  clear hrep hkv
  refine then_id (wp_seq_k fun K1 hK1 => ?_)
  refine wp_seq_k fun K2 hK2 => ?_
  refine wp_reg ?_
  rw [wpl_cons, wp_move, eval_tmp, g0, wpl_cons]
  refine wp_nilCheck (q := ⟨tb, to, none⟩) (by rw [eval_tmp, get_put_same (by omega)]) ?_
  rw [wpl_cons]
  refine wp_fieldAddr (b := tb) (i := to) hF (by rw [eval_tmp, get_put_same (by simp only [size_put]; omega)]) ?_
  rw [wpl_cons]
  refine wp_load h97 (b := tb) (o := to) (by rw [eval_tmp, get_put_same (by simp only [size_put]; omega)]; simp) hc ?_
  rw [wpl_cons]
  refine wp_lenMap (q := q) (A := A) (kv := kv) hT (by rw [eval_tmp, get_put_same (by simp only [size_put]; omega)]) (by rcases hmap with h | ⟨r, h1, h2, _⟩; exact .inl h; exact .inr ⟨r, h1, h2⟩) ?_
  rw [wpl_cons]
  refine wp_eql (k1 := .i64) (i := kv.length) (j := 0) (by rw [eval_tmp, get_put_same (by simp only [size_put]; omega)]) rfl ?_
  rw [wpl_nil]
  generalize hb1 : (((((a0.put (some 8) (.pointer (some ⟨tb, to, none⟩))).put (some 9) (.pointer (some ⟨tb, to, none⟩))).put (some 10) (.pointer (some ⟨tb, to + 0, none⟩))).put (some 11) (.map q)).put (some 12) (.int .i64 kv.length)).put (some 13) (.bool ((kv.length : Int) == 0)) = b1
  have k1 : Kept 8 a0 b1 := by subst hb1; exact (((((Kept.put0 (by omega) _).put (by omega) _).put (by omega) _).put (by omega) _).put (by omega) _).put (by omega) _
  have q13 : get b1 13 = .bool ((kv.length : Int) == 0) := by subst hb1; exact get_put_same (by simp only [size_put]; omega)
  clear hb1
  have hz1 := k1.size
  refine hK2 b1 w ?_
  refine wp_cond_split (t := ((kv.length : Int) == 0)) (by rw [eval_tmp, q13]) (fun h => ?_) fun h => wp_skip (hK1 b1 w (then_up ?_))
  · have hkv0 : kv = [] := by simp at h; exact h
    subst hkv0
    exact wp_ret ⟨by rw [k1.defers, hd0], .tuple #[], by simp [results, hres], ⟨_, rfl⟩, own, hI0, Fr.refl _ _, fun z hz => Rng.in_self hz⟩
  have hpos : 0 < kv.length := by simp at h; exact List.length_pos_iff.2 h
  obtain ⟨r, rfl, hm, hAr⟩ : ∃ r, q = some r ∧ TagM w A r kv ∧ A r := by
    rcases hmap with ⟨_, h⟩ | h
    · rw [h] at hpos; simp at hpos
    · exact h
  clear hmap
  have hm0 := hm
  obtain ⟨es, clock, hb, hent, hnb, hcl, hnk⟩ := hm
  have hrl := lt_of_block hb
  have hlen := hent.len
  have hsmall := hent.small
  obtain ⟨hkeys, hkey⟩ := hent.keys
  have hkl : kv.length ≤ 4294967296 := by
    have := nodup_lt_len (n := 4294967296) hnk (fun k hk => by obtain ⟨p, hp, rfl⟩ := List.mem_map.1 hk; exact hsmall p hp)
    simpa using this
  -- the slice of keys
  refine then_id (wp_seq_k fun K3 hK3 => ?_)
  refine wp_reg ?_
  rw [wpl_cons, wp_move, eval_tmp, k1.get 0 (by omega), g0, wpl_cons]
  refine wp_nilCheck (q := ⟨tb, to, none⟩) (by rw [eval_tmp, get_put_same (by omega)]) ?_
  rw [wpl_cons]
  refine wp_fieldAddr (b := tb) (i := to) hF (by rw [eval_tmp, get_put_same (by simp only [size_put]; omega)]) ?_
  rw [wpl_cons]
  refine wp_load h97 (b := tb) (o := to) (by rw [eval_tmp, get_put_same (by simp only [size_put]; omega)]; simp) hc ?_
  rw [wpl_cons]
  refine wp_lenMap (q := some r) (A := A) (kv := kv) hT (by rw [eval_tmp, get_put_same (by simp only [size_put]; omega)]) (.inr ⟨r, rfl, hm0⟩) ?_
  rw [wpl_cons]
  refine wp_make0 (n := kv.length) hs hz (by have := Nat.mul_le_mul hbs hkl; omega) (by omega) (by rw [eval_tmp, get_put_same (by simp only [size_put]; omega)]) ?_
  have f1 := Fr.alloc [] w (.cells (madeCells [Value.int .u32 0].toArray (kv.length * 1)) e59)
  have th1 := there_new w (madeCells [Value.int .u32 0].toArray (kv.length * 1)) e59
  have sz1 := size_alloc w (.cells (madeCells [Value.int .u32 0].toArray (kv.length * 1)) e59)
  have hmc : (madeCells [Value.int .u32 0].toArray (kv.length * 1)).size = kv.length * 1 := by simp [madeCells]
  rw [hmc] at th1
  generalize w.alloc (.cells (madeCells [Value.int .u32 0].toArray (kv.length * 1)) e59) = w1 at f1 th1 sz1 ⊢
  rw [wpl_cons]
  refine wp_alloc hz146 ?_
  have f2 := Fr.alloc [] w1 (.cells (Value.slice none 0 0).cells T146)
  have th2 : (w1.alloc (.cells (Value.slice none 0 0).cells T146)).there w1.heap.size 0 1 := there_new w1 #[.slice none 0 0] T146
  have sz2 := size_alloc w1 (.cells (Value.slice none 0 0).cells T146)
  generalize w1.alloc (.cells (Value.slice none 0 0).cells T146) = w2 at f2 th2 sz2 ⊢
  rw [wpl_cons]
  refine wp_store h146 (b := w1.heap.size) (o := 0) (v := .slice (some ⟨w.heap.size, 0, none⟩) 0 kv.length) (by rw [eval_tmp, get_put_same (by simp only [size_put]; omega)]) (by rw [eval_tmp, get_put_ne (by omega), get_put_same (by simp only [size_put]; omega)]) rfl th2 ?_
  rw [put_none, wpl_nil]
  have f3 := Fr.set w2 w1.heap.size 0 (.slice (some ⟨w.heap.size, 0, none⟩) 0 kv.length)
  have c3 : (w2.setCell ⟨w1.heap.size, 0, none⟩ (.slice (some ⟨w.heap.size, 0, none⟩) 0 kv.length)).cell? ⟨w1.heap.size, 0, none⟩ = some (.slice (some ⟨w.heap.size, 0, none⟩) 0 kv.length) := range_set th2
  generalize w2.setCell ⟨w1.heap.size, 0, none⟩ (.slice (some ⟨w.heap.size, 0, none⟩) 0 kv.length) = w3 at f3 c3 ⊢
  have th3 := f3.there th2
  have tl3 := f3.there (f2.there th1)
  have sz3 := f3.size
  have f03 : Fr [] w w3 := (f1.tr f2).trans f3 (by intro z hz; simp at hz; subst hz; exact .inl (by simp only; omega))
  generalize hb2 : ((((((b1.put (some 14) (.pointer (some ⟨tb, to, none⟩))).put (some 15) (.pointer (some ⟨tb, to, none⟩))).put (some 16) (.pointer (some ⟨tb, to + 0, none⟩))).put (some 17) (.map (some r))).put (some 18) (.int .i64 kv.length)).put (some 19) (.slice (some ⟨w.heap.size, 0, none⟩) 0 kv.length)).put (some 4) (.pointer (some ⟨w1.heap.size, 0, none⟩)) = b2
  have k2 : Kept 4 b1 b2 := by subst hb2; exact ((((((Kept.put0 (by omega) _).put (by omega) _).put (by omega) _).put (by omega) _).put (by omega) _).put (by omega) _).put (by omega) _
  have q4 : get b2 4 = .pointer (some ⟨w1.heap.size, 0, none⟩) := by subst hb2; exact get_put_same (by simp only [size_put]; omega)
  clear hb2
  have hz2 := k2.size
  generalize hob : w1.heap.size = ob at *
  refine hK3 b2 w3 (then_up ?_)
  -- the keys collected
  refine then_id (wp_seq_k fun K4 hK4 => ?_)
  refine wp_seq_k fun K5 hK5 => ?_
  refine wp_reg ?_
  rw [wpl_cons, wp_move, eval_tmp, k2.get 0 (by omega), k1.get 0 (by omega), g0, wpl_cons]
  refine wp_nilCheck (q := ⟨tb, to, none⟩) (by rw [eval_tmp, get_put_same (by omega)]) ?_
  rw [wpl_cons]
  refine wp_fieldAddr (b := tb) (i := to) hF (by rw [eval_tmp, get_put_same (by simp only [size_put]; omega)]) ?_
  rw [wpl_cons]
  refine wp_load h97 (b := tb) (o := to) (by rw [eval_tmp, get_put_same (by simp only [size_put]; omega)]; simp) (f03.cell hc .nil) ?_
  rw [wpl_cons]
  have hb3 : w3.heap[r]? = some (.map es clock) := by rw [f03.block r hrl (by simp)]; exact hb
  refine wp_rangeMap hT (by rw [eval_tmp, get_put_same (by simp only [size_put]; omega)]) hb3 ?_
  rw [wpl_nil]
  have f4 := Fr.alloc [] w3 (.mapIter (some r) clock #[] clock)
  have hi4 : (w3.alloc (.mapIter (some r) clock #[] clock)).heap[w3.heap.size]? = some (.mapIter (some r) clock #[] clock) := by show (w3.heap.push _)[w3.heap.size]? = _; simp
  have sz4 := size_alloc w3 (.mapIter (some r) clock #[] clock)
  generalize w3.alloc (.mapIter (some r) clock #[] clock) = w4 at f4 hi4 sz4 ⊢
  generalize hit : w3.heap.size = it at *
  generalize hb3' : ((((b2.put (some 20) (.pointer (some ⟨tb, to, none⟩))).put (some 21) (.pointer (some ⟨tb, to, none⟩))).put (some 22) (.pointer (some ⟨tb, to + 0, none⟩))).put (some 23) (.map (some r))).put (some 24) (.pointer (some ⟨it, 0, none⟩)) = b3
  have k3 : Kept 8 b2 b3 := by subst hb3'; exact ((((Kept.put0 (by omega) _).put (by omega) _).put (by omega) _).put (by omega) _).put (by omega) _
  have q24 : get b3 24 = .pointer (some ⟨it, 0, none⟩) := by subst hb3'; exact get_put_same (by simp only [size_put]; omega)
  clear hb3'
  have hz3 := k3.size
  have f04 : Fr [] w w4 := f03.tr f4
  refine hK5 b3 w4 ?_
  refine wp_block (wp_loop (fun a' w' => ∃ (L : List MapEntry) (seen : Array Nat) (c0 : Nat) (u : Value), a'.tmps.size = 53 ∧ a'.defers = [] ∧ get a' 0 = .pointer (some ⟨tb, to, none⟩) ∧ get a' 1 = .func (.func g) #[] caps ∧ get a' 4 = .pointer (some ⟨ob, 0, none⟩) ∧ get a' 24 = .pointer (some ⟨it, 0, none⟩) ∧
      (L.map (·.born)).Nodup ∧ (∀ e ∈ L, e ∈ es.toList) ∧ seen.toList = L.map (·.born) ∧ w'.heap[it]? = some (.mapIter (some r) clock seen c0) ∧ clock ≤ c0 ∧ w'.cell? ⟨ob, 0, none⟩ = some u ∧ w'.there ob 0 1 ∧ Own w' (fun b => w.heap.size ≤ b ∧ b < w'.heap.size ∧ b ≠ ob ∧ b ≠ it) 1 u L.length (L.map (·.key)) ∧
      (∃ b o c, u = .slice (some ⟨b, o, none⟩) L.length c) ∧ Fr [] w w') (fun _ w' => es.size - (match w'.heap[it]? with | some (.mapIter _ _ seen _) => seen.size | _ => 0)) ?_ ?_)
  · refine ⟨[], #[], clock, .slice (some ⟨w.heap.size, 0, none⟩) 0 kv.length, by omega, by rw [k3.defers, k2.defers, k1.defers, hd0], by rw [k3.get 0 (by omega), k2.get 0 (by omega), k1.get 0 (by omega), g0], by rw [k3.get 1 (by omega), k2.get 1 (by omega), k1.get 1 (by omega), g1], by rw [k3.get 4 (by omega), q4], q24,
      List.nodup_nil, by simp, rfl, hi4, Nat.le_refl _, f4.cell c3 .nil, f4.there th3, ⟨rfl, .inr ⟨w.heap.size, 0, kv.length, ⟨Nat.le_refl _, by omega, by omega, by omega⟩, rfl, by simp, by simp only [maxLen]; omega, range_nil, f4.there tl3⟩⟩, ⟨_, _, _, rfl⟩, f04⟩
  · rintro a5 w5 ⟨L, seen, c0, u, hs5, hd5, p0, p1, p4, p24, hLn, hLs, hseen, hi5, hcc, hcu, hthu, hou, ⟨ub, uo, uc, hus⟩, f5⟩
    have hb5 : w5.heap[r]? = some (.map es clock) := by rw [f5.block r hrl (by simp)]; exact hb
    have hszS : seen.size = L.length := by rw [← Array.length_toList, hseen, List.length_map]
    have hLlen : L.length ≤ es.size := by
      have := nodup_sub_len (m := es.toList.map (·.born)) hLn (fun b hb => by obtain ⟨e, he, rfl⟩ := List.mem_map.1 hb; exact List.mem_map.2 ⟨e, hLs e he, rfl⟩)
      simpa using this
    refine wp_seq_k fun K6 hK6 => ?_
    refine wp_reg ?_
    rw [wpl_cons]
    refine wp_nextMap (x := .tmp 24) (by rw [eval_tmp, p24]) hi5 hb5 (fun e he => hcl e he) hcc (fun hall => ?_) (fun e he hns w6 f6 hi6 => ?_)
    · rw [wpl_cons]
      refine wp_extract (vs := #[.bool false]) (v := .bool false) (by rw [eval_tmp, get_put_same (by omega)]) rfl ?_
      rw [wpl_nil]
      generalize hb6 : (a5.put (some 25) (.tuple #[.bool false])).put (some 26) (.bool false) = a6
      have k6 : Kept 25 a5 a6 := by subst hb6; exact (Kept.put0 (by omega) _).put (by omega) _
      have q26 : get a6 26 = .bool false := by subst hb6; exact get_put_same (by simp only [size_put]; omega)
      clear hb6
      have hz6 := k6.size
      refine hK6 a6 w5 ?_
      refine wp_seq_k fun K7 hK7 => ?_
      refine wp_cond_split (t := false) (by rw [eval_tmp, q26]) (fun h => by cases h) fun _ => ?_
      refine wp_exit ?_
      show K4 a6 w5
      refine hK4 a6 w5 (then_up ?_)
      -- the keys in order
      have hperm : (L.map (fun e => keyN e.key)).Perm (kv.map (·.1)) := by
        rw [hkeys]
        have hpb : (L.map (·.born)).Perm (es.toList.map (·.born)) := perm_of_same hLn hnb (fun b => by
          constructor
          · intro hb; obtain ⟨e, he, rfl⟩ := List.mem_map.1 hb; exact List.mem_map.2 ⟨e, hLs e he, rfl⟩
          · intro hb; obtain ⟨e, he, rfl⟩ := List.mem_map.1 hb; rw [← hseen]; exact hall e he)
        have hkk : ∀ e ∈ es.toList, keyN e.key = keyN ((es.toList.find? (fun y => y.born == e.born)).getD e).key := by
          intro e he
          cases hfd : es.toList.find? (fun y => y.born == e.born) with
          | none => rfl
          | some y =>
            have hy := List.find?_some hfd
            have hym := List.mem_of_find?_eq_some hfd
            simp at hy
            have : y = e := by
              obtain ⟨i1, hi1⟩ := List.getElem?_of_mem hym
              obtain ⟨i2, hi2⟩ := List.getElem?_of_mem he
              have e1 : (es.toList.map (·.born))[i1]? = some y.born := by rw [List.getElem?_map, hi1]; rfl
              have e2 : (es.toList.map (·.born))[i2]? = some y.born := by rw [List.getElem?_map, hi2, hy]; rfl
              have : i1 = i2 := (List.getElem?_inj (List.getElem?_eq_some_iff.1 e1).1 hnb).1 (e1.trans e2.symm)
              subst this
              rw [hi1] at hi2
              exact Option.some.inj hi2
            rw [this]; rfl
        have hF : ∀ l : List MapEntry, (∀ e ∈ l, e ∈ es.toList) → l.map (fun e => keyN e.key) = (l.map (·.born)).map (fun b => ((es.toList.find? (fun y => y.born == b)).map (fun y => keyN y.key)).getD 0) := by
          intro l hl
          rw [List.map_map]
          refine List.map_congr_left (fun e he => ?_)
          have := hkk e (hl e he)
          simp only [Function.comp_apply]
          cases hfd : es.toList.find? (fun y => y.born == e.born) with
          | none =>
            have := List.find?_eq_none.1 hfd e (hl e he)
            simp at this
          | some y => rw [hfd] at this; simpa using this
        rw [hF L hLs, hF es.toList (fun e he => he)]
        exact hpb.map _
      have hLlen2 : L.length = kv.length := by have := hperm.length_eq; simpa using this
      have hkeyL : L.map (·.key) = u32s (L.map (fun e => keyN e.key)) := by
        unfold u32s
        rw [List.map_map]
        exact List.map_congr_left (fun e he => (hkey e (hLs e he)).1)
      have hLpos : 0 < L.length := by omega
      subst hus
      obtain ⟨hr5, hl5, hub⟩ : w5.rangeAt ub uo (L.map (·.key)) ∧ w5.there ub uo L.length ∧ (w.heap.size ≤ ub ∧ ub < w5.heap.size ∧ ub ≠ ob ∧ ub ≠ it) := by
        obtain ⟨_, h | ⟨g', o', c', hg', hv', hc1, hc2, hr', ht'⟩⟩ := hou
        · omega
        · simp at hv'
          obtain ⟨⟨rfl, rfl⟩, rfl⟩ := hv'
          exact ⟨hr', there_part ht' (Nat.le_refl _) (by omega), hg'⟩
      rw [hkeyL] at hr5
      generalize hks : L.map (fun e => keyN e.key) = ks at hperm hr5
      have hksl : ks.length = L.length := by rw [← hks, List.length_map]
      have hkb : ∀ k ∈ ks, k < 4294967296 := fun k hk => by
        have := hperm.mem_iff.1 hk
        obtain ⟨p, hp, rfl⟩ := List.mem_map.1 this
        exact hsmall p hp
      clear hkeyL hks
      rw [← hksl] at hl5 hcu hLpos hLlen2
      generalize hLL : L.length = nL at *
      subst hksl
      refine then_id (wp_seq_k fun K8 hK8 => ?_)
      refine wp_reg ?_
      rw [wpl_cons]
      refine wp_load h146 (b := ob) (o := 0) (by rw [eval_tmp, k6.get 4 (by omega), p4]) hcu ?_
      rw [wpl_cons]
      refine wp_makeIface (v := .slice (some ⟨ub, uo, none⟩) ks.length uc) (by rw [eval_tmp, get_put_same (by omega)]) hs ?_
      rw [wpl_cons]
      refine wp_makeFunc1 (v := .pointer (some ⟨ob, 0, none⟩)) (by rw [eval_tmp, get_put_ne (by omega), get_put_ne (by omega), k6.get 4 (by omega), p4]) ?_
      rw [wpl_cons]
      refine wp_calls hsort.enters (vs := #[.iface T146 (.slice (some ⟨ub, uo, none⟩) ks.length uc), .func (.func f98) #[] #[.pointer (some ⟨ob, 0, none⟩)]])
        (by simp only [List.map_toArray, List.map_cons, List.map_nil, eval_tmp]; rw [get_put_ne (by omega), get_put_same (by simp only [size_put]; omega), get_put_same (by simp only [size_put]; omega)])
        ((hsort.call w5 ob ub uo uc ks hcu hr5 hl5 (fun e => hub.2.2.1 e.symm) hkb (by omega) (by intro e; rw [e] at hLpos; simp at hLpos)).mono (by rintro e' w' ⟨⟨z, rfl⟩, h⟩; exact ⟨z, rfl, h⟩)) ?_
      rintro zz w6 ⟨ks', hp', hso', hr6, f6⟩
      rw [wpl_nil]
      generalize hb7 : (((a6.put (some 33) (.slice (some ⟨ub, uo, none⟩) ks.length uc)).put (some 34) (.iface T146 (.slice (some ⟨ub, uo, none⟩) ks.length uc))).put (some 35) (.func (.func f98) #[] #[.pointer (some ⟨ob, 0, none⟩)])).put (some 36) zz = a7
      have k7 : Kept 25 a6 a7 := by subst hb7; exact (((Kept.put0 (by omega) _).put (by omega) _).put (by omega) _).put (by omega) _
      clear hb7
      have hz7 := k7.size
      have hskeys : (sortKv kv).map (·.1) = ks' := sortKv_keys (hp'.trans hperm) hso'
      have hskl : (sortKv kv).length = ks'.length := by rw [← hskeys, List.length_map]
      have hksl' : ks'.length = ks.length := hp'.length_eq
      have f06 : Fr [] w w6 := f5.trans f6 (by intro z hz; simp at hz; subst hz; exact .inl hub.1)
      have c6 := f6.cell hcu (.cons (.inl (by simp only; exact hub.2.2.1)) .nil)
      have sz5 := f5.size
      have sz6 := f06.size
      have hub6 : ub < w6.heap.size := Nat.lt_of_lt_of_le hub.2.1 f6.size
      refine hK8 a7 w6 (then_up ?_)
      refine then_id (wp_seq_k fun K9 hK9 => ?_)
      refine wp_reg ?_
      rw [wpl_cons]
      refine wp_load h146 (b := ob) (o := 0) (by rw [eval_tmp, k7.get 4 (by omega), k6.get 4 (by omega), p4]) c6 ?_
      rw [wpl_cons]
      refine wp_len hs (by rw [eval_tmp, get_put_same (by omega)]) ?_
      rw [wpl_cons, wp_move, eval_const, wpl_nil]
      generalize hb8 : ((a7.put (some 37) (.slice (some ⟨ub, uo, none⟩) ks.length uc)).put (some 38) (.int .i64 ks.length)).put (some 39) (.int .i64 0) = a8
      have k8 : Kept 25 a7 a8 := by subst hb8; exact ((Kept.put0 (by omega) _).put (by omega) _).put (by omega) _
      have q37 : get a8 37 = .slice (some ⟨ub, uo, none⟩) ks.length uc := by subst hb8; rw [get_put_ne (by omega), get_put_ne (by omega), get_put_same (by omega)]
      have q38 : get a8 38 = .int .i64 ks.length := by subst hb8; rw [get_put_ne (by omega), get_put_same (by simp only [size_put]; omega)]
      have q39 : get a8 39 = .int .i64 0 := by subst hb8; exact get_put_same (by simp only [size_put]; omega)
      clear hb8
      have hz8 := k8.size
      refine hK9 a8 w6 (then_up ?_)
      refine wp_block (wp_loop (fun a' w' => ∃ (j : Nat) (own' : List Rng), j ≤ ks.length ∧ a'.tmps.size = 53 ∧ a'.defers = [] ∧ get a' 0 = .pointer (some ⟨tb, to, none⟩) ∧ get a' 1 = .func (.func g) #[] caps ∧ get a' 37 = .slice (some ⟨ub, uo, none⟩) ks.length uc ∧ get a' 38 = .int .i64 ks.length ∧ get a' 39 = .int .i64 j ∧
          I ((sortKv kv).take j) own' w' ∧ Fr own w6 w' ∧ (∀ z ∈ own', z.In own w6)) (fun a' _ => ks.length - idxOf (get a' 39)) ?_ ?_)
      · exact ⟨0, own, Nat.zero_le _, by omega, by rw [k8.defers, k7.defers, k6.defers, hd5], by rw [k8.get 0 (by omega), k7.get 0 (by omega), k6.get 0 (by omega), p0], by rw [k8.get 1 (by omega), k7.get 1 (by omega), k6.get 1 (by omega), p1], q37, q38, q39, hstab _ _ _ _ hI0 f06, Fr.refl _ _, fun z hz => Rng.in_self hz⟩
      · rintro a9 w9 ⟨j, own', hj, hs9, hd9, r0, r1, r37, r38, r39, hI9, f9, hin9⟩
        refine wp_seq_k fun K10 hK10 => ?_
        refine wp_reg ?_
        rw [wpl_cons]
        refine wp_lss (k1 := .i64) (i := j) (j := ks.length) (by rw [eval_tmp, r39]) (by rw [eval_tmp, r38]) ?_
        rw [wpl_nil]
        generalize hb10 : a9.put (some 40) (.bool (decide ((j : Int) < ks.length))) = a10
        have k10 : Kept 40 a9 a10 := by subst hb10; exact Kept.put0 (Nat.le_refl _) _
        have q40 : get a10 40 = .bool (decide ((j : Int) < ks.length)) := by subst hb10; exact get_put_same (by omega)
        clear hb10
        have hz10 := k10.size
        have f09 : Fr own w w9 := (f06.nil (l := own)).tr f9
        refine hK10 a10 w9 ?_
        refine wp_seq_k fun K11 hK11 => ?_
        refine wp_cond_split (t := decide ((j : Int) < ks.length)) (by rw [eval_tmp, q40]) (fun hlt => wp_skip (hK11 a10 w9 ?_)) (fun hge => ?_)
        · have hjl : j < ks.length := by simpa using hlt
          have hjs : j < (sortKv kv).length := by omega
          have hjk : j < ks'.length := by omega
          have hmem : (sortKv kv)[j] ∈ kv := (sortKv_perm kv).mem_iff.1 (List.getElem_mem hjs)
          have hkj : ks'[j] = ((sortKv kv)[j]).1 := by simp [← hskeys]
          have hks32 : ks'[j] < 4294967296 := hkb _ (hp'.mem_iff.1 (List.getElem_mem hjk))
          have hm9 : TagM w9 A r kv := hm0.kept f09 (fun z hz => (hown z hz).1) (fun z hz e => (hown z hz).1 (e ▸ hAr)) (fun _ h => h)
          have hc9 : w9.cell? ⟨tb, to, none⟩ = some (.map (some r)) := f09.cell hc (fun z hz => .inl (hown z hz).2.1)
          have hr9 : w9.rangeAt ub uo (u32s ks') := f9.range hr6 (fun z hz => .inl (by have := (hown z hz).2.2; omega))
          have hcell9 : w9.cell? ⟨ub, uo + j, none⟩ = some (.int .u32 (ks'[j] : Nat)) := hr9 j _ (by simp [u32s, hjk])
          refine wp_seq_k fun K12 hK12 => ?_
          refine wp_block (wp_mono (show Code.wp P _ (Exit.then K12 (Exit.inBlock 3 (Exit.then K12 _))) a10 w9 from ?_) (fun _ _ _ => inBlock_then))
          refine wp_seq_k fun K13 hK13 => ?_
          refine wp_reg ?_
          rw [wpl_cons]
          refine wp_indexAddr hs (b := ub) (o := uo) (len := ks.length) (cap := uc) (k1 := .i64) (i := j) (by rw [eval_tmp, k10.get 37 (by omega), r37]) (by rw [eval_tmp, k10.get 39 (by omega), r39]) (by omega) (by omega) ?_
          rw [wpl_cons]
          refine wp_load h59 (b := ub) (o := uo + j) (v := .int .u32 (ks'[j] : Nat)) (by rw [eval_tmp, get_put_same (by omega)]; simp) hcell9 ?_
          rw [wpl_cons, wp_assign, eval_tmp, get_put_same (by simp only [size_put]; omega), wpl_nil]
          generalize hb11 : ((a10.put (some 41) (.pointer (some ⟨ub, uo + (j : Int).toNat * 1, none⟩))).put (some 42) (.int .u32 (ks'[j] : Nat))).put (some 7) (.int .u32 (ks'[j] : Nat)) = a11
          have k11 : Kept 7 a9 a11 := by subst hb11; exact (k10.mono (by omega)).trans (((Kept.put0 (by omega) _).put (by omega) _).put (by omega) _)
          have q7 : get a11 7 = .int .u32 (ks'[j] : Nat) := by subst hb11; exact get_put_same (by simp only [size_put]; omega)
          have q37' : get a11 37 = .slice (some ⟨ub, uo, none⟩) ks.length uc := by subst hb11; rw [get_put_ne (by omega), get_put_ne (by omega), get_put_ne (by omega), k10.get 37 (by omega), r37]
          have q38' : get a11 38 = .int .i64 ks.length := by subst hb11; rw [get_put_ne (by omega), get_put_ne (by omega), get_put_ne (by omega), k10.get 38 (by omega), r38]
          have q39' : get a11 39 = .int .i64 j := by subst hb11; rw [get_put_ne (by omega), get_put_ne (by omega), get_put_ne (by omega), k10.get 39 (by omega), r39]
          clear hb11
          have hz11 := k11.size
          refine hK13 a11 w9 ?_
          refine wp_reg ?_
          rw [wpl_cons, wp_move, eval_tmp, k11.get 1 (by omega), r1, wpl_cons, wp_move, eval_tmp, get_put_ne (by omega), q7, wpl_cons, wp_move, eval_tmp, get_put_ne (by omega), get_put_ne (by omega), k11.get 0 (by omega), r0, wpl_cons]
          refine wp_nilCheck (q := ⟨tb, to, none⟩) (by rw [eval_tmp, get_put_same (by simp only [size_put]; omega)]) ?_
          rw [wpl_cons]
          refine wp_fieldAddr (b := tb) (i := to) hF (by rw [eval_tmp, get_put_same (by simp only [size_put]; omega)]) ?_
          rw [wpl_cons]
          refine wp_load h97 (b := tb) (o := to) (by rw [eval_tmp, get_put_same (by simp only [size_put]; omega)]; simp) hc9 ?_
          rw [wpl_cons, wp_move, eval_tmp, get_put_ne (by omega), get_put_ne (by omega), get_put_ne (by omega), get_put_ne (by omega), get_put_ne (by omega), get_put_ne (by omega), q7, wpl_cons]
          refine wp_mapGet (r := r) (k := ks'[j]) (A := A) (kv := kv) (x := ((sortKv kv)[j]).2) hT (by rw [eval_tmp, get_put_ne (by omega), get_put_same (by simp only [size_put]; omega)]) (by rw [eval_tmp, get_put_same (by simp only [size_put]; omega)]) hm9 (by rw [hkj]; exact hmem) ?_
          intro uv yv hxy hov
          rw [wpl_cons]
          refine wp_callF (f := g) (caps := caps) (vs := #[.int .u32 (ks'[j] : Nat), uv]) (R := fun _ w' => ∃ own'', I ((sortKv kv).take j ++ [(ks'[j], .oct yv)]) own'' w' ∧ Fr own' w9 w' ∧ ∀ z ∈ own'', z.In own' w9) hg
            (by rw [eval_tmp, get_put_ne (by omega), get_put_ne (by omega), get_put_ne (by omega), get_put_ne (by omega), get_put_ne (by omega), get_put_ne (by omega), get_put_ne (by omega), get_put_same (by omega)])
            (by simp only [List.map_toArray, List.map_cons, List.map_nil, eval_tmp]; rw [get_put_ne (by omega), get_put_ne (by omega), get_put_ne (by omega), get_put_ne (by omega), get_put_ne (by omega), get_put_ne (by omega), get_put_same (by simp only [size_put]; omega), get_put_same (by simp only [size_put]; omega)])
            ((hcall ((sortKv kv).take j) own' w9 (ks'[j]) yv uv hI9 (by rw [hkj, ← hxy]; exact hmem) hov (by rw [List.length_take]; have := (sortKv_perm kv).length_eq; omega) f09.size).mono (by rintro e' w' ⟨⟨z, rfl⟩, h⟩; exact ⟨z, rfl, h⟩)) ?_ ⟨_, rfl⟩
          rintro zz2 w12 ⟨own'', hI12, f12, hin12⟩
          rw [wpl_nil]
          refine hK12 _ w12 ?_
          refine wp_reg ?_
          rw [wpl_cons]
          refine wp_add (k1 := .i64) (i := j) (j := 1) (by rw [eval_tmp, get_put_ne (by omega), get_put_ne (by omega), get_put_ne (by omega), get_put_ne (by omega), get_put_ne (by omega), get_put_ne (by omega), get_put_ne (by omega), get_put_ne (by omega), get_put_ne (by omega), q39']) rfl ?_
          have hwr : IntKind.i64.wrap ((j : Int) + 1) = ((j + 1 : Nat) : Int) := by
            simp [IntKind.wrap, IntKind.bits, IntKind.signed]; omega
          rw [hwr, wpl_cons, wp_move, eval_tmp, get_put_same (by simp only [size_put]; omega), wpl_nil]
          have hK' : ∀ (t : Nat), t < 39 → t ≠ 7 → get (((((((((((a11.put (some 43) (.func (.func g) #[] caps)).put (some 44) (.int .u32 (ks'[j] : Nat))).put (some 45) (.pointer (some ⟨tb, to, none⟩))).put (some 46) (.pointer (some ⟨tb, to, none⟩))).put (some 47) (.pointer (some ⟨tb, to + 0, none⟩))).put (some 48) (.map (some r))).put (some 49) (.int .u32 (ks'[j] : Nat))).put (some 50) uv).put (some 51) zz2).put (some 52) (.int .i64 (j + 1 : Nat))).put (some 39) (.int .i64 (j + 1 : Nat))) t = get a11 t := by
            intro t ht _
            rw [get_put_ne (by omega), get_put_ne (by omega), get_put_ne (by omega), get_put_ne (by omega), get_put_ne (by omega), get_put_ne (by omega), get_put_ne (by omega), get_put_ne (by omega), get_put_ne (by omega), get_put_ne (by omega), get_put_ne (by omega)]
          refine ⟨⟨j + 1, own'', hjl, by simp only [size_put]; omega, by simp only [defers_put]; rw [k11.defers, hd9], ?_, ?_, ?_, ?_, ?_, ?_, ?_, ?_⟩, ?_⟩
          · rw [hK' 0 (by omega) (by omega), k11.get 0 (by omega), r0]
          · rw [hK' 1 (by omega) (by omega), k11.get 1 (by omega), r1]
          · rw [hK' 37 (by omega) (by omega), q37']
          · rw [hK' 38 (by omega) (by omega), q38']
          · exact get_put_same (by simp only [size_put]; omega)
          · have e : (ks'[j], V.oct yv) = (sortKv kv)[j] := by rw [hkj, ← hxy]
            rw [e] at hI12
            rw [List.take_succ_eq_append_getElem hjs]
            exact hI12
          · exact f9.trans f12 hin9
          · intro z hz
            rcases hin12 z hz with h | ⟨y, hy, h1, h2, h3⟩
            · have := f9.size; exact .inl (by omega)
            · rcases hin9 y hy with h | ⟨x', hx', h4, h5, h6⟩
              · exact .inl (by omega)
              · exact .inr ⟨x', hx', by omega, by omega, by omega⟩
          · rw [get_put_same (by simp only [size_put]; omega), r39]; simp [idxOf]; omega
        · refine wp_exit ?_
          have hje : j = ks.length := by simp at hge; omega
          subst hje
          have htk : (sortKv kv).take ks.length = sortKv kv := List.take_of_length_le (by omega)
          rw [htk] at hI9
          refine ⟨by rw [k10.defers, hd9], .tuple #[], by simp [results, hres], ⟨_, rfl⟩, own', hI9, f09, fun z hz => ?_⟩
          rcases hin9 z hz with h | h
          · exact .inl (by omega)
          · exact .inr h
    · rw [wpl_cons]
      have sz6 := f6.size
      refine wp_extract (vs := #[.bool true, e.key, e.val]) (v := .bool true) (by rw [eval_tmp, get_put_same (by omega)]) rfl ?_
      rw [wpl_nil]
      generalize hb6 : (a5.put (some 25) (.tuple #[.bool true, e.key, e.val])).put (some 26) (.bool true) = a6
      have k6 : Kept 25 a5 a6 := by subst hb6; exact (Kept.put0 (by omega) _).put (by omega) _
      have q26 : get a6 26 = .bool true := by subst hb6; exact get_put_same (by simp only [size_put]; omega)
      clear hb6
      have hz6 := k6.size
      refine hK6 a6 w6 ?_
      refine wp_seq_k fun K7 hK7 => ?_
      refine wp_cond_split (t := true) (by rw [eval_tmp, q26]) (fun _ => wp_skip (hK7 a6 w6 ?_)) (fun h => by cases h)
      refine wp_block ?_
      refine then_id (wp_seq_k fun K8 hK8 => ?_)
      refine wp_reg ?_
      rw [wpl_cons]
      have hitne : it ≠ r := by intro e'; rw [e', hb5] at hi5; cases hi5
      have hb6' : w6.heap[r]? = some (.map es clock) := by rw [f6.block r (lt_of_block hb5) (by intro z hz; simp at hz; subst hz; exact hitne)]; exact hb5
      refine wp_entryMap (e := e) (by rw [eval_tmp, k6.get 24 (by omega), p24]) hi6 hb6' he hnb ?_
      rw [wpl_cons]
      refine wp_extract (vs := #[e.key, e.val]) (v := e.key) (by rw [eval_tmp, get_put_same (by omega)]) rfl ?_
      rw [wpl_cons, wp_assign, eval_tmp, get_put_same (by simp only [size_put]; omega), wpl_nil]
      generalize hb7 : ((a6.put (some 27) (.tuple #[e.key, e.val])).put (some 28) e.key).put (some 5) e.key = a7
      have k7 : Kept 5 a6 a7 := by subst hb7; exact ((Kept.put0 (by omega) _).put (by omega) _).put (by omega) _
      have q5 : get a7 5 = e.key := by subst hb7; exact get_put_same (by simp only [size_put]; omega)
      have q24' : get a7 24 = .pointer (some ⟨it, 0, none⟩) := by subst hb7; rw [get_put_ne (by omega), get_put_ne (by omega), get_put_ne (by omega), k6.get 24 (by omega), p24]
      clear hb7
      have hz7 := k7.size
      have f06 : Fr [] w w6 := f5.trans f6 (by intro z hz; simp at hz; subst hz; exact .inl (by simp only; omega))
      have hobit : ob ≠ it := by omega
      have hcu6 := f6.cell hcu (.cons (.inl (by simp only; omega)) .nil)
      have hthu6 := f6.there hthu
      have hou6 : Own w6 (fun b => w.heap.size ≤ b ∧ b < w6.heap.size ∧ b ≠ ob ∧ b ≠ it) 1 u L.length (L.map (·.key)) :=
        hou.kept f6 (by intro z hz hA'; simp at hz; subst hz; exact absurd rfl hA'.2.2.2) (fun b h => ⟨h.1, by omega, h.2.2.1, h.2.2.2⟩)
      refine hK8 a7 w6 (then_up ?_)
      refine wp_reg ?_
      rw [wpl_cons]
      refine wp_load h146 (b := ob) (o := 0) (by rw [eval_tmp, k7.get 4 (by omega), k6.get 4 (by omega), p4]) hcu6 ?_
      rw [wpl_cons, wp_move, eval_tmp, get_put_ne (by omega), q5, wpl_cons]
      have hkc : e.key.cells = #[e.key] := by rw [(hkey e he).1]; rfl
      refine wp_slice1 (cs := [e.key]) hs hz rfl (by omega) (by rw [eval_tmp, get_put_same (by simp only [size_put]; omega), hkc]) rfl ?_
      intro _
      have f7 := Fr.alloc [] w6 (.cells [e.key].toArray e59)
      have r7 := range_new w6 [e.key].toArray e59 (0, 0)
      have sz7 := size_alloc w6 (.cells [e.key].toArray e59)
      generalize w6.alloc (.cells [e.key].toArray e59) = w7 at f7 r7 sz7 ⊢
      have hou7 : Own w7 (fun b => w.heap.size ≤ b ∧ b < w7.heap.size ∧ b ≠ ob ∧ b ≠ it) 1 u L.length (L.map (·.key)) :=
        hou6.kept f7 (by simp) (fun b h => ⟨h.1, by omega, h.2.2.1, h.2.2.2⟩)
      have hLlt : L.length < es.size := by
        have := nodup_sub_len (l := e.born :: L.map (·.born)) (m := es.toList.map (·.born)) (by rw [List.nodup_cons]; exact ⟨by rw [← hseen]; exact hns, hLn⟩) (fun b hb => by
          rcases List.mem_cons.1 hb with rfl | hb
          · exact List.mem_map.2 ⟨e, he, rfl⟩
          · obtain ⟨e', he', rfl⟩ := List.mem_map.1 hb; exact List.mem_map.2 ⟨e', hLs e' he', rfl⟩)
        simp at this; omega
      have hess : es.size ≤ 4294967296 := by rw [← Array.length_toList, hlen]; exact hkl
      rw [wpl_cons]
      refine wp_append (z := [.int .u32 0]) (v := u) (n := L.length) (m := 1) (c := 1) (xs := L.map (·.key)) (news := [e.key]) (b := w6.heap.size) (o := 0) hs hz rfl
        (by rw [eval_tmp, get_put_ne (by omega), get_put_ne (by omega), get_put_same (by omega)]) (by rw [eval_tmp, get_put_same (by simp only [size_put]; omega)]) hou7 (by omega) rfl r7 (by intro z hz'; simp at hz'; subst hz'; rw [(hkey e he).1]; rfl)
        (by have : (L.length + 1) * bs ≤ 4294967296 * 16 := Nat.mul_le_mul (by omega) hbs; omega) (by simp only [maxLen]; omega) ?_
      intro v' w8 f8 ho8 hbk
      rw [wpl_cons]
      have hspin : ∀ z ∈ spare u 1, w.heap.size ≤ z.b ∧ z.b < w7.heap.size ∧ z.b ≠ ob ∧ z.b ≠ it := hou7.spare_in
      have sz8 := f8.size
      have th8 : w8.there ob 0 1 := f8.there (f7.there hthu6)
      refine wp_store h146 (b := ob) (o := 0) (v := v') (by rw [eval_tmp, get_put_ne (by omega), get_put_ne (by omega), get_put_ne (by omega), get_put_ne (by omega), k7.get 4 (by omega), k6.get 4 (by omega), p4]) (by rw [eval_tmp, get_put_same (by simp only [size_put]; omega)]) ho8.one th8 ?_
      rw [put_none, wpl_nil]
      have f9 := Fr.set w8 ob 0 v'
      have c9 := range_set (v := v') th8
      generalize w8.setCell ⟨ob, 0, none⟩ v' = w9 at f9 c9 ⊢
      have sz9 := f9.size
      have hi9 : w9.heap[it]? = some (.mapIter (some r) clock (seen.push e.born) clock) := by
        have hitl := lt_of_block hi6
        rw [f9.block it (by omega) (by intro z hz'; simp at hz'; subst hz'; exact hobit), f8.block it (by omega) (fun z hz' => (hspin z hz').2.2.2), f7.block it hitl (by simp)]
        exact hi6
      have hseen' : (seen.push e.born).toList = (L ++ [e]).map (·.born) := by rw [Array.toList_push, hseen]; simp
      refine ⟨⟨L ++ [e], seen.push e.born, clock, v', by simp only [size_put]; omega, by simp only [defers_put]; rw [k7.defers, k6.defers, hd5], ?_, ?_, ?_, ?_, ?_, ?_, hseen', hi9, Nat.le_refl _, c9, f9.there th8, ?_, ?_, ?_⟩, ?_⟩
      · rw [get_put_ne (by omega), get_put_ne (by omega), get_put_ne (by omega), get_put_ne (by omega), k7.get 0 (by omega), k6.get 0 (by omega), p0]
      · rw [get_put_ne (by omega), get_put_ne (by omega), get_put_ne (by omega), get_put_ne (by omega), k7.get 1 (by omega), k6.get 1 (by omega), p1]
      · rw [get_put_ne (by omega), get_put_ne (by omega), get_put_ne (by omega), get_put_ne (by omega), k7.get 4 (by omega), k6.get 4 (by omega), p4]
      · rw [get_put_ne (by omega), get_put_ne (by omega), get_put_ne (by omega), get_put_ne (by omega), q24']
      · rw [List.map_append, List.nodup_append]
        refine ⟨hLn, by simp, ?_⟩
        intro b hb' c hc' e'
        simp at hc'
        subst hc' e'
        exact hns (by rw [hseen]; exact hb')
      · intro e' he'
        rcases List.mem_append.1 he' with h | h
        · exact hLs e' h
        · simp at h; subst h; exact he
      · have hobl := lt_of_cell hcu6
        have hitl := lt_of_block hi6
        have s06 := f06.size
        have s7 := f7.size
        have := ho8.kept (A' := fun b => w.heap.size ≤ b ∧ b < w9.heap.size ∧ b ≠ ob ∧ b ≠ it) f9 (by
          intro z hz' hA' g' o' c' _ e'
          simp at hz'; subst hz'
          rcases hA' with h | h
          · exact absurd rfl h.2.2.1
          · simp only at h; omega) (fun b h => by
          rcases h with h | h
          · exact ⟨h.1, by omega, h.2.2.1, h.2.2.2⟩
          · exact ⟨by omega, by omega, by omega, by omega⟩)
        simpa using this
      · obtain ⟨_, h | ⟨g', o', c', _, hv', _⟩⟩ := ho8
        · omega
        · exact ⟨g', o', c', by simpa using hv'⟩
      · refine ((f06.tr f7).trans f8 (fun z hz' => .inl (hspin z hz').1)).trans f9 ?_
        intro z hz'; simp at hz'; subst hz'; exact .inl (by simp only; omega)
      · rw [hi9, hi5]; simp; omega
end Go.Kq

/- Fields that a function of their own tells: texts that may be null, bools, octets. -/
namespace Go.Kq
open Go Go.Proofs

/-- A function that tells a value. -/
structure FnT (P : Program) (f : FuncId) (ty : Ty) (g : V → T) : Prop where
  enters : Enters P f
  call : ∀ w B v x, Rep w B ty [v] x → Calls P f #[v] w fun e w' => ∃ cs : List Value, e = .returned (.agg cs.toArray) ∧ Fr [] w w' ∧ RepT w' (From w.heap.size w') cs (g x)

variable {P : Program} {TT TL S Tf : TypeId} {N sv st m n k o kf id : Nat}
/-- 't.L[k] = f(v.F)' -/
theorem tl_fn (hT : TreeTys P TT TL) {f : FuncId} {ty : Ty} {g : V → T} {ats : Array TypeId} (hf : FnT P f ty g)
    {t0 t1 t2 t3 t4 t5 t6 t8 t9 : TypeId} {p0 p1 p2 p3 p4 p5 p6 p8 p9 : String} {e0 e1 e2 e3 e4 e5 e6 e8 e9 : Array Edge}
    (he : edgeOk 0 [e0, e1, e2, e3, e4, e5, e6, e8, e9] [[], [0], [], [2], [3], [4], [5], [1], [0, 1, 2, 3, 4, 5, 6, 7]] = true)
    (hS : fieldOf P S kf o = true) (hs : scal P Tf = true) (h1 : ty.size = 1)
    (hb : (decide (sv < n) && decide (st < n) && decide (m ≤ n) && decide (n + 2 + 6 ≤ N)) = true) :
    Tl P N sv st m (Code.region id ⟨[⟨some n, .fieldAddr TT (.tmp st) 3, t0, p0, e0, none⟩, ⟨some (n + 1), .load TL (.tmp n), t1, p1, e1, none⟩, ⟨some (n + 2), .move (.tmp sv), t2, p2, e2, none⟩, ⟨some (n + 3), .nilCheck (.tmp (n + 2)), t3, p3, e3, none⟩,
      ⟨some (n + 4), .fieldAddr S (.tmp (n + 3)) kf, t4, p4, e4, none⟩, ⟨some (n + 5), .load Tf (.tmp (n + 4)), t5, p5, e5, none⟩, ⟨some (n + 6), .call ⟨.value (.func f), #[.tmp (n + 5)], ats⟩, t6, p6, e6, none⟩,
      ⟨some (n + 7), .indexAddr TL (.tmp (n + 1)) (.const (.int .i64 k)), t8, p8, e8, none⟩, ⟨none, .store TT (.tmp (n + 7)) (.tmp (n + 6)), t9, p9, e9, none⟩]⟩ true) k o ty g := by
  refine tl_draw (mid := [⟨some (n + 5), .load Tf (.tmp (n + 4)), t5, p5, e5, none⟩, ⟨some (n + 6), .call ⟨.value (.func f), #[.tmp (n + 5)], ats⟩, t6, p6, e6, none⟩]) hT [[4], [5]] he rfl rfl rfl rfl (by simp) (by simp [shape]) rfl hS hb ?_
  intro e Q a w x hN hx hs0
  obtain ⟨c, hc, hrep⟩ := hx.one h1
  refine ⟨[spC [4] c, spR [5] (fun v w => ∃ cs : List Value, v = .agg cs.toArray ∧ RepT w (e.A w) cs (g x))], rfl, rfl, ⟨lasts_c _ _ _, lasts_r fun v w w' hf h => ?_, trivial⟩, fun tl => ?_, _, rfl, fun v w' hv _ => hv⟩
  · obtain ⟨cs, h3, h4⟩ := h
    exact ⟨cs, h3, h4.kept hf (by simp) (TEnv.A_mono hf.size)⟩
  refine ⟨op_c fun a' w' hk' hf' hd' K' hK' => ?_, op_r fun a' w' hk' hf' hd' K' hK' => ?_, trivial⟩
  · exact wp_load hs (by rw [eval_tmp]; exact hd'.c 4 (by simp) rfl) (hf'.cell hc .nil) hK'
  · have hcc : get a' (n + 5) = c := hd'.c 5 (by simp) rfl
    refine wp_calls (R := fun v w2 => Fr [] w' w2 ∧ ∃ cs : List Value, v = .agg cs.toArray ∧ RepT w2 (e.A w2) cs (g x)) hf.enters (vs := #[c]) (by simp [eval_tmp, hcc])
      ((hf.call w' e.B c x (hrep.kept hf' (by simp) (fun _ h => h))).mono (by
        rintro e' w2 ⟨cs, rfl, h2, h3⟩
        refine ⟨_, rfl, h2, cs, rfl, h3.kept (Fr.refl [] w2) (by simp) (fun b hb => ⟨Nat.le_trans (Nat.le_trans hs0 hf'.size) hb.1, hb.2⟩)⟩)) (fun x' w2 h => hK' x' w2 h.2 h.1)

def tText : V → T
  | .s l => .mk 0 l false [] []
  | _ => .mk 0 [] true [] []
def tBool : V → T
  | .n i => .mk i [] false [] []
  | _ => .zero
end Go.Kq
