/- Unknown tags told: the function that Each calls, the sorting of what is sorted. Written by mk_tlu.py. -/
import Derived.Test.YtekhigcoccepjaaDoorKqP10
set_option linter.unusedVariables false
set_option linter.unusedSimpArgs false
namespace Go.Kq
open Go Go.Proofs

def tagL (done : List (Nat × V)) : List (Nat × List UInt8) := done.map fun p => (p.1, p.2.octs)
theorem oct_octs (y : Option (List UInt8)) : (V.oct y).octs = y.getD [] := by cases y <;> rfl

/-- What the function that Each calls has made of the tree. -/
def CbI (tb s1 : Nat) (done : List (Nat × V)) (own : List Rng) (w : World) : Prop :=
  ∃ uv, w.cell? ⟨tb, 4, none⟩ = some uv ∧ w.there tb 4 1 ∧ TOwn w (From s1 w) uv (tagL done) ∧ own = ⟨tb, 4, 5⟩ :: spare uv 2 ∧ done.length ≤ 4294967296 ∧ tb < s1
theorem CbI.stable {tb s1 : Nat} {done : List (Nat × V)} {own : List Rng} {w w' : World} (h : CbI tb s1 done own w) (hf : Fr [] w w') : CbI tb s1 done own w' := by
  obtain ⟨uv, h1, h2, h3, h4, h5, h6⟩ := h
  exact ⟨uv, hf.cell h1 .nil, hf.there h2, h3.kept hf (by simp) (From.mono hf.size), h4, h5, h6⟩

/-- 'func(key uint32, val []byte) { t.U = append(t.U, Tag{key, append([]byte(nil), val...)}) }' -/
structure CbM (P : Program) (f : FuncId) : Prop where
  enters : Enters P f
  call : ∀ (w : World) (A : Nat → Prop) (tb s1 : Nat) (done : List (Nat × V)) (own : List Rng) (k : Nat) (y : Option (List UInt8)) (u : Value), CbI tb s1 done own w → k < 4294967296 → Octs w A u y → done.length < 4294967296 → s1 ≤ w.heap.size →
    Calls P f #[.int .u32 (k : Int), u, .pointer (some ⟨tb, 0, none⟩)] w fun e w' => (∃ z, e = .returned z) ∧ ∃ own', CbI tb s1 (done ++ [(k, .oct y)]) own' w' ∧ Fr own w w' ∧ ∀ z ∈ own', z.In own w

theorem OctE.small {w : World} {A : Nat → Prop} {v : Value} {xs : List UInt8} (h : OctE w A v xs) : xs.length ≤ 4294967296 := by
  obtain ⟨y, h1 | ⟨b, o, cap, l, _, _, h2, _, h3⟩, h4⟩ := h
  · rw [h1.2] at h4; rw [← h4]; simp
  · rw [h3] at h4; rw [← h4]; exact h2.2

set_option maxRecDepth 10000 in
theorem cb_m {P : Program} {f : FuncId} {fn : Func} {et T22 T24 T26 T64 TL : TypeId} {bs : Nat} {i0 : Nat}
    {t0 t1 t2 t3 t4 t5 t6 t7 t8 t9 : TypeId} {p0 p1 p2 p3 p4 p5 p6 p7 p8 p9 : String} {e0 e1 e2 e3 e4 e5 e6 e7 e8 e9 : Array Edge}
    (hf : P.funcs[f]? = some fn) (hname : (fn.name == "runtime.NumGoroutine") = false) (hres : fn.results = #[]) (hN : fn.ntmps = 14)
    (hbody : fn.body = some (Code.region i0 ⟨[⟨some 5, .fieldAddr T26 (.tmp 2) 4, t0, p0, e0, none⟩,
    ⟨some 6, .load T24 (.tmp 5), t1, p1, e1, none⟩,
    ⟨some 7, .move (.tmp 0), t2, p2, e2, none⟩,
    ⟨some 8, .move (.tmp 1), t3, p3, e3, none⟩,
    ⟨some 9, .call ⟨.builtin .append, #[(.const (.slice none 0 0)), (.tmp 8)], #[T22, T22]⟩, t4, p4, e4, none⟩,
    ⟨some 10, .build T64 #[(0, .tmp 7), (1, .tmp 9)], t5, p5, e5, none⟩,
    ⟨some 11, .buildSlice T24 1 #[(0, .tmp 10)], t6, p6, e6, none⟩,
    ⟨some 12, .call ⟨.builtin .append, #[(.tmp 6), (.tmp 11)], #[T24, T24]⟩, t7, p7, e7, none⟩,
    ⟨some 13, .fieldAddr T26 (.tmp 2) 4, t8, p8, e8, none⟩,
    ⟨none, .store T24 (.tmp 13) (.tmp 12), t9, p9, e9, none⟩]⟩ true))
    (he : edgeOk 0 [e0, e1, e2, e3, e4, e5, e6, e7, e8, e9] [[], [0], [], [], [3], [2, 4], [5], [0, 1, 2, 3, 4, 5, 6], [0, 1, 2, 3, 4, 5, 6, 7], [0, 1, 2, 3, 4, 5, 6, 7, 8]] = true)
    (hT : TreeTys P T26 TL) (h24 : scal P T24 = true) (h24s : sliceOf P T24 T64 2 bs = true) (hbs : bs ≤ 1024) (h64 : Flat P T64 zG) (hz64 : zeroIs P T64 zG) (h22 : sliceOf P T22 et 1 1 = true) (hz22 : zeroIs P et [.int .u8 0]) : CbM P f := by
  refine ⟨enters_of hf hname hbody, ?_⟩
  intro w A tb s1 done own k y u hI hk hu hdl hs1
  obtain ⟨uv, hcu, htu, hown, rfl, hdl', htb⟩ := hI
  refine calls_of_wp hf hbody ?_
  generalize ha0 : ({ tmps := #[Value.int .u32 (k : Int), u, Value.pointer (some ⟨tb, 0, none⟩)] ++ Array.replicate (fn.ntmps - #[Value.int .u32 (k : Int), u, Value.pointer (some ⟨tb, 0, none⟩)].size) undef, defers := [] } : Act) = a0
  have hsz : a0.tmps.size = 14 := by subst ha0; simp [hN]
  have hd0 : a0.defers = [] := by subst ha0; rfl
  have g0 : get a0 0 = .int .u32 (k : Int) := by subst ha0; exact get_args rfl
  have g1 : get a0 1 = u := by subst ha0; exact get_args rfl
  have g2 : get a0 2 = .pointer (some ⟨tb, 0, none⟩) := by subst ha0; exact get_args rfl
  clear ha0
  have hx : OctE w A u (y.getD []) := ⟨y, hu, rfl⟩
  have hxl := hx.small
  have hbk0 : ∀ b, blk uv = some b → s1 ≤ b ∧ b < w.heap.size := fun b hb => hown.blk_in hb
  have hll : (tagL done).length = done.length := by simp [tagL]
  generalize hxs : y.getD [] = xs at hx hxl
  have hsp0 : ∀ r ∈ spare uv 2, s1 ≤ r.b ∧ r.b < w.heap.size := by obtain ⟨flat, ho, _⟩ := hown; exact ho.spare_in
  refine wp_drawR (os := [⟨some 5, .fieldAddr T26 (.tmp 2) 4, t0, p0, e0, none⟩, ⟨some 6, .load T24 (.tmp 5), t1, p1, e1, none⟩, ⟨some 7, .move (.tmp 0), t2, p2, e2, none⟩, ⟨some 8, .move (.tmp 1), t3, p3, e3, none⟩,
      ⟨some 9, .call ⟨.builtin .append, #[(.const (.slice none 0 0)), (.tmp 8)], #[T22, T22]⟩, t4, p4, e4, none⟩, ⟨some 10, .build T64 #[(0, .tmp 7), (1, .tmp 9)], t5, p5, e5, none⟩, ⟨some 11, .buildSlice T24 1 #[(0, .tmp 10)], t6, p6, e6, none⟩])
    (rest := [⟨some 12, .call ⟨.builtin .append, #[(.tmp 6), (.tmp 11)], #[T24, T24]⟩, t7, p7, e7, none⟩, ⟨some 13, .fieldAddr T26 (.tmp 2) 4, t8, p8, e8, none⟩, ⟨none, .store T24 (.tmp 13) (.tmp 12), t9, p9, e9, none⟩])
    [spC [] (.pointer (some ⟨tb, 0 + 4, none⟩)), spC [0] uv, spC [] (.int .u32 (k : Int)), spC [] u, spR [3] (fun v w' => OctE w' (From w.heap.size w') v xs),
      spR [2, 4] (fun v w' => ∃ xv, v = .agg #[.int .u32 (k : Int), xv] ∧ OctE w' (From w.heap.size w') xv xs),
      spR [5] (fun v w' => ∃ b xv, v = .slice (some ⟨b, 0, none⟩) 1 1 ∧ w'.rangeAt b 0 [.int .u32 (k : Int), xv] ∧ OctE w' (From w.heap.size w') xv xs)] 5 [] hT.mixed he (by simp [shape]) rfl (by simp [spC, spR]) (by simp; omega)
    ⟨lasts_c _ _ _, lasts_c _ _ _, lasts_c _ _ _, lasts_c _ _ _, ?_, ?_, ?_, trivial⟩ ?_ ?_
  · intro v w1 w2 hf12 h1
    have hf12 : Fr [] w1 w2 := hf12
    have h1 : OctE w1 (From w.heap.size w1) v xs := h1
    exact h1.kept hf12 (by simp) (From.mono hf12.size)
  · rintro v w1 w2 hf12 ⟨xv, h1, h2⟩
    have hf12 : Fr [] w1 w2 := hf12
    exact ⟨xv, h1, h2.kept hf12 (by simp) (From.mono hf12.size)⟩
  · rintro v w1 w2 hf12 ⟨b, xv, h1, h2, h3⟩
    have hf12 : Fr [] w1 w2 := hf12
    exact ⟨b, xv, h1, hf12.range h2 .nil, h3.kept hf12 (by simp) (From.mono hf12.size)⟩
  · refine ⟨op_c fun a' w' hk' hf' hd' K' hK' => ?_, op_c fun a' w' hk' hf' hd' K' hK' => ?_, op_c fun a' w' hk' hf' hd' K' hK' => ?_, op_c fun a' w' hk' hf' hd' K' hK' => ?_, op_r fun a' w' hk' hf' hd' K' hK' => ?_, op_r fun a' w' hk' hf' hd' K' hK' => ?_, op_r fun a' w' hk' hf' hd' K' hK' => ?_, trivial⟩
    · exact wp_fieldAddr (hT.flat.field (by decide)) (by rw [eval_tmp, hk'.get 2 (by omega), g2]) hK'
    · exact wp_load h24 (by rw [eval_tmp]; exact hd'.c 0 (by simp) rfl) (hf'.cell hcu .nil) hK'
    · rw [wp_move, eval_tmp, hk'.get 0 (by omega), g0]; exact hK'
    · rw [wp_move, eval_tmp, hk'.get 1 (by omega), g1]; exact hK'
    · refine wp_copySrc h22 hz22 (v := u) (xs := xs) (A := A) (by rw [eval_tmp]; exact hd'.c 3 (by simp) rfl) (hx.kept hf' (by simp) (fun _ h => h)) hxl fun v' w2 sb hf2 hsb hlt hsrc => hK' v' w2 ?_ hf2
      rcases hsrc with ⟨h1, h2, rfl⟩ | ⟨h1, o, cap, rfl, hc, hr⟩
      · show OctE w2 _ _ _
        rw [h2]; exact OctE.nil
      · have hne : xs ≠ [] := by simpa using h1
        exact ⟨some xs, .inr ⟨sb, o, cap, xs, ⟨Nat.le_trans hf'.size hsb, hlt hne⟩, rfl, hc, hr, rfl⟩, rfl⟩
    · have h4 : OctE w' (From w.heap.size w') (get a' 9) xs := hd'.at (d := 4) (by simp [spR]) rfl
      exact wp_build2 h64 (v := .int .u32 (k : Int)) (v' := get a' 9) (by decide) (by decide) (by rw [eval_tmp]; exact hd'.c 2 (by simp [spR]) rfl) rfl (by rw [eval_tmp]) h4.one (hK' _ w' ⟨_, rfl, h4⟩ (Fr.refl _ _))
    · obtain ⟨xv, h5, h6⟩ : ∃ xv, get a' 10 = .agg #[.int .u32 (k : Int), xv] ∧ OctE w' (From w.heap.size w') xv xs := hd'.at (d := 5) (by simp [spR]) rfl
      have fa := Fr.alloc [] w' (.cells [.int .u32 (k : Int), xv].toArray T64)
      have ra := range_new w' [.int .u32 (k : Int), xv].toArray T64 (0, 0)
      refine wp_slice1 h24s hz64 rfl (by omega) (cs := [.int .u32 (k : Int), xv]) (by rw [eval_tmp, h5]; rfl) rfl fun _ => hK' _ _ ⟨w'.heap.size, xv, rfl, ra, h6.kept fa (by simp) (From.mono fa.size)⟩ fa
  · intro a' w' hk' hf' hd'
    obtain ⟨b, xv, h6, hr6, ho6⟩ : ∃ b xv, get a' 11 = .slice (some ⟨b, 0, none⟩) 1 1 ∧ w'.rangeAt b 0 [.int .u32 (k : Int), xv] ∧ OctE w' (From w.heap.size w') xv xs := hd'.at (d := 6) (by simp) rfl
    have h1 : get a' 6 = uv := hd'.c (nd' := [0]) 1 (by simp) rfl
    have hz' := hk'.size
    have szf := hf'.size
    obtain ⟨flat, ho, hel⟩ := hown.kept hf' (by simp) (A' := From s1 w') (From.mono szf)
    have hmul : (done.length + 1) * bs ≤ 4294967296 * 1024 := Nat.mul_le_mul (by omega) hbs
    rw [wpl_cons]
    refine wp_appendIn (A := From s1 w') (z := zG) (v := uv) (n := (tagL done).length) (m := 1) (c := 1) (xs := flat) (news := [.int .u32 (k : Int), xv]) (b := b) (o := 0) h24s hz64 rfl (by rw [eval_tmp, h1]) (by rw [eval_tmp, h6]) ho (by omega) rfl hr6
      (by intro z hz; simp at hz; rcases hz with rfl | rfl <;> first | rfl | exact ho6.one) (by rw [hll]; omega) (by rw [hll]; simp only [maxLen]; omega) ?_
    intro v' w2 f2 ho2 hbk hin
    have sz2 := f2.size
    have hU : TOwn w2 (From s1 w2) v' (tagL done ++ [(k, xs)]) := by
      refine TOwn.app (w := w') (A := From s1 w') (C := From w.heap.size w') hel ho f2 (ho2.kept (Fr.refl [] w2) (by simp) (fun b hb => ?_)) hbk (fun b hb => ⟨⟨hb.1, by have := hb.2; omega⟩, hb.2⟩) hk ho6 (fun b hb => ⟨⟨Nat.le_trans hs1 hb.1, hb.2⟩, fun e => ?_⟩)
      · rcases hb with hb | hb
        · exact ⟨hb.1, by have := hb.2; omega⟩
        · exact ⟨by omega, hb.2⟩
      · have := (hbk0 b e).2; have := hb.1; omega
    have hUone := hU.one
    have ht2 : w2.there tb 4 1 := f2.there (hf'.there htu)
    rw [wpl_cons]
    refine wp_fieldAddr (hT.flat.field (k := 4) (by decide)) (b := tb) (i := 0) (by rw [eval_tmp, get_put_ne (by omega), hk'.get 2 (by omega), g2]) ?_
    rw [wpl_cons]
    refine wp_store h24 (b := tb) (o := 0 + 4) (v := v') (by rw [eval_tmp, get_put_same (by simp only [size_put]; omega)]) (by rw [eval_tmp, get_put_ne (by omega), get_put_same (by omega)]) hUone (by rw [Nat.zero_add]; exact ht2) ?_
    rw [put_none, wpl_nil, Nat.zero_add]
    have f3 := Fr.set w2 tb 4 v'
    have c3 := range_set (v := v') ht2
    generalize w2.setCell ⟨tb, 4, none⟩ v' = w3 at f3 c3 ⊢
    refine ⟨by simp only [defers_put]; rw [hk'.defers, hd0], .tuple #[], by simp [results, hres], ⟨_, rfl⟩, ⟨tb, 4, 5⟩ :: spare v' 2, ⟨v', c3, f3.there ht2, ?_, rfl, by simp; omega, htb⟩, ?_, ?_⟩
    · have e1 : tagL (done ++ [(k, V.oct y)]) = tagL done ++ [(k, xs)] := by simp [tagL, oct_octs, hxs]
      rw [e1]
      exact hU.kept f3 (by intro r hr hF; simp at hr; subst hr; have := hF.1; simp only at this; omega) (From.mono f3.size)
    · refine ((hf'.nil (l := ⟨tb, 4, 5⟩ :: spare uv 2)).trans f2 ?_).trans f3 ?_
      · intro r hr; exact Rng.in_self (List.mem_cons_of_mem _ hr)
      · intro r hr; simp at hr; subst hr; exact Rng.in_self (by simp)
    · intro z hz
      rcases List.mem_cons.1 hz with rfl | hz
      · exact Rng.in_self (by simp)
      · rcases hin z hz with h | ⟨x, hx1, hx2⟩
        · exact .inl (by omega)
        · exact .inr ⟨x, List.mem_cons_of_mem _ hx1, hx2⟩

/-! ### what is sorted stays -/
structure SortedM (P : Program) (f : FuncId) : Prop where
  enters : Enters P f
  call : ∀ w A v (l : List (Nat × List UInt8)), TagsR w A v l → (l.map (·.1)).Pairwise (· ≤ ·) → Calls P f #[v] w fun e w' => (∃ z, e = .returned z) ∧ Fr [] w w'
theorem TagsR.sl {w : World} {A : Nat → Prop} {v : Value} {l : List (Nat × List UInt8)} (h : TagsR w A v l) : ∃ q cap, v = .slice q l.length cap ∧ l.length ≤ 4294967296 ∧ (0 < l.length → ∃ b o, q = some ⟨b, o, none⟩ ∧ ∀ (i k : Nat) (x : List UInt8), l[i]? = some (k, x) → w.cell? ⟨b, o + i * 2, none⟩ = some (.int .u32 k)) := by
  rcases h with ⟨rfl, rfl⟩ | ⟨b, o, cap, _, rfl, h2, h3⟩
  · exact ⟨none, 0, rfl, by simp, by simp⟩
  · refine ⟨_, cap, rfl, h2.2, fun _ => ⟨b, o, rfl, fun i k x hi => ?_⟩⟩
    obtain ⟨xv, _, h4, _⟩ := h3 i k x hi
    exact h4 0 _ rfl

set_option maxRecDepth 10000 in
theorem sorted_m {P : Program} {f : FuncId} {fn : Func} {T3 T24 T61 T64 : TypeId} {bs : Nat} {i0 i1 i2 i3 i4 i6 i5 i7 : Nat}
    {t0 t1 t2 t3 t4 t5 t6 t7 t8 t9 t10 t11 t12 t13 t14 t15 t16 t17 t18 t19 t20 t21 t22 t23 t24 t25 t26 t27 t28 t29 t30 t31 t32 t33 t34 t35 t36 t37 t38 t39 t40 t41 t42 t43 t44 t45 t46 : TypeId} {p0 p1 p2 p3 p4 p5 p6 p7 p8 p9 p10 p11 p12 p13 p14 p15 p16 p17 p18 p19 p20 p21 p22 p23 p24 p25 p26 p27 p28 p29 p30 p31 p32 p33 p34 p35 p36 p37 p38 p39 p40 p41 p42 p43 p44 p45 p46 : String} {e0 e1 e2 e3 e4 e5 e6 e7 e8 e9 e10 e11 e12 e13 e14 e15 e16 e17 e18 e19 e20 e21 e22 e23 e24 e25 e26 e27 e28 e29 e30 e31 e32 e33 e34 e35 e36 e37 e38 e39 e40 e41 e42 e43 e44 e45 e46 : Array Edge}
    (hf : P.funcs[f]? = some fn) (hname : (fn.name == "runtime.NumGoroutine") = false) (hres : fn.results = #[]) (hN : fn.ntmps = 45)
    (hbody : fn.body = some (.seq (Code.region i0 ⟨[⟨some 4, .move (.tmp 0), t0, p0, e0, none⟩,
    ⟨some 5, .call ⟨.builtin .len, #[(.tmp 4)], #[T24]⟩, t1, p1, e1, none⟩,
    ⟨some 6, .move (.const (.int .i64 0)), t2, p2, e2, none⟩]⟩ false)
  (.block 0 (.loop (.seq (Code.region i1 ⟨[⟨some 7, .binOp .lss T3 (.tmp 6) (.tmp 5) T3, t3, p3, e3, none⟩]⟩ false)
  (.seq (.cond (.tmp 7) .skip
  (.exit 0))
  (.seq (.block 1 (.seq (Code.region i2 ⟨[⟨some 8, .move (.tmp 6), t4, p4, e4, none⟩,
    ⟨some 2, .assign (.tmp 8), t5, p5, e5, none⟩]⟩ false)
  (.seq (Code.region i3 ⟨[⟨some 9, .move (.tmp 2), t6, p6, e6, none⟩,
    ⟨some 3, .assign (.tmp 9), t7, p7, e7, none⟩]⟩ false)
  (.block 2 (.loop (.seq (.seq (Code.region i4 ⟨[⟨some 10, .move (.tmp 3), t8, p8, e8, none⟩,
    ⟨some 11, .binOp .gtr T3 (.tmp 10) (.const (.int .i64 0)) T3, t9, p9, e9, none⟩,
    ⟨some 12, .move (.tmp 11), t10, p10, e10, none⟩,
    ⟨some 13, .move (.tmp 0), t11, p11, e11, some (2, true)⟩,
    ⟨some 14, .move (.tmp 3), t12, p12, e12, some (2, true)⟩,
    ⟨some 15, .indexAddr T24 (.tmp 13) (.tmp 14), t13, p13, e13, some (2, true)⟩,
    ⟨some 16, .fieldAddr T64 (.tmp 15) 0, t14, p14, e14, some (2, true)⟩,
    ⟨some 17, .load T61 (.tmp 16), t15, p15, e15, some (2, true)⟩,
    ⟨some 18, .move (.tmp 0), t16, p16, e16, some (2, true)⟩,
    ⟨some 19, .move (.tmp 3), t17, p17, e17, some (2, true)⟩,
    ⟨some 20, .binOp .sub T3 (.tmp 19) (.const (.int .i64 1)) T3, t18, p18, e18, some (2, true)⟩,
    ⟨some 21, .indexAddr T24 (.tmp 18) (.tmp 20), t19, p19, e19, some (2, true)⟩,
    ⟨some 22, .fieldAddr T64 (.tmp 21) 0, t20, p20, e20, some (2, true)⟩,
    ⟨some 23, .load T61 (.tmp 22), t21, p21, e21, some (2, true)⟩,
    ⟨some 24, .binOp .lss T61 (.tmp 17) (.tmp 23) T61, t22, p22, e22, some (2, true)⟩,
    ⟨some 25, .pick (.tmp 12) (.tmp 24) (.const (.bool false)), t23, p23, e23, none⟩]⟩ true)
  (.cond (.tmp 25) .skip
  (.exit 2)))
  (.seq (.block 3 (Code.region i6 ⟨[⟨some 28, .move (.tmp 0), t24, p24, e24, none⟩,
    ⟨some 29, .move (.tmp 3), t25, p25, e25, none⟩,
    ⟨some 30, .move (.tmp 0), t26, p26, e26, none⟩,
    ⟨some 31, .move (.tmp 3), t27, p27, e27, none⟩,
    ⟨some 32, .binOp .sub T3 (.tmp 31) (.const (.int .i64 1)) T3, t28, p28, e28, none⟩,
    ⟨some 33, .move (.tmp 0), t29, p29, e29, none⟩,
    ⟨some 34, .move (.tmp 3), t30, p30, e30, none⟩,
    ⟨some 35, .binOp .sub T3 (.tmp 34) (.const (.int .i64 1)) T3, t31, p31, e31, none⟩,
    ⟨some 36, .indexAddr T24 (.tmp 33) (.tmp 35), t32, p32, e32, none⟩,
    ⟨some 37, .load T64 (.tmp 36), t33, p33, e33, none⟩,
    ⟨some 38, .move (.tmp 0), t34, p34, e34, none⟩,
    ⟨some 39, .move (.tmp 3), t35, p35, e35, none⟩,
    ⟨some 40, .indexAddr T24 (.tmp 38) (.tmp 39), t36, p36, e36, none⟩,
    ⟨some 41, .load T64 (.tmp 40), t37, p37, e37, none⟩,
    ⟨some 42, .indexAddr T24 (.tmp 28) (.tmp 29), t38, p38, e38, none⟩,
    ⟨none, .store T64 (.tmp 42) (.tmp 37), t39, p39, e39, none⟩,
    ⟨some 43, .indexAddr T24 (.tmp 30) (.tmp 32), t40, p40, e40, none⟩,
    ⟨none, .store T64 (.tmp 43) (.tmp 41), t41, p41, e41, none⟩]⟩ true))
  (Code.region i5 ⟨[⟨some 26, .move (.tmp 3), t42, p42, e42, none⟩,
    ⟨some 27, .binOp .sub T3 (.tmp 26) (.const (.int .i64 1)) T3, t43, p43, e43, none⟩,
    ⟨some 3, .assign (.tmp 27), t44, p44, e44, none⟩]⟩ false))))))))
  (Code.region i7 ⟨[⟨some 44, .binOp .add T3 (.tmp 6) (.const (.int .i64 1)) T3, t45, p45, e45, none⟩,
    ⟨some 6, .move (.tmp 44), t46, p46, e46, none⟩]⟩ false))))))))
    (he : edgeOk 0 [e8, e9, e10, e11, e12, e13, e14, e15, e16, e17, e18, e19, e20, e21, e22, e23] [[], [0], [1], [2], [2], [2, 3, 4], [2, 5], [2, 6], [2], [2], [2, 9], [2, 8, 10], [2, 11], [2, 12], [2, 7, 13], [0, 1, 2, 3, 4, 5, 6, 7, 8, 9, 10, 11, 12, 13, 14]] = true)
    (hm : P.follows .mixedOrders = true) (h3 : intOf P T3 .i64 = true) (h24 : sliceOf P T24 T64 2 bs = true) (hF : fieldOf P T64 0 0 = true) (h61 : scal P T61 = true) : SortedM P f := by
  refine ⟨enters_of hf hname hbody, ?_⟩
  intro w A v l hl hsrt
  obtain ⟨q, cap, rfl, hll, hq⟩ := hl.sl
  clear hl
  refine calls_of_wp hf hbody ?_
  generalize ha0 : ({ tmps := #[Value.slice q l.length cap] ++ Array.replicate (fn.ntmps - #[Value.slice q l.length cap].size) undef, defers := [] } : Act) = a0
  have hsz : a0.tmps.size = 45 := by subst ha0; simp [hN]
  have hd0 : a0.defers = [] := by subst ha0; rfl
  have g0 : get a0 0 = .slice q l.length cap := by subst ha0; exact get_args rfl
  clear ha0
  refine then_id (wp_seq_k fun K1 hK1 => ?_)
  refine wp_reg ?_
  rw [wpl_cons, wp_move, eval_tmp, g0, wpl_cons]
  refine wp_len h24 (by rw [eval_tmp, get_put_same (by omega)]) ?_
  rw [wpl_cons, wp_move, eval_const, wpl_nil]
  generalize ha1 : ((a0.put (some 4) (.slice q l.length cap)).put (some 5) (.int .i64 l.length)).put (some 6) (.int .i64 0) = a1
  have k1 : Kept 4 a0 a1 := by subst ha1; exact ((Kept.put0 (by omega) _).put (by omega) _).put (by omega) _
  have q5 : get a1 5 = .int .i64 l.length := by subst ha1; rw [get_put_ne (by omega), get_put_same (by simp only [size_put]; omega)]
  have q6 : get a1 6 = .int .i64 0 := by subst ha1; exact get_put_same (by simp only [size_put]; omega)
  clear ha1
  have hz1 := k1.size
  refine hK1 a1 w (then_up ?_)
  refine wp_block (wp_loop (fun a' w' => ∃ i : Nat, i ≤ l.length ∧ a'.tmps.size = 45 ∧ a'.defers = [] ∧ get a' 0 = .slice q l.length cap ∧ get a' 5 = .int .i64 l.length ∧ get a' 6 = .int .i64 i ∧ Fr [] w w') (fun a' _ => l.length - idxOf (get a' 6)) ?_ ?_)
  · exact ⟨0, Nat.zero_le _, by omega, by rw [k1.defers, hd0], by rw [k1.get 0 (by omega), g0], q5, q6, Fr.refl _ _⟩
  · rintro a2 w2 ⟨i, hi, hs2, hd2, p0', p5', p6', f2⟩
    refine wp_seq_k fun K2 hK2 => ?_
    refine wp_reg ?_
    rw [wpl_cons]
    refine wp_lss (k1 := .i64) (i := i) (j := l.length) (by rw [eval_tmp, p6']) (by rw [eval_tmp, p5']) ?_
    rw [wpl_nil]
    have k3 : Kept 7 a2 (a2.put (some 7) (.bool (decide ((i : Int) < l.length)))) := Kept.put0 (by omega) _
    have g7 : get (a2.put (some 7) (.bool (decide ((i : Int) < l.length)))) 7 = .bool (decide ((i : Int) < l.length)) := get_put_same (by omega)
    generalize a2.put (some 7) (.bool (decide ((i : Int) < l.length))) = a3 at k3 g7 ⊢
    have hz3 := k3.size
    refine hK2 a3 w2 ?_
    refine wp_seq_k fun K3 hK3 => ?_
    refine wp_cond_split (t := decide ((i : Int) < l.length)) (by rw [eval_tmp, g7]) ?_ ?_
    · intro hlt
      have hlt : i < l.length := by simp at hlt; exact hlt
      refine wp_skip (hK3 a3 w2 ?_)
      refine wp_seq_k fun K4 hK4 => ?_
      refine wp_block (wp_mono (show Code.wp P _ (Exit.then K4 (Exit.inBlock 1 (Exit.then K4 _))) a3 w2 from ?_) (fun _ _ _ => inBlock_then))
      refine wp_seq_k fun K5 hK5 => ?_
      refine wp_reg ?_
      rw [wpl_cons, wp_move, eval_tmp, k3.get 6 (by omega), p6', wpl_cons, wp_assign, eval_tmp, get_put_same (by omega), wpl_nil]
      refine hK5 _ _ ?_
      refine wp_seq_k fun K6 hK6 => ?_
      refine wp_reg ?_
      rw [wpl_cons, wp_move, eval_tmp, get_put_same (by simp only [size_put]; omega), wpl_cons, wp_assign, eval_tmp, get_put_same (by simp only [size_put]; omega), wpl_nil]
      generalize ha4 : ((((a3.put (some 8) (.int .i64 i)).put (some 2) (.int .i64 i)).put (some 9) (.int .i64 i)).put (some 3) (.int .i64 i)) = a4
      have hz4 : a4.tmps.size = 45 := by subst ha4; simp only [size_put]; omega
      have hd4 : a4.defers = [] := by subst ha4; simp only [defers_put]; rw [k3.defers, hd2]
      have r0 : get a4 0 = .slice q l.length cap := by subst ha4; rw [get_put_ne (by omega), get_put_ne (by omega), get_put_ne (by omega), get_put_ne (by omega), k3.get 0 (by omega), p0']
      have r5 : get a4 5 = .int .i64 l.length := by subst ha4; rw [get_put_ne (by omega), get_put_ne (by omega), get_put_ne (by omega), get_put_ne (by omega), k3.get 5 (by omega), p5']
      have r6 : get a4 6 = .int .i64 i := by subst ha4; rw [get_put_ne (by omega), get_put_ne (by omega), get_put_ne (by omega), get_put_ne (by omega), k3.get 6 (by omega), p6']
      have r3 : get a4 3 = .int .i64 i := by subst ha4; exact get_put_same (by simp only [size_put]; omega)
      clear ha4
      refine hK6 a4 w2 ?_
      refine wp_block (wp_loop (fun a' w' => a' = a4 ∧ w' = w2) (fun _ _ => 0) ⟨rfl, rfl⟩ ?_)
      rintro aa ww ⟨ea, ew⟩
      rw [ea, ew]
      clear ea ew aa ww
      refine wp_seq_k fun K7 hK7 => ?_
      refine wp_seq_k fun K8 hK8 => ?_
      have hdone : ∀ a' w', Kept 10 a4 a' → Fr [] w2 w' → get a' 25 = .bool false → K8 a' w' := by
        intro a5 w5 k5 f5 g25
        have hz5 := k5.size
        refine hK8 a5 w5 ?_
        refine wp_cond_split (t := false) (by rw [eval_tmp, g25]) (fun h => by cases h) fun _ => ?_
        refine wp_exit ?_
        show K4 a5 w5
        refine hK4 a5 w5 ?_
        refine wp_reg ?_
        rw [wpl_cons]
        refine wp_add (k1 := .i64) (i := i) (j := 1) (by rw [eval_tmp, k5.get 6 (by omega), r6]) rfl ?_
        have hwr : IntKind.i64.wrap ((i : Int) + 1) = ((i + 1 : Nat) : Int) := by rw [show ((i : Int) + 1) = ((i + 1 : Nat) : Int) from by omega]; exact wrap64 (by omega)
        rw [hwr, wpl_cons, wp_move, eval_tmp, get_put_same (by omega), wpl_nil]
        refine ⟨⟨i + 1, hlt, by simp only [size_put]; omega, by simp only [defers_put]; rw [k5.defers, hd4], ?_, ?_, get_put_same (by simp only [size_put]; omega), f2.tr f5⟩, ?_⟩
        · rw [get_put_ne (by omega), get_put_ne (by omega), k5.get 0 (by omega), r0]
        · rw [get_put_ne (by omega), get_put_ne (by omega), k5.get 5 (by omega), r5]
        · rw [get_put_same (by simp only [size_put]; omega), p6']; simp only [idxOf]; omega
      obtain ⟨b, o, rfl, hcell⟩ := hq (by omega)
      by_cases hi0 : i = 0
      · subst hi0
        refine wp_drawE (os := [⟨some 10, .move (.tmp 3), t8, p8, e8, none⟩,
    ⟨some 11, .binOp .gtr T3 (.tmp 10) (.const (.int .i64 0)) T3, t9, p9, e9, none⟩,
    ⟨some 12, .move (.tmp 11), t10, p10, e10, none⟩,
    ⟨some 13, .move (.tmp 0), t11, p11, e11, some (2, true)⟩,
    ⟨some 14, .move (.tmp 3), t12, p12, e12, some (2, true)⟩,
    ⟨some 15, .indexAddr T24 (.tmp 13) (.tmp 14), t13, p13, e13, some (2, true)⟩,
    ⟨some 16, .fieldAddr T64 (.tmp 15) 0, t14, p14, e14, some (2, true)⟩,
    ⟨some 17, .load T61 (.tmp 16), t15, p15, e15, some (2, true)⟩,
    ⟨some 18, .move (.tmp 0), t16, p16, e16, some (2, true)⟩,
    ⟨some 19, .move (.tmp 3), t17, p17, e17, some (2, true)⟩,
    ⟨some 20, .binOp .sub T3 (.tmp 19) (.const (.int .i64 1)) T3, t18, p18, e18, some (2, true)⟩,
    ⟨some 21, .indexAddr T24 (.tmp 18) (.tmp 20), t19, p19, e19, some (2, true)⟩,
    ⟨some 22, .fieldAddr T64 (.tmp 21) 0, t20, p20, e20, some (2, true)⟩,
    ⟨some 23, .load T61 (.tmp 22), t21, p21, e21, some (2, true)⟩,
    ⟨some 24, .binOp .lss T61 (.tmp 17) (.tmp 23) T61, t22, p22, e22, some (2, true)⟩]) (o := ⟨some 25, .pick (.tmp 12) (.tmp 24) (.const (.bool false)), t23, p23, e23, none⟩)
          [spC [] (.int .i64 0), spC [0] (.bool false), spC [1] (.bool false), spC [2] undef, spC [2] undef, spC [2, 3, 4] undef, spC [2, 5] undef, spC [2, 6] undef, spC [2] undef, spC [2] undef, spC [2, 9] undef, spC [2, 8, 10] undef, spC [2, 11] undef, spC [2, 12] undef, spC [2, 7, 13] undef] 10 [] hm he (by simp [shape]) rfl (by simp [spC]) (by simp; omega)
          ⟨lasts_c _ _ _, lasts_c _ _ _, lasts_c _ _ _, lasts_c _ _ _, lasts_c _ _ _, lasts_c _ _ _, lasts_c _ _ _, lasts_c _ _ _, lasts_c _ _ _, lasts_c _ _ _, lasts_c _ _ _, lasts_c _ _ _, lasts_c _ _ _, lasts_c _ _ _, lasts_c _ _ _, trivial⟩ ?_ ?_
        · refine ⟨op_c fun a' w' hk' hf' hd' K' hK' => ?_, op_c fun a' w' hk' hf' hd' K' hK' => ?_, op_c fun a' w' hk' hf' hd' K' hK' => ?_,
            op_gn rfl (by omega) (fun _ _ hd' => hd'.c 2 (by simp) rfl), op_gn rfl (by omega) (fun _ _ hd' => hd'.c 2 (by simp) rfl), op_gn rfl (by omega) (fun _ _ hd' => hd'.c 2 (by simp) rfl), op_gn rfl (by omega) (fun _ _ hd' => hd'.c 2 (by simp) rfl), op_gn rfl (by omega) (fun _ _ hd' => hd'.c 2 (by simp) rfl), op_gn rfl (by omega) (fun _ _ hd' => hd'.c 2 (by simp) rfl),
            op_gn rfl (by omega) (fun _ _ hd' => hd'.c 2 (by simp) rfl), op_gn rfl (by omega) (fun _ _ hd' => hd'.c 2 (by simp) rfl), op_gn rfl (by omega) (fun _ _ hd' => hd'.c 2 (by simp) rfl), op_gn rfl (by omega) (fun _ _ hd' => hd'.c 2 (by simp) rfl), op_gn rfl (by omega) (fun _ _ hd' => hd'.c 2 (by simp) rfl), op_gn rfl (by omega) (fun _ _ hd' => hd'.c 2 (by simp) rfl), trivial⟩
          · rw [wp_move, eval_tmp, hk'.get 3 (by omega), r3]; exact hK'
          · exact wp_gtr (k1 := .i64) (i := 0) (j := 0) (by rw [eval_tmp]; exact hd'.c 0 (by simp) rfl) rfl hK'
          · rw [wp_move, eval_tmp, hd'.c (nd' := [0]) 1 (by simp) rfl]; exact hK'
        · intro a' w' hk' hf' hd'
          have hz' := hk'.size
          refine wp_pickNo (by rw [eval_tmp]; exact hd'.c (nd' := [1]) 2 (by simp) rfl) rfl ?_
          exact hdone _ _ (hk'.put (by omega) _) hf' (get_put_same (by omega))
      · obtain ⟨i, rfl⟩ : ∃ j, i = j + 1 := ⟨i - 1, by omega⟩
        obtain ⟨kx, hkx⟩ : ∃ p, l[i + 1]? = some p := ⟨l[i + 1], by simp [hlt]⟩
        obtain ⟨ky, hky⟩ : ∃ p, l[i]? = some p := ⟨l[i], by simp [show i < l.length from by omega]⟩
        obtain ⟨kx, xx⟩ := kx
        obtain ⟨ky, yy⟩ := ky
        have cx := hcell _ _ _ hkx
        have cy := hcell _ _ _ hky
        have hle : ky ≤ kx := by
          have e1 : (l.map (·.1))[i]? = some ky := by rw [List.getElem?_map, hky]; rfl
          have e2 : (l.map (·.1))[i + 1]? = some kx := by rw [List.getElem?_map, hkx]; rfl
          obtain ⟨h1, h1'⟩ := List.getElem?_eq_some_iff.1 e1
          obtain ⟨h2, h2'⟩ := List.getElem?_eq_some_iff.1 e2
          have := List.pairwise_iff_getElem.1 hsrt i (i + 1) h1 h2 (by omega)
          rw [h1', h2'] at this; exact this
        have ej : ((i + 1 : Nat) : Int) - 1 = (i : Int) := by omega
        refine wp_drawE (os := [⟨some 10, .move (.tmp 3), t8, p8, e8, none⟩,
    ⟨some 11, .binOp .gtr T3 (.tmp 10) (.const (.int .i64 0)) T3, t9, p9, e9, none⟩,
    ⟨some 12, .move (.tmp 11), t10, p10, e10, none⟩,
    ⟨some 13, .move (.tmp 0), t11, p11, e11, some (2, true)⟩,
    ⟨some 14, .move (.tmp 3), t12, p12, e12, some (2, true)⟩,
    ⟨some 15, .indexAddr T24 (.tmp 13) (.tmp 14), t13, p13, e13, some (2, true)⟩,
    ⟨some 16, .fieldAddr T64 (.tmp 15) 0, t14, p14, e14, some (2, true)⟩,
    ⟨some 17, .load T61 (.tmp 16), t15, p15, e15, some (2, true)⟩,
    ⟨some 18, .move (.tmp 0), t16, p16, e16, some (2, true)⟩,
    ⟨some 19, .move (.tmp 3), t17, p17, e17, some (2, true)⟩,
    ⟨some 20, .binOp .sub T3 (.tmp 19) (.const (.int .i64 1)) T3, t18, p18, e18, some (2, true)⟩,
    ⟨some 21, .indexAddr T24 (.tmp 18) (.tmp 20), t19, p19, e19, some (2, true)⟩,
    ⟨some 22, .fieldAddr T64 (.tmp 21) 0, t20, p20, e20, some (2, true)⟩,
    ⟨some 23, .load T61 (.tmp 22), t21, p21, e21, some (2, true)⟩,
    ⟨some 24, .binOp .lss T61 (.tmp 17) (.tmp 23) T61, t22, p22, e22, some (2, true)⟩]) (o := ⟨some 25, .pick (.tmp 12) (.tmp 24) (.const (.bool false)), t23, p23, e23, none⟩)
          [spC [] (.int .i64 ((i + 1 : Nat) : Int)), spC [0] (.bool true), spC [1] (.bool true), spC [2] (.slice (some ⟨b, o, none⟩) l.length cap), spC [2] (.int .i64 ((i + 1 : Nat) : Int)), spC [2, 3, 4] (.pointer (some ⟨b, o + ((i + 1 : Nat) : Int).toNat * 2, none⟩)), spC [2, 5] (.pointer (some ⟨b, o + ((i + 1 : Nat) : Int).toNat * 2 + 0, none⟩)), spC [2, 6] (.int .u32 kx),
            spC [2] (.slice (some ⟨b, o, none⟩) l.length cap), spC [2] (.int .i64 ((i + 1 : Nat) : Int)), spC [2, 9] (.int .i64 (i : Int)), spC [2, 8, 10] (.pointer (some ⟨b, o + (i : Int).toNat * 2, none⟩)), spC [2, 11] (.pointer (some ⟨b, o + (i : Int).toNat * 2 + 0, none⟩)), spC [2, 12] (.int .u32 ky), spC [2, 7, 13] (.bool false)] 10 [] hm he (by simp [shape]) rfl (by simp [spC]) (by simp; omega)
          ⟨lasts_c _ _ _, lasts_c _ _ _, lasts_c _ _ _, lasts_c _ _ _, lasts_c _ _ _, lasts_c _ _ _, lasts_c _ _ _, lasts_c _ _ _, lasts_c _ _ _, lasts_c _ _ _, lasts_c _ _ _, lasts_c _ _ _, lasts_c _ _ _, lasts_c _ _ _, lasts_c _ _ _, trivial⟩ ?_ ?_
        · refine ⟨op_c fun a' w' hk' hf' hd' K' hK' => ?_, op_c fun a' w' hk' hf' hd' K' hK' => ?_, op_c fun a' w' hk' hf' hd' K' hK' => ?_,
            op_gy rfl (by omega) (fun _ _ hd' => hd'.c 2 (by simp [spC]) rfl) (op_c fun a' w' hk' hf' hd' K' hK' => ?_), op_gy rfl (by omega) (fun _ _ hd' => hd'.c 2 (by simp [spC]) rfl) (op_c fun a' w' hk' hf' hd' K' hK' => ?_), op_gy rfl (by omega) (fun _ _ hd' => hd'.c 2 (by simp [spC]) rfl) (op_c fun a' w' hk' hf' hd' K' hK' => ?_), op_gy rfl (by omega) (fun _ _ hd' => hd'.c 2 (by simp [spC]) rfl) (op_c fun a' w' hk' hf' hd' K' hK' => ?_), op_gy rfl (by omega) (fun _ _ hd' => hd'.c 2 (by simp [spC]) rfl) (op_c fun a' w' hk' hf' hd' K' hK' => ?_), op_gy rfl (by omega) (fun _ _ hd' => hd'.c 2 (by simp [spC]) rfl) (op_c fun a' w' hk' hf' hd' K' hK' => ?_), op_gy rfl (by omega) (fun _ _ hd' => hd'.c 2 (by simp [spC]) rfl) (op_c fun a' w' hk' hf' hd' K' hK' => ?_), op_gy rfl (by omega) (fun _ _ hd' => hd'.c 2 (by simp [spC]) rfl) (op_c fun a' w' hk' hf' hd' K' hK' => ?_), op_gy rfl (by omega) (fun _ _ hd' => hd'.c 2 (by simp [spC]) rfl) (op_c fun a' w' hk' hf' hd' K' hK' => ?_), op_gy rfl (by omega) (fun _ _ hd' => hd'.c 2 (by simp [spC]) rfl) (op_c fun a' w' hk' hf' hd' K' hK' => ?_), op_gy rfl (by omega) (fun _ _ hd' => hd'.c 2 (by simp [spC]) rfl) (op_c fun a' w' hk' hf' hd' K' hK' => ?_), op_gy rfl (by omega) (fun _ _ hd' => hd'.c 2 (by simp [spC]) rfl) (op_c fun a' w' hk' hf' hd' K' hK' => ?_), trivial⟩
          · rw [wp_move, eval_tmp, hk'.get 3 (by omega), r3]; exact hK'
          · refine wp_gtr (k1 := .i64) (i := ((i + 1 : Nat) : Int)) (j := 0) (by rw [eval_tmp]; exact hd'.c 0 (by simp) rfl) rfl ?_
            rw [show decide (((i + 1 : Nat) : Int) > 0) = true from decide_eq_true (by omega)]; exact hK'
          · rw [wp_move, eval_tmp, hd'.c (nd' := [0]) 1 (by simp) rfl]; exact hK'
          · rw [wp_move, eval_tmp, hk'.get 0 (by omega), r0]; exact hK'
          · rw [wp_move, eval_tmp, hk'.get 3 (by omega), r3]; exact hK'
          · exact wp_indexAddr h24 (by rw [eval_tmp]; exact hd'.c 3 (by simp) rfl) (by rw [eval_tmp]; exact hd'.c (nd' := [2]) 4 (by simp) rfl) (by omega) (by omega) hK'
          · exact wp_fieldAddr hF (by rw [eval_tmp]; exact hd'.c (nd' := [2, 3, 4]) 5 (by simp) rfl) hK'
          · exact wp_load h61 (by rw [eval_tmp]; exact hd'.c (nd' := [2, 5]) 6 (by simp) rfl) (hf'.cell (f2.cell cx .nil) .nil) hK'
          · rw [wp_move, eval_tmp, hk'.get 0 (by omega), r0]; exact hK'
          · rw [wp_move, eval_tmp, hk'.get 3 (by omega), r3]; exact hK'
          · refine wp_sub (k1 := .i64) (i := ((i + 1 : Nat) : Int)) (j := 1) (by rw [eval_tmp]; exact hd'.c (nd' := [2]) 9 (by simp) rfl) rfl ?_
            rw [ej, wrap64 (by omega)]; exact hK'
          · exact wp_indexAddr h24 (by rw [eval_tmp]; exact hd'.c (nd' := [2]) 8 (by simp) rfl) (by rw [eval_tmp]; exact hd'.c (nd' := [2, 9]) 10 (by simp) rfl) (by omega) (by omega) hK'
          · exact wp_fieldAddr hF (by rw [eval_tmp]; exact hd'.c (nd' := [2, 8, 10]) 11 (by simp) rfl) hK'
          · exact wp_load h61 (by rw [eval_tmp]; exact hd'.c (nd' := [2, 11]) 12 (by simp) rfl) (hf'.cell (f2.cell cy .nil) .nil) hK'
          · refine wp_lss (k1 := .u32) (i := kx) (j := ky) (by rw [eval_tmp]; exact hd'.c (nd' := [2, 6]) 7 (by simp) rfl) (by rw [eval_tmp]; exact hd'.c (nd' := [2, 12]) 13 (by simp) rfl) ?_
            rw [show decide ((kx : Int) < ky) = false from decide_eq_false (by omega)]; exact hK'
        · intro a' w' hk' hf' hd'
          have hz' := hk'.size
          refine wp_pickYes (v := .bool false) (by rw [eval_tmp]; exact hd'.c (nd' := [1]) 2 (by simp) rfl) (by rw [eval_tmp]; exact hd'.c (nd' := [2, 7, 13]) 14 (by simp) rfl) ?_
          exact hdone _ _ (hk'.put (by omega) _) hf' (get_put_same (by omega))
    · intro hge
      refine wp_exit ?_
      exact ⟨by rw [k3.defers, hd2], .tuple #[], by simp [results, hres], ⟨_, rfl⟩, f2⟩

/-! ### 'v.UnknownTags.Each(..); sorted(t.U); return t' -/
theorem Rep.tag_bounds {w : World} {A : Nat → Prop} {v : Value} {x : V} (h : Rep w A .tags [v] x) : (tagKv x).length ≤ 4294967296 ∧ ∀ p ∈ tagKv x, p.1 < 4294967296 := by
  rcases h with ⟨_, rfl⟩ | ⟨r, es, clock, kv, _, _, _, h3, rfl, h4⟩
  · exact ⟨by simp [tagKv], by simp [tagKv]⟩
  · refine ⟨?_, h3.small⟩
    have := nodup_lt_len (n := 4294967296) h4.2.2 (fun k hk => by obtain ⟨p, hp, rfl⟩ := List.mem_map.1 hk; exact h3.small p hp)
    simpa [tagKv] using this

theorem TRun.tags {P : Program} {TT TL TG S : TypeId} {N sv st tr m n k o kf i1 i2 i3 : Nat} {fe fc fs : FuncId} {ats ats2 : Array TypeId}
    {t0 t1 t2 t3 t4 t5 t6 t7 t8 t9 : TypeId} {p0 p1 p2 p3 p4 p5 p6 p7 p8 p9 : String} {e0 e1 e2 e3 e4 e5 e6 e7 e8 e9 : Array Edge} (hT : TreeTys P TT TL) (hE : EachM P fe) (hC : CbM P fc) (hS : SortedM P fs) (hG : scal P TG = true) (hF : fieldOf P S kf o = true)
    (hb : (decide (sv < n) && decide (st < n) && decide (tr < n) && decide (n + 8 < N)) = true) :
    TRun P N sv st tr m (.seq (Code.region i1 ⟨[⟨some n, .move (.tmp sv), t0, p0, e0, none⟩, ⟨some (n + 1), .nilCheck (.tmp n), t1, p1, e1, none⟩, ⟨some (n + 2), .fieldAddr S (.tmp (n + 1)) kf, t2, p2, e2, none⟩, ⟨some (n + 3), .makeFunc (.func fc) #[] #[.tmp st], t3, p3, e3, none⟩,
      ⟨some (n + 4), .call ⟨.value (.func fe), #[.tmp (n + 2), .tmp (n + 3)], ats⟩, t4, p4, e4, none⟩]⟩ false)
      (.seq (Code.region i2 ⟨[⟨some (n + 5), .fieldAddr TT (.tmp st) 4, t5, p5, e5, none⟩, ⟨some (n + 6), .load TG (.tmp (n + 5)), t6, p6, e6, none⟩, ⟨some (n + 7), .call ⟨.value (.func fs), #[.tmp (n + 6)], ats2⟩, t7, p7, e7, none⟩]⟩ false)
      (.seq (Code.region i3 ⟨[⟨some (n + 8), .load TT (.tmp st), t8, p8, e8, none⟩, ⟨none, .store TT (.tmp tr) (.tmp (n + 8)), t9, p9, e9, none⟩]⟩ false) .ret))) k o [.tags] [] := by
  intro e Q a w l xs rb hen hN hd hsv hst htr hth hrs hrl hrt hrp hrB hm hl hn ⟨z, hz1, hz2⟩ hK
  simp only [Bool.and_eq_true, decide_eq_true_eq] at hb
  obtain ⟨⟨⟨b1, b2⟩, b3⟩, b4⟩ := hb
  obtain ⟨c1, c2, x, r, rfl, rfl, hr1, hr2⟩ := hz2
  obtain ⟨_, rfl⟩ := hr2
  simp only [List.length_nil, Nat.add_zero] at hn
  obtain ⟨v, rfl⟩ : ∃ v, c1 = [v] := List.length_eq_one_iff.1 (by simpa [Ty.size] using hr1.length)
  rw [range_append] at hz1
  have hcv : w.cell? ⟨e.pb, e.po + o, none⟩ = some v := hz1.1 0 v rfl
  obtain ⟨hkl, hk32⟩ := hr1.tag_bounds
  have hs0 := hm.s0
  have htb := hm.tbs
  have hps := hm.ps
  have hbs := hm.bs
  refine then_id (wp_seq_k fun K1 hK1 => ?_)
  refine wp_reg ?_
  rw [wpl_cons, wp_move, eval_tmp, hsv, wpl_cons]
  refine wp_nilCheck (q := ⟨e.pb, e.po, none⟩) (by rw [eval_tmp, get_put_same (by omega)]) ?_
  rw [wpl_cons]
  refine wp_fieldAddr (b := e.pb) (i := e.po) hF (by rw [eval_tmp, get_put_same (by simp only [size_put]; omega)]) ?_
  rw [wpl_cons]
  refine wp_makeFunc1 (v := .pointer (some ⟨e.tb, 0, none⟩)) (by rw [eval_tmp, get_put_ne (by omega), get_put_ne (by omega), get_put_ne (by omega), hst]) ?_
  rw [wpl_cons]
  have hI0 : CbI e.tb w.heap.size [] [⟨e.tb, 4, 5⟩] w := ⟨.slice none 0 0, hm.tree 4 _ rfl, there_part hm.thT (by omega) (by omega), TOwn.nil, rfl, by simp, by omega⟩
  refine wp_calls (R := fun _ w' => ∃ own', CbI e.tb w.heap.size (sortKv (tagKv x)) own' w' ∧ Fr [⟨e.tb, 4, 5⟩] w w') hE.enters (vs := #[.pointer (some ⟨e.pb, e.po + o, none⟩), .func (.func fc) #[] #[.pointer (some ⟨e.tb, 0, none⟩)]])
    (by simp only [List.map_toArray, List.map_cons, List.map_nil, eval_tmp]; rw [get_put_ne (by omega), get_put_same (by simp only [size_put]; omega), get_put_same (by simp only [size_put]; omega)])
    ((hE.call w e.B e.pb (e.po + o) v x fc #[.pointer (some ⟨e.tb, 0, none⟩)] (CbI e.tb w.heap.size) [⟨e.tb, 4, 5⟩] hcv hr1 (fun b hb => by have := (hbs b hb).1; omega) hC.enters hI0
      (by intro z hz; simp at hz; subst hz; exact ⟨fun h => (hbs _ h).2.2 rfl, fun h => hm.pt h.symm, by simp only; omega⟩)
      (fun done own w w' h hf => h.stable hf)
      (fun done own w1 k y u hI hkx hu hdl hw1 => by
        rw [show (#[Value.int .u32 (k : Int), u] ++ #[Value.pointer (some ⟨e.tb, 0, none⟩)]) = #[Value.int .u32 (k : Int), u, Value.pointer (some ⟨e.tb, 0, none⟩)] from by simp]
        exact hC.call w1 e.B e.tb w.heap.size done own k y u hI (hk32 _ hkx) hu (by omega) hw1)).mono
      (by rintro e' w' ⟨⟨z, rfl⟩, own', h1, h2, _⟩; exact ⟨z, rfl, own', h1, h2⟩)) ?_
  rintro zz w1 ⟨own', ⟨uv, hcu, htu, hown, _, hdl, _⟩, f1⟩
  rw [wpl_nil]
  generalize ha1 : (((((a.put (some n) (.pointer (some ⟨e.pb, e.po, none⟩))).put (some (n + 1)) (.pointer (some ⟨e.pb, e.po, none⟩))).put (some (n + 2)) (.pointer (some ⟨e.pb, e.po + o, none⟩))).put (some (n + 3)) (.func (.func fc) #[] #[.pointer (some ⟨e.tb, 0, none⟩)])).put (some (n + 4)) zz) = a1
  have k1 : Kept n a a1 := by subst ha1; exact ((((Kept.put0 (by omega) _).put (by omega) _).put (by omega) _).put (by omega) _).put (by omega) _
  clear ha1
  have hz1' := k1.size
  have sz1 := f1.size
  refine hK1 a1 w1 (then_up ?_)
  refine then_id (wp_seq_k fun K2 hK2 => ?_)
  refine wp_reg ?_
  rw [wpl_cons]
  refine wp_fieldAddr (hT.flat.field (k := 4) (by decide)) (b := e.tb) (i := 0) (by rw [eval_tmp, k1.get st (by omega), hst]) ?_
  rw [wpl_cons]
  refine wp_load hG (b := e.tb) (o := 0 + 4) (v := uv) (by rw [eval_tmp, get_put_same (by omega)]) (by rw [Nat.zero_add]; exact hcu) ?_
  rw [wpl_cons]
  have hsl := (sortKv_perm (tagKv x)).length_eq
  have hll : (tagL (sortKv (tagKv x))).length ≤ 4294967296 := by simp [tagL]; omega
  have hTR := hown.tags hll
  refine wp_calls (R := fun _ w' => Fr [] w1 w') hS.enters (vs := #[uv]) (by simp only [List.map_toArray, List.map_cons, List.map_nil, eval_tmp]; rw [get_put_same (by simp only [size_put]; omega)])
    ((hS.call w1 _ uv _ hTR (by
      have := sortKv_sorted (tagKv x)
      simp only [tagL, List.map_map]
      rw [List.pairwise_map]
      exact this)).mono (by rintro e' w' ⟨⟨z, rfl⟩, h⟩; exact ⟨z, rfl, h⟩)) ?_
  intro zz2 w2 f2
  rw [wpl_nil]
  generalize ha2 : ((a1.put (some (n + 5)) (.pointer (some ⟨e.tb, 0 + 4, none⟩))).put (some (n + 6)) uv).put (some (n + 7)) zz2 = a2
  have k2 : Kept n a1 a2 := by subst ha2; exact ((Kept.put0 (by omega) _).put (by omega) _).put (by omega) _
  clear ha2
  have hz2' := k2.size
  have sz2 := f2.size
  have f12 : Fr [⟨e.tb, 4, 5⟩] w w2 := f1.tr (f2.nil)
  refine hK2 a2 w2 (then_up ?_)
  have htree : w2.rangeAt e.tb 0 [.int .i64 0, .slice none 0 0, .bool false, .slice (some ⟨e.lb, 0, none⟩) e.n e.n, uv] := by
    intro j u hj
    have hlow : ∀ j u, j < 4 → [(.int .i64 0 : Value), .slice none 0 0, .bool false, .slice (some ⟨e.lb, 0, none⟩) e.n e.n, .slice none 0 0][j]? = some u → w2.cell? ⟨e.tb, 0 + j, none⟩ = some u := by
      intro j u hj4 hu
      exact f12.cell (hm.tree j u hu) (.cons (.inr (by simp only; omega)) .nil)
    rcases j with _ | _ | _ | _ | _ | j
    · exact hlow 0 u (by omega) hj
    · exact hlow 1 u (by omega) hj
    · exact hlow 2 u (by omega) hj
    · exact hlow 3 u (by omega) hj
    · simp at hj; subst hj
      exact f2.cell hcu .nil
    · simp at hj
  have kk := k1.trans k2
  refine then_id (wp_seq_k fun K3 hK3 => ?_)
  refine wp_reg ?_
  rw [wpl_cons]
  refine wp_loadFlat hT.flat (cs := [.int .i64 0, .slice none 0 0, .bool false, .slice (some ⟨e.lb, 0, none⟩) e.n e.n, uv]) rfl (by rw [eval_tmp, kk.get st (by omega), hst]) htree ?_
  rw [wpl_cons]
  have hth2 : w2.there rb 0 5 := f12.there hth
  have huone := hown.one
  refine wp_storeFlat hT.flat (cs := [.int .i64 0, .slice none 0 0, .bool false, .slice (some ⟨e.lb, 0, none⟩) e.n e.n, uv]) (b := rb) (o := 0) rfl (by rw [eval_tmp, get_put_ne (by omega), kk.get tr (by omega), htr]) (by rw [eval_tmp, get_put_same (by omega)])
    (by intro y hy; simp at hy; rcases hy with rfl | rfl | rfl | rfl | rfl <;> first | rfl | exact huone) hth2 ?_
  rw [wpl_nil, put_none]
  refine hK3 _ _ (wp_ret ?_)
  have hs := Fr.sets rb [.int .i64 0, .slice none 0 0, .bool false, .slice (some ⟨e.lb, 0, none⟩) e.n e.n, uv] w2 0
  have hrg := World.rangeAt_setCells_same w2 rb 0 [.int .i64 0, .slice none 0 0, .bool false, .slice (some ⟨e.lb, 0, none⟩) e.n e.n, uv] hth2
  have hsz := hs.size
  have hfull : Fr [⟨e.lb, 0, e.n * 5⟩, ⟨rb, 0, 5⟩, ⟨e.tb, 0, 5⟩] w2 (w2.setCells rb 0 [.int .i64 0, .slice none 0 0, .bool false, .slice (some ⟨e.lb, 0, none⟩) e.n e.n, uv]) := by
    refine hs.mono ?_
    intro r hr; simp at hr; subst hr
    exact .inr ⟨⟨rb, 0, 5⟩, by simp, rfl, by simp, by simp⟩
  generalize w2.setCells rb 0 [.int .i64 0, .slice none 0 0, .bool false, .slice (some ⟨e.lb, 0, none⟩) e.n e.n, uv] = w3 at hs hrg hsz hfull ⊢
  refine hK _ _ _ ((defers_put _ _ _).trans (kk.defers.trans hd)) (by rw [get_put_ne (by omega), kk.get tr (by omega), htr]) ((f12.mono ?_).tr hfull) hrg ?_
  · intro r hr; simp at hr; subst hr
    exact .inr ⟨⟨e.tb, 0, 5⟩, by simp, rfl, by simp, by simp⟩
  · have hll2 : l.length = e.n := by omega
    have hslots : slots l e.n = l.map .done := by simp [slots, hll2]
    rw [repT_iff]
    have hnrb : ∀ r ∈ [(⟨rb, 0, 0 + [(.int .i64 0 : Value), .slice none 0 0, .bool false, .slice (some ⟨e.lb, 0, none⟩) e.n e.n, uv].length⟩ : Rng)], ∀ s, e.s0 ≤ s → ¬ (s ≤ r.b) := by
      intro r hr s hs' hle; simp at hr; subst hr; simp only at hle; omega
    have hels : ∀ i y, l[i]? = some y → ∃ es, w.rangeAt e.lb (i * 5) es ∧ RepT w (fun b => e.s0 ≤ b ∧ b < w.heap.size) es y := by
      intro i y hy
      obtain ⟨es, h1, h2⟩ := hm.els i (.done y) (by rw [hslots, List.getElem?_map, hy]; rfl)
      exact ⟨es, h1, h2⟩
    have hch : ∃ es : Nat → List Value, ∀ i y, l[i]? = some y → w.rangeAt e.lb (i * 5) (es i) ∧ RepT w (fun b => e.s0 ≤ b ∧ b < w.heap.size) (es i) y := by
      refine ⟨fun i => cellsAt w e.lb (i * 5) 5, fun i y hy => ?_⟩
      obtain ⟨es, h1, h2⟩ := hels i y hy
      have := range_cellsAt h1
      rw [h2.length] at this
      show w.rangeAt e.lb (i * 5) (cellsAt w e.lb (i * 5) 5) ∧ RepT w _ (cellsAt w e.lb (i * 5) 5) y
      rw [← this]
      exact ⟨h1, h2⟩
    obtain ⟨es, hes⟩ := hch
    have htagr : TagsR w3 (fun b => b = e.lb ∨ e.A w3 b) uv (tagsT x) := by
      have h2 := (hown.kept f2 (by simp) (From.mono sz2)).tags hll
      exact h2.kept hs (fun r hr hF => hnrb r hr _ hs0 hF.1) (fun b hb => .inr ⟨Nat.le_trans hs0 hb.1, Nat.lt_of_lt_of_le hb.2 hsz⟩)
    refine ⟨_, _, _, rfl, by omega, .nil, .inr ⟨e.lb, 0, e.n, .inl rfl, by simp [tellAll, hll2], ⟨by simp [tellAll, hll2], by simp [tellAll, hll2, hen]⟩, es, fun i y hy => ?_, fun i y hy => ?_⟩, htagr⟩
    · rw [Nat.zero_add]
      exact hs.range (f12.range (hes i y (by simpa [tellAll] using hy)).1 (.cons (.inl (fun h => hm.ne h.symm)) .nil)) (.cons (.inl hrl) .nil)
    · refine ((hes i y (by simpa [tellAll] using hy)).2.kept f12 (A' := fun b => e.s0 ≤ b ∧ b < w2.heap.size) (fun r hr hF => ?_) (fun b hb => ⟨hb.1, Nat.lt_of_lt_of_le hb.2 f12.size⟩)).kept hs (fun r hr hF => hnrb r hr _ (Nat.le_refl _) hF.1) (fun b hb => .inr ⟨hb.1, Nat.lt_of_lt_of_le hb.2 hsz⟩)
      simp at hr; subst hr; have := hF.1; simp only at this; omega
end Go.Kq

/- The functions that tell a text that may be null, a bool, octets; sixteen octets. Written by mk_tlc.py. -/
namespace Go.Kq
open Go Go.Proofs

def ptrTy (P : Program) (t : TypeId) : Bool := match P.underlying t with | some (.pointer _) => true | _ => false
theorem under_ptr {P : Program} {t : TypeId} (h : ptrTy P t = true) : ∃ e, P.underlying t = some (.pointer e) := by
  unfold ptrTy at h
  cases hu : P.underlying t with
  | none => simp [hu] at h
  | some d => cases d <;> simp [hu] at h; exact ⟨_, rfl⟩
theorem run_eqPtrNil {P : Program} {w : World} {s e : TypeId} {q : Option Addr} (hs : P.underlying s = some (.pointer e)) (n : Nat) : (Op.equalIn (n + 1) s (.pointer q) (.pointer none)).run P w = .ok q.isNone w := by
  cases q <;> simp [Op.equalIn, run_underlying hs]
theorem wp_eqlPtrNil {P : Program} {a : Act} {w : World} {K : Act → World → Prop} {Q : Exit → Act → World → Prop} {d : Option Tmp} {t : TypeId} {p : String} {af : Array Edge} {g : Option (Nat × Bool)} {s u : TypeId} {x : Operand} {q : Option Addr} (hs : ptrTy P s = true) (hx : a.eval x = .pointer q) (k : K (a.put d (.bool q.isNone)) w) :
    OW P ⟨d, .binOp .eql s x (.const (.pointer none)) u, t, p, af, g⟩ a w K Q := by
  obtain ⟨e, hu⟩ := under_ptr hs
  refine wp_val (v := .bool q.isNone) (w' := w) ?_ k
  have hg : (eqGuard .eql s x (.const (.pointer none)) (.pointer q) (.pointer none)).run P w = .ok () w := by simp [eqGuard]
  have he : (Op.equal s (.pointer q) (.pointer none)).run P w = .ok q.isNone w := run_eqPtrNil hu 9999
  have hr : (binOp .eql s (.pointer q) (.pointer none)).run P w = .ok (.bool q.isNone) w := by
    simp only [binOp, Sem.run_bind, he, Result.andThen_ok, Sem.run_pure]
  have hc : a.eval (.const (.pointer none)) = .pointer none := rfl
  simp only [execOp, hx, hc, Sem.run_bind, hg, hr, Result.andThen_ok, Sem.run_pure]

theorem text_m {P : Program} {f : FuncId} {fn : Func} {T9 T22 T26 T116 : TypeId} {i0 i1 i2 i3 : Nat}
    {t0 t1 t2 t3 t4 t5 t6 t7 t8 t9 t10 : TypeId} {p0 p1 p2 p3 p4 p5 p6 p7 p8 p9 p10 : String} {e0 e1 e2 e3 e4 e5 e6 e7 e8 e9 e10 : Array Edge}
    (hf : P.funcs[f]? = some fn) (hname : (fn.name == "runtime.NumGoroutine") = false) (hres : fn.results = #[.cell 2 T26]) (hN : fn.ntmps = 11)
    (hbody : fn.body = some (.seq (Code.region i0 ⟨[⟨some 2, .alloc T26, t0, p0, e0, none⟩]⟩ false)
  (.seq (.seq (Code.region i1 ⟨[⟨some 3, .move (.tmp 0), t1, p1, e1, none⟩,
    ⟨some 4, .binOp .eql T116 (.tmp 3) (.const (.pointer none)) T116, t2, p2, e2, none⟩]⟩ false)
  (.cond (.tmp 4) (.seq (Code.region i2 ⟨[⟨some 5, .build T26 #[(2, .const (.bool true))], t3, p3, e3, none⟩,
    ⟨none, .store T26 (.tmp 2) (.tmp 5), t4, p4, e4, none⟩]⟩ false)
  .ret)
  .skip))
  (.seq (Code.region i3 ⟨[⟨some 6, .move (.tmp 0), t5, p5, e5, none⟩,
    ⟨some 7, .nilCheck (.tmp 6), t6, p6, e6, none⟩,
    ⟨some 8, .load T9 (.tmp 7), t7, p7, e7, none⟩,
    ⟨some 9, .convert T9 T22 (.tmp 8), t8, p8, e8, none⟩,
    ⟨some 10, .build T26 #[(1, .tmp 9)], t9, p9, e9, none⟩,
    ⟨none, .store T26 (.tmp 2) (.tmp 10), t10, p10, e10, none⟩]⟩ false)
  .ret))))
    (hT : Flat P T26 zT) (h116 : ptrTy P T116 = true) (h9 : strTy P T9 = true) (h9s : scal P T9 = true) (h22 : byteSl P T22 = true) : FnT P f .pstr tText := by
  refine ⟨enters_of hf hname hbody, ?_⟩
  intro w B v x hx
  obtain ⟨q, rfl⟩ : ∃ q, v = .pointer q := by
    rcases hx with ⟨h, _⟩ | ⟨b, o, s, _, h, _⟩ <;> (simp at h; exact ⟨_, h⟩)
  refine calls_of_wp hf hbody ?_
  generalize ha0 : ({ tmps := #[Value.pointer q] ++ Array.replicate (fn.ntmps - #[Value.pointer q].size) undef, defers := [] } : Act) = a0
  have hsz : a0.tmps.size = 11 := by subst ha0; simp [hN]
  have hd0 : a0.defers = [] := by subst ha0; rfl
  have g0 : get a0 0 = .pointer q := by subst ha0; exact get_args rfl
  clear ha0
  refine then_id (wp_seq_k fun K1 hK1 => ?_)
  refine wp_reg ?_
  rw [wpl_cons]
  refine wp_alloc hT.zero ?_
  rw [wpl_nil]
  have f1 := Fr.alloc [] w (.cells (Value.agg zT.toArray).cells T26)
  have th1 : (w.alloc (.cells (Value.agg zT.toArray).cells T26)).there w.heap.size 0 5 := there_new w zT.toArray T26
  have sz1 := size_alloc w (.cells (Value.agg zT.toArray).cells T26)
  generalize w.alloc (.cells (Value.agg zT.toArray).cells T26) = w1 at f1 th1 sz1 ⊢
  have k1 : Kept 2 a0 (a0.put (some 2) (.pointer (some ⟨w.heap.size, 0, none⟩))) := Kept.put0 (by omega) _
  have q2 : get (a0.put (some 2) (.pointer (some ⟨w.heap.size, 0, none⟩))) 2 = .pointer (some ⟨w.heap.size, 0, none⟩) := get_put_same (by omega)
  generalize a0.put (some 2) (.pointer (some ⟨w.heap.size, 0, none⟩)) = a1 at k1 q2 ⊢
  have hz1 := k1.size
  refine hK1 a1 w1 (then_up ?_)
  refine then_id (wp_seq_k fun K2 hK2 => ?_)
  refine wp_seq_k fun K3 hK3 => ?_
  refine wp_reg ?_
  rw [wpl_cons, wp_move, eval_tmp, k1.get 0 (by omega), g0, wpl_cons]
  refine wp_eqlPtrNil h116 (q := q) (by rw [eval_tmp, get_put_same (by omega)]) ?_
  rw [wpl_nil]
  have k2 : Kept 3 a1 ((a1.put (some 3) (.pointer q)).put (some 4) (.bool q.isNone)) := (Kept.put0 (by omega) _).put (by omega) _
  have q4 : get ((a1.put (some 3) (.pointer q)).put (some 4) (.bool q.isNone)) 4 = .bool q.isNone := get_put_same (by simp only [size_put]; omega)
  generalize (a1.put (some 3) (.pointer q)).put (some 4) (.bool q.isNone) = a2 at k2 q4 ⊢
  have hz2 := k2.size
  have r2 : get a2 2 = .pointer (some ⟨w.heap.size, 0, none⟩) := by rw [k2.get 2 (by omega), q2]
  have hd2 : a2.defers = [] := by rw [k2.defers, k1.defers, hd0]
  refine hK3 a2 w1 ?_
  refine wp_cond_split (t := q.isNone) (by rw [eval_tmp, q4]) (fun hq => ?_) fun hq => wp_skip (hK2 a2 w1 (then_up ?_))
  · obtain rfl : q = none := by simpa using hq
    obtain rfl : x = .nil := by
      rcases hx with ⟨_, h⟩ | ⟨b, o, s, _, h, _⟩
      · exact h
      · simp at h
    refine wp_seq_k fun K4 hK4 => ?_
    refine wp_reg ?_
    rw [wpl_cons]
    refine wp_build1 hT (k := 2) (v := .bool true) (by decide) rfl rfl ?_
    rw [wpl_cons]
    refine wp_storeFlat hT (cs := zT.set 2 (.bool true)) (b := w.heap.size) (o := 0) rfl (by rw [eval_tmp, get_put_ne (by omega), r2]) (by rw [eval_tmp, get_put_same (by omega)]) (by simp [zT, Value.oneCell']) th1 ?_
    rw [put_none, wpl_nil]
    have f2 := Fr.sets w.heap.size (zT.set 2 (.bool true)) w1 0
    have rg := World.rangeAt_setCells_same w1 w.heap.size 0 (zT.set 2 (.bool true)) th1
    generalize w1.setCells w.heap.size 0 (zT.set 2 (.bool true)) = w2 at f2 rg ⊢
    have sz2 := f2.size
    refine hK4 _ w2 (wp_ret ?_)
    refine ⟨((defers_put _ _ _).trans hd2), _, results_cell hres hT (by rfl) (by rw [get_put_ne (by omega), r2]) rg, ⟨_, rfl, ?_, ?_⟩⟩
    · exact f1.trans f2 (by intro r hr; simp at hr; subst hr; exact .inl (Nat.le_refl _))
    · exact RepT.nil (by omega) .nil (.inl ⟨rfl, rfl⟩)
  · obtain ⟨qa, rfl⟩ : ∃ qa, q = some qa := by cases q with | none => simp at hq | some qa => exact ⟨qa, rfl⟩
    obtain ⟨b, o, s, hB, hqa, hcs, rfl, hsl⟩ : ∃ b o, ∃ s : ByteArray, B b ∧ qa = ⟨b, o, none⟩ ∧ w.cell? ⟨b, o, none⟩ = some (.string s) ∧ x = .s s.data.toList ∧ s.data.toList.length ≤ 4294967296 := by
      rcases hx with ⟨h, _⟩ | ⟨b, o, s, h1, h2, h3, h4, h5⟩
      · simp at h
      · simp at h2; exact ⟨b, o, s, h1, h2, h3, h4, h5⟩
    subst hqa
    refine then_id (wp_seq_k fun K4 hK4 => ?_)
    refine wp_reg ?_
    rw [wpl_cons, wp_move, eval_tmp, k2.get 0 (by omega), k1.get 0 (by omega), g0, wpl_cons]
    refine wp_nilCheck (q := ⟨b, o, none⟩) (by rw [eval_tmp, get_put_same (by omega)]) ?_
    rw [wpl_cons]
    refine wp_load h9s (b := b) (o := o) (v := .string s) (by rw [eval_tmp, get_put_same (by simp only [size_put]; omega)]) (f1.cell hcs .nil) ?_
    rw [wpl_cons]
    refine wp_toBytes hsl h9 h22 (by rw [eval_tmp, get_put_same (by simp only [size_put]; omega)]) ?_
    intro y w2 f2 hy
    have sz2 := f2.size
    rw [wpl_cons]
    refine wp_build1 hT (k := 1) (v := y) (by decide) (by rw [eval_tmp, get_put_same (by simp only [size_put]; omega)]) hy.one ?_
    rw [wpl_cons]
    have th2 : w2.there w.heap.size 0 5 := f2.there th1
    refine wp_storeFlat hT (cs := zT.set 1 y) (b := w.heap.size) (o := 0) rfl (by rw [eval_tmp, get_put_ne (by omega), get_put_ne (by omega), get_put_ne (by omega), get_put_ne (by omega), get_put_ne (by omega), r2]) (by rw [eval_tmp, get_put_same (by simp only [size_put]; omega)]) (by have := hy.one; simp [zT, Value.oneCell']; exact this) th2 ?_
    rw [put_none, wpl_nil]
    have f3 := Fr.sets w.heap.size (zT.set 1 y) w2 0
    have rg := World.rangeAt_setCells_same w2 w.heap.size 0 (zT.set 1 y) th2
    generalize w2.setCells w.heap.size 0 (zT.set 1 y) = w3 at f3 rg ⊢
    have sz3 := f3.size
    refine hK4 _ w3 (wp_ret ?_)
    refine ⟨(by simp only [defers_put]; exact hd2), _, results_cell hres hT (by rfl) (by rw [get_put_ne (by omega), get_put_ne (by omega), get_put_ne (by omega), get_put_ne (by omega), get_put_ne (by omega), r2]) rg, ⟨_, rfl, ?_, ?_⟩⟩
    · exact (f1.tr f2).trans f3 (by intro r hr; simp at hr; subst hr; exact .inl (Nat.le_refl _))
    · exact repT_str (hy.kept f3 (by intro r hr hF; simp at hr; subst hr; have := hF.1; simp only at this; omega) (fun b hb => ⟨by have := hb.1; omega, by have := hb.2; omega⟩))

theorem bool_m {P : Program} {f : FuncId} {fn : Func} {T26 : TypeId} {i0 i1 i2 i3 : Nat}
    {t0 t1 t2 t3 t4 t5 : TypeId} {p0 p1 p2 p3 p4 p5 : String} {e0 e1 e2 e3 e4 e5 : Array Edge}
    (hf : P.funcs[f]? = some fn) (hname : (fn.name == "runtime.NumGoroutine") = false) (hres : fn.results = #[.cell 2 T26]) (hN : fn.ntmps = 6)
    (hbody : fn.body = some (.seq (Code.region i0 ⟨[⟨some 2, .alloc T26, t0, p0, e0, none⟩]⟩ false)
  (.seq (.seq (Code.region i1 ⟨[⟨some 3, .move (.tmp 0), t1, p1, e1, none⟩]⟩ false)
  (.cond (.tmp 3) (.seq (Code.region i2 ⟨[⟨some 4, .build T26 #[(0, .const (.int .i64 1))], t2, p2, e2, none⟩,
    ⟨none, .store T26 (.tmp 2) (.tmp 4), t3, p3, e3, none⟩]⟩ false)
  .ret)
  .skip))
  (.seq (Code.region i3 ⟨[⟨some 5, .build T26 #[], t4, p4, e4, none⟩,
    ⟨none, .store T26 (.tmp 2) (.tmp 5), t5, p5, e5, none⟩]⟩ false)
  .ret))))
    (hT : Flat P T26 zT) : FnT P f .bool tBool := by
  refine ⟨enters_of hf hname hbody, ?_⟩
  intro w B v x hx
  obtain ⟨t, hv, rfl⟩ := hx
  simp at hv
  subst hv
  refine calls_of_wp hf hbody ?_
  generalize ha0 : ({ tmps := #[Value.bool t] ++ Array.replicate (fn.ntmps - #[Value.bool t].size) undef, defers := [] } : Act) = a0
  have hsz : a0.tmps.size = 6 := by subst ha0; simp [hN]
  have hd0 : a0.defers = [] := by subst ha0; rfl
  have g0 : get a0 0 = .bool t := by subst ha0; exact get_args rfl
  clear ha0
  refine then_id (wp_seq_k fun K1 hK1 => ?_)
  refine wp_reg ?_
  rw [wpl_cons]
  refine wp_alloc hT.zero ?_
  rw [wpl_nil]
  have f1 := Fr.alloc [] w (.cells (Value.agg zT.toArray).cells T26)
  have th1 : (w.alloc (.cells (Value.agg zT.toArray).cells T26)).there w.heap.size 0 5 := there_new w zT.toArray T26
  have sz1 := size_alloc w (.cells (Value.agg zT.toArray).cells T26)
  generalize w.alloc (.cells (Value.agg zT.toArray).cells T26) = w1 at f1 th1 sz1 ⊢
  have k1 : Kept 2 a0 (a0.put (some 2) (.pointer (some ⟨w.heap.size, 0, none⟩))) := Kept.put0 (by omega) _
  have q2 : get (a0.put (some 2) (.pointer (some ⟨w.heap.size, 0, none⟩))) 2 = .pointer (some ⟨w.heap.size, 0, none⟩) := get_put_same (by omega)
  generalize a0.put (some 2) (.pointer (some ⟨w.heap.size, 0, none⟩)) = a1 at k1 q2 ⊢
  have hz1 := k1.size
  refine hK1 a1 w1 (then_up ?_)
  refine then_id (wp_seq_k fun K2 hK2 => ?_)
  refine wp_seq_k fun K3 hK3 => ?_
  refine wp_reg ?_
  rw [wpl_cons, wp_move, eval_tmp, k1.get 0 (by omega), g0, wpl_nil]
  have k2 : Kept 3 a1 (a1.put (some 3) (.bool t)) := Kept.put0 (by omega) _
  have q3 : get (a1.put (some 3) (.bool t)) 3 = .bool t := get_put_same (by omega)
  generalize a1.put (some 3) (.bool t) = a2 at k2 q3 ⊢
  have hz2 := k2.size
  have r2 : get a2 2 = .pointer (some ⟨w.heap.size, 0, none⟩) := by rw [k2.get 2 (by omega), q2]
  have hd2 : a2.defers = [] := by rw [k2.defers, k1.defers, hd0]
  refine hK3 a2 w1 ?_
  refine wp_cond_split (t := t) (by rw [eval_tmp, q3]) (fun hq => ?_) fun hq => wp_skip (hK2 a2 w1 (then_up ?_))
  · subst hq
    refine wp_seq_k fun K4 hK4 => ?_
    refine wp_reg ?_
    rw [wpl_cons]
    refine wp_build1 hT (k := 0) (v := .int .i64 1) (by decide) rfl rfl ?_
    rw [wpl_cons]
    refine wp_storeFlat hT (cs := zT.set 0 (.int .i64 1)) (b := w.heap.size) (o := 0) rfl (by rw [eval_tmp, get_put_ne (by omega), r2]) (by rw [eval_tmp, get_put_same (by omega)]) (by simp [zT, Value.oneCell']) th1 ?_
    rw [put_none, wpl_nil]
    have f2 := Fr.sets w.heap.size (zT.set 0 (.int .i64 1)) w1 0
    have rg := World.rangeAt_setCells_same w1 w.heap.size 0 (zT.set 0 (.int .i64 1)) th1
    generalize w1.setCells w.heap.size 0 (zT.set 0 (.int .i64 1)) = w2 at f2 rg ⊢
    refine hK4 _ w2 (wp_ret ?_)
    refine ⟨((defers_put _ _ _).trans hd2), _, results_cell hres hT (by rfl) (by rw [get_put_ne (by omega), r2]) rg, ⟨_, rfl, ?_, ?_⟩⟩
    · exact f1.trans f2 (by intro r hr; simp at hr; subst hr; exact .inl (Nat.le_refl _))
    · exact repT_num (by omega)
  · obtain rfl : t = false := by simpa using hq
    refine then_id (wp_seq_k fun K4 hK4 => ?_)
    refine wp_reg ?_
    rw [wpl_cons]
    refine wp_build0 hT ?_
    rw [wpl_cons]
    refine wp_storeFlat hT (cs := zT) (b := w.heap.size) (o := 0) rfl (by rw [eval_tmp, get_put_ne (by omega), r2]) (by rw [eval_tmp, get_put_same (by omega)]) (by simp [zT, Value.oneCell']) th1 ?_
    rw [put_none, wpl_nil]
    have f2 := Fr.sets w.heap.size zT w1 0
    have rg := World.rangeAt_setCells_same w1 w.heap.size 0 zT th1
    generalize w1.setCells w.heap.size 0 zT = w2 at f2 rg ⊢
    refine hK4 _ w2 (wp_ret ?_)
    refine ⟨((defers_put _ _ _).trans hd2), _, results_cell hres hT (by rfl) (by rw [get_put_ne (by omega), r2]) rg, ⟨_, rfl, ?_, ?_⟩⟩
    · exact f1.trans f2 (by intro r hr; simp at hr; subst hr; exact .inl (Nat.le_refl _))
    · exact repT_zero

def tOcts : V → T
  | .s l => .mk 0 l false [] []
  | _ => .mk 0 [] true [] []
theorem octs_m {P : Program} {f : FuncId} {fn : Func} {et T22 T26 : TypeId} {i0 i1 : Nat}
    {t0 t1 t2 t3 t4 t5 t6 : TypeId} {p0 p1 p2 p3 p4 p5 p6 : String} {e0 e1 e2 e3 e4 e5 e6 : Array Edge}
    (hf : P.funcs[f]? = some fn) (hname : (fn.name == "runtime.NumGoroutine") = false) (hres : fn.results = #[.cell 2 T26]) (hN : fn.ntmps = 8)
    (hbody : fn.body = some (.seq (Code.region i0 ⟨[⟨some 2, .alloc T26, t0, p0, e0, none⟩]⟩ false)
  (.seq (Code.region i1 ⟨[⟨some 3, .move (.tmp 0), t1, p1, e1, none⟩,
    ⟨some 4, .call ⟨.builtin .append, #[(.const (.slice none 0 0)), (.tmp 3)], #[T22, T22]⟩, t2, p2, e2, none⟩,
    ⟨some 5, .move (.tmp 0), t3, p3, e3, none⟩,
    ⟨some 6, .binOp .eql T22 (.tmp 5) (.const (.slice none 0 0)) T22, t4, p4, e4, none⟩,
    ⟨some 7, .build T26 #[(1, .tmp 4), (2, .tmp 6)], t5, p5, e5, none⟩,
    ⟨none, .store T26 (.tmp 2) (.tmp 7), t6, p6, e6, none⟩]⟩ false)
  .ret)))
    (hT : Flat P T26 zT) (h22 : sliceOf P T22 et 1 1 = true) (h22s : slTy P T22 = true) (hz22 : zeroIs P et [.int .u8 0]) : FnT P f .bytes tOcts := by
  refine ⟨enters_of hf hname hbody, ?_⟩
  intro w B v x hx
  obtain ⟨v', y, hv, ho, rfl⟩ := hx
  simp at hv
  subst hv
  have hoe : OctE w B v (y.getD []) := ⟨y, ho, rfl⟩
  have hbig := hoe.small
  obtain ⟨q, n, cap, rfl, hqn⟩ : ∃ q n cap, v = .slice q n cap ∧ q.isNone = y.isNone := by
    rcases ho with ⟨rfl, rfl⟩ | ⟨b, o, cap, l, _, rfl, _, _, rfl⟩
    · exact ⟨_, _, _, rfl, rfl⟩
    · exact ⟨_, _, _, rfl, rfl⟩
  refine calls_of_wp hf hbody ?_
  generalize ha0 : ({ tmps := #[Value.slice q n cap] ++ Array.replicate (fn.ntmps - #[Value.slice q n cap].size) undef, defers := [] } : Act) = a0
  have hsz : a0.tmps.size = 8 := by subst ha0; simp [hN]
  have hd0 : a0.defers = [] := by subst ha0; rfl
  have g0 : get a0 0 = .slice q n cap := by subst ha0; exact get_args rfl
  clear ha0
  refine then_id (wp_seq_k fun K1 hK1 => ?_)
  refine wp_reg ?_
  rw [wpl_cons]
  refine wp_alloc hT.zero ?_
  rw [wpl_nil]
  have f1 := Fr.alloc [] w (.cells (Value.agg zT.toArray).cells T26)
  have th1 : (w.alloc (.cells (Value.agg zT.toArray).cells T26)).there w.heap.size 0 5 := there_new w zT.toArray T26
  have sz1 := size_alloc w (.cells (Value.agg zT.toArray).cells T26)
  generalize w.alloc (.cells (Value.agg zT.toArray).cells T26) = w1 at f1 th1 sz1 ⊢
  have k1 : Kept 2 a0 (a0.put (some 2) (.pointer (some ⟨w.heap.size, 0, none⟩))) := Kept.put0 (by omega) _
  have q2 : get (a0.put (some 2) (.pointer (some ⟨w.heap.size, 0, none⟩))) 2 = .pointer (some ⟨w.heap.size, 0, none⟩) := get_put_same (by omega)
  generalize a0.put (some 2) (.pointer (some ⟨w.heap.size, 0, none⟩)) = a1 at k1 q2 ⊢
  have hz1 := k1.size
  have gg0 : get a1 0 = .slice q n cap := by rw [k1.get 0 (by omega), g0]
  refine hK1 a1 w1 (then_up ?_)
  refine then_id (wp_seq_k fun K2 hK2 => ?_)
  refine wp_reg ?_
  rw [wpl_cons, wp_move, eval_tmp, gg0, wpl_cons]
  refine wp_copySrc h22 hz22 (A := B) (xs := y.getD []) (by rw [eval_tmp, get_put_same (by omega)]) (hoe.kept f1 (by simp) (fun _ h => h)) hbig ?_
  intro v' w2 sb f2 hsb hlt hsrc
  have hv' : OctE w2 (From w1.heap.size w2) v' (y.getD []) := by
    rcases hsrc with ⟨h1, h2, rfl⟩ | ⟨h1, o, cap, rfl, hc, hr⟩
    · rw [h2]; exact OctE.nil
    · have hne : y.getD [] ≠ [] := by simpa using h1
      exact ⟨some (y.getD []), .inr ⟨sb, o, cap, _, ⟨hsb, hlt hne⟩, rfl, hc, hr, rfl⟩, rfl⟩
  have sz2 := f2.size
  have hone := hv'.one
  rw [wpl_cons, wp_move, eval_tmp, get_put_ne (by omega), get_put_ne (by omega), gg0, wpl_cons]
  refine wp_eqNil h22s (q := q) (by rw [eval_tmp, get_put_same (by simp only [size_put]; omega)]) ?_
  rw [wpl_cons]
  refine wp_build2 hT (k := 1) (k' := 2) (v := v') (v' := .bool q.isNone) (by decide) (by decide) (by rw [eval_tmp, get_put_ne (by omega), get_put_ne (by omega), get_put_same (by simp only [size_put]; omega)]) hone (by rw [eval_tmp, get_put_same (by simp only [size_put]; omega)]) rfl ?_
  rw [wpl_cons]
  have th2 : w2.there w.heap.size 0 5 := f2.there th1
  refine wp_storeFlat hT (cs := (zT.set 1 v').set 2 (.bool q.isNone)) (b := w.heap.size) (o := 0) rfl (by rw [eval_tmp, get_put_ne (by omega), get_put_ne (by omega), get_put_ne (by omega), get_put_ne (by omega), get_put_ne (by omega), q2]) (by rw [eval_tmp, get_put_same (by simp only [size_put]; omega)])
    (by intro u hu; simp [zT] at hu; rcases hu with rfl | rfl | rfl | rfl <;> first | rfl | exact hone) th2 ?_
  rw [put_none, wpl_nil]
  have f3 := Fr.sets w.heap.size ((zT.set 1 v').set 2 (.bool q.isNone)) w2 0
  have rg := World.rangeAt_setCells_same w2 w.heap.size 0 ((zT.set 1 v').set 2 (.bool q.isNone)) th2
  generalize w2.setCells w.heap.size 0 ((zT.set 1 v').set 2 (.bool q.isNone)) = w3 at f3 rg ⊢
  have sz3 := f3.size
  refine hK2 _ w3 (wp_ret ?_)
  refine ⟨(by simp only [defers_put]; rw [k1.defers, hd0]), _, results_cell hres hT (by rfl) (by rw [get_put_ne (by omega), get_put_ne (by omega), get_put_ne (by omega), get_put_ne (by omega), get_put_ne (by omega), q2]) rg, ⟨_, rfl, ?_, ?_⟩⟩
  · exact (f1.tr f2).trans f3 (by intro r hr; simp at hr; subst hr; exact .inl (Nat.le_refl _))
  · have hk3 : OctE w3 (From w.heap.size w3) v' (y.getD []) := hv'.kept f3 (by intro r hr hF; simp at hr; subst hr; have := hF.1; simp only at this; omega) (fun b hb => ⟨by have := hb.1; omega, by have := hb.2; omega⟩)
    have e1 : tOcts (V.oct y) = .mk 0 (y.getD []) q.isNone [] [] := by rw [hqn]; cases y <;> rfl
    rw [e1]
    exact RepT.nil (by omega) hk3 (.inl ⟨rfl, rfl⟩)
end Go.Kq
