/- A tree in the words of the statements: the whole. Written by mk_got4.py. -/
import Derived.Test.YtjeplgghcebfjaaDoorKqGot3
namespace Go.Kq
open Go Go.Proofs

theorem wp_build3 {P : Program} {a : Act} {w : World} {K : Act → World → Prop} {Q : Exit → Act → World → Prop} {d : Option Tmp} {t : TypeId} {p : String} {af : Array Edge} {g : Option (Nat × Bool)} {s : TypeId} {z : List Value} {k1 k2 k3 : Nat} {x y u : Operand} {v1 v2 v3 : Value}
    (h : Flat P s z) (hk1 : k1 < z.length) (hk2 : k2 < z.length) (hk3 : k3 < z.length) (hx : a.eval x = v1) (h1 : v1.oneCell' = true) (hy : a.eval y = v2) (h2 : v2.oneCell' = true) (hu : a.eval u = v3) (h3 : v3.oneCell' = true)
    (kk : K (a.put d (.agg (((z.set k1 v1).set k2 v2).set k3 v3).toArray)) w) : OW P ⟨d, .build s #[(k1, x), (k2, y), (k3, u)], t, p, af, g⟩ a w K Q := by
  refine wp_val (v := .agg (((z.set k1 v1).set k2 v2).set k3 v3).toArray) (w' := w) ?_ kk
  have := run_build (w := w) (ps := [(k1, v1), (k2, v2), (k3, v3)]) h (by simp; exact ⟨⟨hk1, h1⟩, ⟨hk2, h2⟩, hk3, h3⟩)
  simp only [execOp, List.map_toArray, List.map_cons, List.map_nil, hx, hy, hu, Sem.run_bind, this, Result.andThen_ok, Sem.run_pure, laid]
theorem TagsR.key {w : World} {A : Nat → Prop} {v : Value} {u : List (Nat × List UInt8)} (h : TagsR w A v u) {j : Nat} (hj : j < u.length) : (u[j]).1 < 4294967296 := by
  rcases h with ⟨rfl, rfl⟩ | ⟨b, o, cap, _, rfl, _, h1⟩
  · simp at hj
  · obtain ⟨xv, h2, _⟩ := h1 j (u[j]).1 (u[j]).2 (by simp [hj])
    exact h2

theorem got_loopU {P : Program} {T3 T22 T25 T27 T33 T35 T59 T61 T62 bs bs2 : TypeId} {i7 i8 i9 i10 i11 : Nat}
    {t30 t31 t32 t33 t34 t35 t36 t37 t38 t39 t40 t41 t42 t43 t44 t45 t46 t47 t48 t49 t50 t51 : TypeId} {p30 p31 p32 p33 p34 p35 p36 p37 p38 p39 p40 p41 p42 p43 p44 p45 p46 p47 p48 p49 p50 p51 : String} {e30 e31 e32 e33 e34 e35 e36 e37 e38 e39 e40 e41 e42 e43 e44 e45 e46 e47 e48 e49 e50 e51 : Array Edge}
    (hT : Flat P T35 zT) (hT27 : Flat P T27 zT) (hT61 : Flat P T61 zG) (hT62 : Flat P T62 zG) (hz61 : zeroIs P T61 zG) (hT22 : scal P T22 = true) (hT25 : scal P T25 = true) (hT25s : sliceOf P T25 T62 2 bs2 = true) (hT59 : scal P T59 = true) (hT33 : scal P T33 = true) (hT33s : sliceOf P T33 T61 2 bs = true) (hbs : bs ≤ 1024)
    {a : Act} {w : World} {K : Act → World → Prop} {Q : Exit → Act → World → Prop} {e : GE} {n n1 : Int} {sv s1 : Value} {nl nl1 : Bool} {l1 u1 lv : Value} {l : List (Nat × List UInt8)}
    (hsz : a.tmps.size = 49) (g1 : get a 1 = .pointer (some ⟨e.b1, 0, none⟩)) (g3 : get a 3 = .pointer (some ⟨e.ob, 0, none⟩)) (hm : GM w e [.int .i64 n1, s1, .bool nl1, l1, u1] n sv nl lv (.slice none 0 0)) (ht : TagsR w e.A u1 l)
    (hk : ∀ a' w' uv', Kept 4 a a' → (∃ r : List Rng, (∀ x ∈ r, e.s1 ≤ x.b) ∧ Fr (⟨e.ob, 0, 5⟩ :: r) w w') → GM w' e [.int .i64 n1, s1, .bool nl1, l1, u1] n sv nl lv uv' → GU w' e uv' l → K a' w') :
    (Code.seq (Code.region i7 ⟨[⟨some 30, .fieldAddr T27 (.tmp 1) 4, t30, p30, e30, none⟩,
    ⟨some 31, .load T25 (.tmp 30), t31, p31, e31, none⟩,
    ⟨some 32, .call ⟨.builtin .len, #[(.tmp 31)], #[T25]⟩, t32, p32, e32, none⟩,
    ⟨some 33, .move (.const (.int .i64 0)), t33, p33, e33, none⟩]⟩ false)
  (.block 2 (.loop (.seq (Code.region i8 ⟨[⟨some 34, .binOp .lss T3 (.tmp 33) (.tmp 32) T3, t34, p34, e34, none⟩]⟩ false)
  (.seq (.cond (.tmp 34) .skip
  (.exit 2))
  (.seq (.block 3 (.seq (Code.region i9 ⟨[⟨some 35, .indexAddr T25 (.tmp 31) (.tmp 33), t35, p35, e35, none⟩,
    ⟨some 36, .load T62 (.tmp 35), t36, p36, e36, none⟩,
    ⟨some 7, .alloc T62, t37, p37, e37, none⟩,
    ⟨none, .store T62 (.tmp 7) (.tmp 36), t38, p38, e38, none⟩]⟩ false)
  (Code.region i10 ⟨[⟨some 37, .fieldAddr T35 (.tmp 3) 4, t39, p39, e39, none⟩,
    ⟨some 38, .load T33 (.tmp 37), t40, p40, e40, none⟩,
    ⟨some 39, .fieldAddr T62 (.tmp 7) 0, t41, p41, e41, none⟩,
    ⟨some 40, .load T59 (.tmp 39), t42, p42, e42, none⟩,
    ⟨some 41, .fieldAddr T62 (.tmp 7) 1, t43, p43, e43, none⟩,
    ⟨some 42, .load T22 (.tmp 41), t44, p44, e44, none⟩,
    ⟨some 43, .build T61 #[(0, .tmp 40), (1, .tmp 42)], t45, p45, e45, none⟩,
    ⟨some 44, .buildSlice T33 1 #[(0, .tmp 43)], t46, p46, e46, none⟩,
    ⟨some 45, .call ⟨.builtin .append, #[(.tmp 38), (.tmp 44)], #[T33, T33]⟩, t47, p47, e47, none⟩,
    ⟨some 46, .fieldAddr T35 (.tmp 3) 4, t48, p48, e48, none⟩,
    ⟨none, .store T33 (.tmp 46) (.tmp 45), t49, p49, e49, none⟩]⟩ false)))
  (Code.region i11 ⟨[⟨some 47, .binOp .add T3 (.tmp 33) (.const (.int .i64 1)) T3, t50, p50, e50, none⟩,
    ⟨some 33, .move (.tmp 47), t51, p51, e51, none⟩]⟩ false))))))).wp P (Exit.then K Q) a w := by
  have hbig := ht.big
  obtain ⟨qu1, cu1, hu1⟩ := ht.slice
  refine wp_seq_k fun K5 hK5 => ?_
  refine wp_reg ?_
  rw [wpl_cons]
  refine wp_fieldAddr (hT27.field (k := 4) (by decide)) (by rw [eval_tmp, g1]) ?_
  rw [wpl_cons]
  refine wp_load hT25 (by rw [eval_tmp, get_put_same (by omega)]) (hm.r1 4 u1 rfl) ?_
  rw [wpl_cons]
  refine wp_len hT25s (by rw [eval_tmp, get_put_same (by simp only [size_put]; omega), hu1]) ?_
  rw [wpl_cons, wp_move, eval_const, wpl_nil]
  generalize ha3 : (((a.put (some 30) (.pointer (some ⟨e.b1, 0 + 4, none⟩))).put (some 31) u1).put (some 32) (.int .i64 l.length)).put (some 33) (.int .i64 0) = a3
  have k3 : Kept 4 a a3 := by subst ha3; exact (((Kept.put0 (by omega) _).put (by omega) _).put (by omega) _).put (by omega) _
  have g31 : get a3 31 = u1 := by subst ha3; rw [get_put_ne (by omega), get_put_ne (by omega), get_put_same (by simp only [size_put]; omega)]
  have g32 : get a3 32 = .int .i64 l.length := by subst ha3; rw [get_put_ne (by omega), get_put_same (by simp only [size_put]; omega)]
  have g33 : get a3 33 = .int .i64 0 := by subst ha3; rw [get_put_same (by simp only [size_put]; omega)]
  clear ha3
  refine hK5 a3 w ?_
  refine wp_block (wp_loop (fun a' w' => ∃ (j : Nat) (uv : Value), j ≤ l.length ∧ Kept 4 a a' ∧ get a' 31 = u1 ∧ get a' 32 = .int .i64 l.length ∧ get a' 33 = .int .i64 j ∧ GM w' e [.int .i64 n1, s1, .bool nl1, l1, u1] n sv nl lv uv ∧ GU w' e uv (l.take j) ∧
    ∃ r : List Rng, (∀ x ∈ r, e.s1 ≤ x.b) ∧ Fr (⟨e.ob, 0, 5⟩ :: r) w w') (fun a' _ => l.length - idxOf (get a' 33)) ?_ ?_)
  · exact ⟨0, _, Nat.zero_le _, k3, g31, g32, g33, hm, ⟨by simpa using TOwn.nil, by simp [blk]⟩, [], by simp, Fr.refl _ _⟩
  · rintro a4 w4 ⟨j, uv, hj, k4, ga, gl, gi, hm4, hl4, r, hr, f4⟩
    have hz4 := k4.size
    refine wp_seq_k fun K6 hK6 => ?_
    refine wp_reg ?_
    rw [wpl_cons]
    refine wp_lss (k1 := .i64) (i := j) (j := l.length) (by rw [eval_tmp, gi]) (by rw [eval_tmp, gl]) ?_
    rw [wpl_nil]
    generalize ha5 : a4.put (some 34) (.bool (decide ((j : Int) < l.length))) = a5
    have k5 : Kept 34 a4 a5 := by subst ha5; exact Kept.put0 (Nat.le_refl _) _
    have g34 : get a5 34 = .bool (decide ((j : Int) < l.length)) := by subst ha5; exact get_put_same (by omega)
    clear ha5
    have hz5 := k5.size
    refine hK6 a5 w4 ?_
    refine wp_seq_k fun K7 hK7 => ?_
    refine wp_cond_split (t := decide ((j : Int) < l.length)) (by rw [eval_tmp, g34]) ?_ ?_
    · intro hlt
      have hjl : j < l.length := by simpa using hlt
      refine wp_skip (hK7 a5 w4 ?_)
      refine wp_seq_k fun K8 hK8 => ?_
      refine wp_block (wp_mono (show Code.wp P _ (Exit.then K8 (Exit.inBlock 3 (Exit.then K8 _))) a5 w4 from ?_) (fun _ _ _ => inBlock_then))
      refine wp_seq_k fun K9 hK9 => ?_
      have ht4 := ht.kept f4 (GE.notA hm hr) (fun _ h => h)
      obtain ⟨bb, oo, cc, xv, hv, hres, htr⟩ := ht4.at hjl
      have hkk : (l[j]).1 < 4294967296 := ht4.key hjl
      refine r_boxed (m := 4) (z := zG) (et := T62) (bs := bs2) (b := bb) (o := oo) (len := l.length) (cap := cc) (j := j) (es := [.int .u32 (l[j]).1, xv]) hT62 hT25s (by rw [k5.get 31 (by omega), ga, hv]) (by rw [k5.get 33 (by omega), gi]) hjl hres rfl (by intro y hy; simp at hy; rcases hy with rfl | rfl <;> first | rfl | exact htr.one) ⟨rfl, by omega, by omega, by omega, by omega, by omega⟩ fun a6 w6 k6 hkeep g5 f6 hlt6 hxr => hK9 a6 w6 ?_
      have hz6 := k6.size
      have hm6 := hm4.kept f6 (by simp)
      have hlen : (l.take j).length = j := by simp; omega
      have hblt : ∀ b, blk uv = some b → b < w4.heap.size := fun b hb => by
        rcases hl4.1.blk_in hb with h | h
        · have := hm4.a0 b h; have := hm4.ob0; have := hm4.ob1; have := hm4.top; omega
        · exact h.2
      refine got_tag (xb := w4.heap.size) (xv := xv) (k := (l[j]).1) (x := (l[j]).2) hT hT61 hT62 hz61 hT22 hT59 hT33 hT33s hbs (by omega) (by rw [hkeep 3 (by omega) (by omega), k5.get 3 (by omega), k4.get 3 (by omega), g3]) g5 hm6 ⟨hl4.1.kept f6 (by simp) (GE.C_mono f6.size), hl4.2⟩ (by omega) hxr
        (htr.kept f6 (by simp) (fun _ h => h)) hkk ?_
      rintro a7 w7 uv' k7 ⟨r', hr', f7⟩ hm7 hl7
      refine hK8 a7 w7 ?_
      have hz7 := k7.size
      have g33' : get a7 33 = .int .i64 j := by rw [k7.get 33 (by omega), hkeep 33 (by omega) (by omega), k5.get 33 (by omega), gi]
      refine wp_reg ?_
      rw [wpl_cons]
      refine wp_add (k1 := .i64) (i := j) (j := 1) (by rw [eval_tmp, g33']) rfl ?_
      rw [wpl_cons, wp_move, eval_tmp, get_put_same (by omega), wpl_nil]
      have hwr : IntKind.i64.wrap ((j : Int) + 1) = ((j + 1 : Nat) : Int) := by
        simp [IntKind.wrap, IntKind.bits, IntKind.signed]; omega
      rw [hwr]
      refine ⟨⟨j + 1, uv', hjl, ?_, ?_, ?_, ?_, hm7, ?_, r ++ r', ?_, ?_⟩, ?_⟩
      · exact (((k4.trans (k5.mono (by omega))).trans k6).trans (k7.mono (by omega))).trans ((Kept.put0 (by omega) _).put (by omega) _)
      · rw [get_put_ne (by omega), get_put_ne (by omega), k7.get 31 (by omega), hkeep 31 (by omega) (by omega), k5.get 31 (by omega), ga]
      · rw [get_put_ne (by omega), get_put_ne (by omega), k7.get 32 (by omega), hkeep 32 (by omega) (by omega), k5.get 32 (by omega), gl]
      · rw [get_put_same (by simp only [size_put]; omega)]
      · rw [List.take_succ_eq_append_getElem hjl]; exact hl7
      · intro x hx
        rcases List.mem_append.1 hx with h | h
        · exact hr x h
        · exact hr' x h
      · have f46 : Fr (⟨e.ob, 0, 5⟩ :: (r ++ r')) w w6 := (f4.mono (l' := ⟨e.ob, 0, 5⟩ :: (r ++ r')) (fun x hx => by
          rcases List.mem_cons.1 hx with rfl | h
          · exact Rng.in_self (by simp)
          · exact Rng.in_self (List.mem_cons_of_mem _ (List.mem_append_left _ h)))).tr (Fr.nil f6)
        refine f46.trans f7 fun x hx => ?_
        rcases List.mem_cons.1 hx with rfl | h
        · exact Rng.in_self (by simp)
        · exact Rng.in_self (List.mem_cons_of_mem _ (List.mem_append_right _ h))
      · rw [get_put_same (by simp only [size_put]; omega), gi]; simp [idxOf]; omega
    · intro hge
      have hjl : j = l.length := by
        have : ¬ ((j : Int) < l.length) := by simpa using hge
        omega
      subst hjl
      rw [List.take_length] at hl4
      refine wp_exit ?_
      show K a5 w4
      exact hk a5 w4 uv (k4.trans (k5.mono (by omega))) ⟨r, hr, f4⟩ hm4 hl4

theorem got_m {P : Program} {fn : Func} {bs bs2 bs3 bs4 : TypeId}
    {T2 T3 T4 T22 T24 T25 T27 T32 T33 T35 T59 T61 T62 : TypeId}
    {f11 : FuncId}
    {a0 : Array TypeId}
    {i0 i1 i2 i3 i4 i5 i6 i7 i8 i9 i10 i11 i12 : Nat}
    {t0 t1 t2 t3 t4 t5 t6 t7 t8 t9 t10 t11 t12 t13 t14 t15 t16 t17 t18 t19 t20 t21 t22 t23 t24 t25 t26 t27 t28 t29 t30 t31 t32 t33 t34 t35 t36 t37 t38 t39 t40 t41 t42 t43 t44 t45 t46 t47 t48 t49 t50 t51 t52 t53 : TypeId} {p0 p1 p2 p3 p4 p5 p6 p7 p8 p9 p10 p11 p12 p13 p14 p15 p16 p17 p18 p19 p20 p21 p22 p23 p24 p25 p26 p27 p28 p29 p30 p31 p32 p33 p34 p35 p36 p37 p38 p39 p40 p41 p42 p43 p44 p45 p46 p47 p48 p49 p50 p51 p52 p53 : String} {e0 e1 e2 e3 e4 e5 e6 e7 e8 e9 e10 e11 e12 e13 e14 e15 e16 e17 e18 e19 e20 e21 e22 e23 e24 e25 e26 e27 e28 e29 e30 e31 e32 e33 e34 e35 e36 e37 e38 e39 e40 e41 e42 e43 e44 e45 e46 e47 e48 e49 e50 e51 e52 e53 : Array Edge}
    (hf : P.funcs[f11]? = some fn) (hname : (fn.name == "runtime.NumGoroutine") = false) (hres : fn.results = #[.cell 2 T35]) (hN : fn.ntmps = 49) (hbody : fn.body = some (.seq (Code.region i0 ⟨[⟨some 1, .box T27 (.tmp 0), t0, p0, e0, none⟩,
    ⟨some 2, .alloc T35, t1, p1, e1, none⟩]⟩ false)
  (.seq (Code.region i1 ⟨[⟨some 8, .fieldAddr T27 (.tmp 1) 0, t2, p2, e2, none⟩,
    ⟨some 9, .load T2 (.tmp 8), t3, p3, e3, none⟩,
    ⟨some 10, .fieldAddr T27 (.tmp 1) 1, t4, p4, e4, none⟩,
    ⟨some 11, .load T22 (.tmp 10), t5, p5, e5, none⟩,
    ⟨some 12, .fieldAddr T27 (.tmp 1) 2, t6, p6, e6, none⟩,
    ⟨some 13, .load T4 (.tmp 12), t7, p7, e7, none⟩,
    ⟨some 14, .build T35 #[(0, .tmp 9), (1, .tmp 11), (2, .tmp 13)], t8, p8, e8, none⟩,
    ⟨some 3, .alloc T35, t9, p9, e9, none⟩,
    ⟨none, .store T35 (.tmp 3) (.tmp 14), t10, p10, e10, none⟩]⟩ false)
  (.seq (.seq (Code.region i2 ⟨[⟨some 15, .fieldAddr T27 (.tmp 1) 3, t11, p11, e11, none⟩,
    ⟨some 16, .load T24 (.tmp 15), t12, p12, e12, none⟩,
    ⟨some 17, .call ⟨.builtin .len, #[(.tmp 16)], #[T24]⟩, t13, p13, e13, none⟩,
    ⟨some 18, .move (.const (.int .i64 0)), t14, p14, e14, none⟩]⟩ false)
  (.block 0 (.loop (.seq (Code.region i3 ⟨[⟨some 19, .binOp .lss T3 (.tmp 18) (.tmp 17) T3, t15, p15, e15, none⟩]⟩ false)
  (.seq (.cond (.tmp 19) .skip
  (.exit 0))
  (.seq (.block 1 (.seq (Code.region i4 ⟨[⟨some 20, .indexAddr T24 (.tmp 16) (.tmp 18), t16, p16, e16, none⟩,
    ⟨some 21, .load T27 (.tmp 20), t17, p17, e17, none⟩,
    ⟨some 5, .alloc T27, t18, p18, e18, none⟩,
    ⟨none, .store T27 (.tmp 5) (.tmp 21), t19, p19, e19, none⟩]⟩ false)
  (Code.region i5 ⟨[⟨some 22, .fieldAddr T35 (.tmp 3) 3, t20, p20, e20, none⟩,
    ⟨some 23, .load T32 (.tmp 22), t21, p21, e21, none⟩,
    ⟨some 24, .load T27 (.tmp 5), t22, p22, e22, none⟩,
    ⟨some 25, .call ⟨.value (.func f11), #[(.tmp 24)], a0⟩, t23, p23, e23, none⟩,
    ⟨some 26, .buildSlice T32 1 #[(0, .tmp 25)], t24, p24, e24, none⟩,
    ⟨some 27, .call ⟨.builtin .append, #[(.tmp 23), (.tmp 26)], #[T32, T32]⟩, t25, p25, e25, none⟩,
    ⟨some 28, .fieldAddr T35 (.tmp 3) 3, t26, p26, e26, none⟩,
    ⟨none, .store T32 (.tmp 28) (.tmp 27), t27, p27, e27, none⟩]⟩ true)))
  (Code.region i6 ⟨[⟨some 29, .binOp .add T3 (.tmp 18) (.const (.int .i64 1)) T3, t28, p28, e28, none⟩,
    ⟨some 18, .move (.tmp 29), t29, p29, e29, none⟩]⟩ false)))))))
  (.seq (.seq (Code.region i7 ⟨[⟨some 30, .fieldAddr T27 (.tmp 1) 4, t30, p30, e30, none⟩,
    ⟨some 31, .load T25 (.tmp 30), t31, p31, e31, none⟩,
    ⟨some 32, .call ⟨.builtin .len, #[(.tmp 31)], #[T25]⟩, t32, p32, e32, none⟩,
    ⟨some 33, .move (.const (.int .i64 0)), t33, p33, e33, none⟩]⟩ false)
  (.block 2 (.loop (.seq (Code.region i8 ⟨[⟨some 34, .binOp .lss T3 (.tmp 33) (.tmp 32) T3, t34, p34, e34, none⟩]⟩ false)
  (.seq (.cond (.tmp 34) .skip
  (.exit 2))
  (.seq (.block 3 (.seq (Code.region i9 ⟨[⟨some 35, .indexAddr T25 (.tmp 31) (.tmp 33), t35, p35, e35, none⟩,
    ⟨some 36, .load T62 (.tmp 35), t36, p36, e36, none⟩,
    ⟨some 7, .alloc T62, t37, p37, e37, none⟩,
    ⟨none, .store T62 (.tmp 7) (.tmp 36), t38, p38, e38, none⟩]⟩ false)
  (Code.region i10 ⟨[⟨some 37, .fieldAddr T35 (.tmp 3) 4, t39, p39, e39, none⟩,
    ⟨some 38, .load T33 (.tmp 37), t40, p40, e40, none⟩,
    ⟨some 39, .fieldAddr T62 (.tmp 7) 0, t41, p41, e41, none⟩,
    ⟨some 40, .load T59 (.tmp 39), t42, p42, e42, none⟩,
    ⟨some 41, .fieldAddr T62 (.tmp 7) 1, t43, p43, e43, none⟩,
    ⟨some 42, .load T22 (.tmp 41), t44, p44, e44, none⟩,
    ⟨some 43, .build T61 #[(0, .tmp 40), (1, .tmp 42)], t45, p45, e45, none⟩,
    ⟨some 44, .buildSlice T33 1 #[(0, .tmp 43)], t46, p46, e46, none⟩,
    ⟨some 45, .call ⟨.builtin .append, #[(.tmp 38), (.tmp 44)], #[T33, T33]⟩, t47, p47, e47, none⟩,
    ⟨some 46, .fieldAddr T35 (.tmp 3) 4, t48, p48, e48, none⟩,
    ⟨none, .store T33 (.tmp 46) (.tmp 45), t49, p49, e49, none⟩]⟩ false)))
  (Code.region i11 ⟨[⟨some 47, .binOp .add T3 (.tmp 33) (.const (.int .i64 1)) T3, t50, p50, e50, none⟩,
    ⟨some 33, .move (.tmp 47), t51, p51, e51, none⟩]⟩ false)))))))
  (.seq (Code.region i12 ⟨[⟨some 48, .load T35 (.tmp 3), t52, p52, e52, none⟩,
    ⟨none, .store T35 (.tmp 2) (.tmp 48), t53, p53, e53, none⟩]⟩ false)
  .ret))))))
    (hT : Flat P T35 zT) (hT27 : Flat P T27 zT) (hz0 : zeroIs P T35 zT) (hT61 : Flat P T61 zG) (hT62 : Flat P T62 zG) (hz61 : zeroIs P T61 zG) (hT2 : scal P T2 = true) (hT4 : scal P T4 = true) (hT22 : scal P T22 = true) (hT59 : scal P T59 = true) (hT24 : scal P T24 = true) (hT25 : scal P T25 = true) (hT32 : scal P T32 = true) (hT33 : scal P T33 = true)
    (hT24s : sliceOf P T24 T27 5 bs2 = true) (hT32s : sliceOf P T32 T35 5 bs = true) (hT25s : sliceOf P T25 T62 2 bs4 = true) (hT33s : sliceOf P T33 T61 2 bs3 = true) (hbs : bs ≤ 1024) (hbs3 : bs3 ≤ 1024) (hmx : P.follows .mixedOrders = true)
    (he : edgeOk 0 [e20, e21, e22, e23, e24, e25, e26, e27] [[], [0], [], [2], [3], [1, 4], [], [0, 1, 2, 3, 4, 5, 6]] = true) : ∀ t, GotCall P f11 t := by
  intro t
  induction t using T.ind with
  | h n s nl l u ih =>
  intro w A c hr hA
  obtain ⟨s1, l1, u1, rfl, hn, ho, ht, hv⟩ := repT_iff.1 hr
  have henter : Enters P f11 := enters_of hf hname hbody
  refine calls_of_wp hf hbody ?_
  generalize ha0 : ({ tmps := #[Value.agg [.int .i64 n, s1, .bool nl, l1, u1].toArray] ++ Array.replicate (fn.ntmps - #[Value.agg [.int .i64 n, s1, .bool nl, l1, u1].toArray].size) undef, defers := [] } : Act) = a0
  have hsz : a0.tmps.size = 49 := by subst ha0; simp [hN]
  have hd0 : a0.defers = [] := by subst ha0; rfl
  have g0 : get a0 0 = .agg [.int .i64 n, s1, .bool nl, l1, u1].toArray := by subst ha0; exact get_args rfl
  clear ha0
  refine then_id (wp_seq_k fun K1 hK1 => ?_)
  refine wp_reg ?_
  rw [wpl_cons]
  refine wp_box (by rw [eval_tmp, g0]) ?_
  rw [wpl_cons]
  refine wp_alloc hT.zero ?_
  rw [wpl_nil]
  have f1 := Fr.alloc [] w (.cells (Value.agg [.int .i64 n, s1, .bool nl, l1, u1].toArray).cells T27)
  have rg1 := range_new w [.int .i64 n, s1, .bool nl, l1, u1].toArray T27 (0, 0)
  have rg1 : (w.alloc (.cells (Value.agg [.int .i64 n, s1, .bool nl, l1, u1].toArray).cells T27)).rangeAt w.heap.size 0 [.int .i64 n, s1, .bool nl, l1, u1] := rg1
  have sz1 := size_alloc w (.cells (Value.agg [.int .i64 n, s1, .bool nl, l1, u1].toArray).cells T27)
  generalize w.alloc (.cells (Value.agg [.int .i64 n, s1, .bool nl, l1, u1].toArray).cells T27) = w1 at f1 rg1 sz1 ⊢
  have f2 := Fr.alloc [] w1 (.cells (Value.agg zT.toArray).cells T35)
  have th2 := there_new w1 zT.toArray T35
  have th2 : (w1.alloc (.cells (Value.agg zT.toArray).cells T35)).there w1.heap.size 0 5 := th2
  have sz2 := size_alloc w1 (.cells (Value.agg zT.toArray).cells T35)
  generalize w1.alloc (.cells (Value.agg zT.toArray).cells T35) = w2 at f2 th2 sz2 ⊢
  generalize ha1 : (a0.put (some 1) (.pointer (some ⟨w.heap.size, 0, none⟩))).put (some 2) (.pointer (some ⟨w1.heap.size, 0, none⟩)) = a1
  have k1 : Kept 1 a0 a1 := by subst ha1; exact (Kept.put0 (by omega) _).put (by omega) _
  have g1 : get a1 1 = .pointer (some ⟨w.heap.size, 0, none⟩) := by subst ha1; rw [get_put_ne (by omega), get_put_same (by omega)]
  have g2 : get a1 2 = .pointer (some ⟨w1.heap.size, 0, none⟩) := by subst ha1; rw [get_put_same (by simp only [size_put]; omega)]
  clear ha1
  have hz1 := k1.size
  have rg12 := f2.range rg1 .nil
  refine hK1 a1 w2 (then_up ?_)
  refine then_id (wp_seq_k fun K2 hK2 => ?_)
  refine wp_reg ?_
  rw [wpl_cons]
  refine wp_fieldAddr (hT27.field (k := 0) (by decide)) (by rw [eval_tmp, g1]) ?_
  rw [wpl_cons]
  refine wp_load hT2 (by rw [eval_tmp, get_put_same (by omega)]) (rg12 0 _ rfl) ?_
  rw [wpl_cons]
  refine wp_fieldAddr (hT27.field (k := 1) (by decide)) (b := w.heap.size) (i := 0) (by rw [eval_tmp, get_put_ne (by omega), get_put_ne (by omega), g1]) ?_
  rw [wpl_cons]
  refine wp_load hT22 (by rw [eval_tmp, get_put_same (by simp only [size_put]; omega)]) (rg12 1 _ rfl) ?_
  rw [wpl_cons]
  refine wp_fieldAddr (hT27.field (k := 2) (by decide)) (b := w.heap.size) (i := 0) (by rw [eval_tmp, get_put_ne (by omega), get_put_ne (by omega), get_put_ne (by omega), get_put_ne (by omega), g1]) ?_
  rw [wpl_cons]
  refine wp_load hT4 (by rw [eval_tmp, get_put_same (by simp only [size_put]; omega)]) (rg12 2 _ rfl) ?_
  rw [wpl_cons]
  refine wp_build3 hT (v1 := .int .i64 n) (v2 := s1) (v3 := .bool nl) (by decide) (by decide) (by decide) (by rw [eval_tmp, get_put_ne (by omega), get_put_ne (by omega), get_put_ne (by omega), get_put_ne (by omega), get_put_same (by simp only [size_put]; omega)]) rfl
    (by rw [eval_tmp, get_put_ne (by omega), get_put_ne (by omega), get_put_same (by simp only [size_put]; omega)]) ho.one (by rw [eval_tmp, get_put_same (by simp only [size_put]; omega)]) rfl ?_
  rw [wpl_cons]
  refine wp_alloc hT.zero ?_
  have f3 := Fr.alloc [] w2 (.cells (Value.agg zT.toArray).cells T35)
  have th3 := there_new w2 zT.toArray T35
  have th3 : (w2.alloc (.cells (Value.agg zT.toArray).cells T35)).there w2.heap.size 0 5 := th3
  have sz3 := size_alloc w2 (.cells (Value.agg zT.toArray).cells T35)
  generalize w2.alloc (.cells (Value.agg zT.toArray).cells T35) = w3 at f3 th3 sz3 ⊢
  rw [wpl_cons]
  refine wp_storeFlat hT (cs := [.int .i64 n, s1, .bool nl, .slice none 0 0, .slice none 0 0]) (b := w2.heap.size) (o := 0) rfl (by rw [eval_tmp, get_put_same (by simp only [size_put]; omega)]) (by rw [eval_tmp, get_put_ne (by omega), get_put_same (by simp only [size_put]; omega)]; rfl)
    (by intro y hy; simp at hy; rcases hy with rfl | rfl | rfl | rfl | rfl <;> first | rfl | exact ho.one) th3 ?_
  rw [wpl_nil, put_none]
  have f4 := Fr.sets w2.heap.size [.int .i64 n, s1, .bool nl, .slice none 0 0, .slice none 0 0] w3 0
  have rg4 := World.rangeAt_setCells_same (w := w3) w2.heap.size 0 [.int .i64 n, s1, .bool nl, .slice none 0 0, .slice none 0 0] th3
  generalize w3.setCells w2.heap.size 0 [.int .i64 n, s1, .bool nl, .slice none 0 0, .slice none 0 0] = w4 at f4 rg4 ⊢
  have k4 : ∀ v8 v9 v10 v11 v12 v13 v14 v3, Kept 3 a1 ((((((((a1.put (some 8) v8).put (some 9) v9).put (some 10) v10).put (some 11) v11).put (some 12) v12).put (some 13) v13).put (some 14) v14).put (some 3) v3) := fun _ _ _ _ _ _ _ _ =>
    (((((((Kept.put0 (by omega) _).put (by omega) _).put (by omega) _).put (by omega) _).put (by omega) _).put (by omega) _).put (by omega) _).put (by omega) _
  have f24 : Fr [] w2 w4 := f3.trans f4 (by intro r hr; simp at hr; subst hr; exact .inl (Nat.le_refl _))
  have f04 : Fr [] w w4 := (f1.tr f2).tr f24
  have sz4 := f4.size
  have hm4 : GM w4 ⟨w.heap.size, w1.heap.size, w2.heap.size, w.heap.size, w3.heap.size, A⟩ [.int .i64 n, s1, .bool nl, l1, u1] n s1 nl (.slice none 0 0) (.slice none 0 0) :=
    ⟨f24.range rg12 .nil, rg4, f4.there th3, f24.there th2, hA, by simp only; omega, by simp only; omega, by simp only; omega, by simp only; omega, by simp only; omega, by simp only; omega, by simp only; omega, by simp only; omega, by simp only; omega⟩
  refine hK2 _ w4 (then_up ?_)
  refine then_id (wp_seq_k fun K3 hK3 => ?_)
  refine got_loopL (e := ⟨w.heap.size, w1.heap.size, w2.heap.size, w.heap.size, w3.heap.size, A⟩) hT hT27 hz0 hT24 hT24s hT32 hT32s hbs hmx henter he (by rw [(k4 _ _ _ _ _ _ _ _).size, hz1, hsz]) (by rw [(k4 _ _ _ _ _ _ _ _).get 1 (by omega), g1]) (get_put_same (by simp only [size_put]; omega)) hm4 (ht.kept f04 (by simp) (fun _ h => h)) ih
    fun a5 w5 lv k5 ⟨r5, hr5, f5⟩ hm5 hl5 => hK3 a5 w5 (then_up ?_)
  have hz5 := k5.size
  have g15 := (k5.get 1 (by omega)).trans (((k4 _ _ _ _ _ _ _ _).get 1 (by omega)).trans g1)
  have g25 := (k5.get 2 (by omega)).trans (((k4 _ _ _ _ _ _ _ _).get 2 (by omega)).trans g2)
  have g35 := (k5.get 3 (by omega)).trans (get_put_same (by simp only [size_put]; omega))
  have hsz5 : a5.tmps.size = 49 := by rw [hz5, (k4 _ _ _ _ _ _ _ _).size, hz1, hsz]
  have hd5 : a5.defers = [] := by rw [k5.defers, (k4 _ _ _ _ _ _ _ _).defers, k1.defers, hd0]
  refine then_id (wp_seq_k fun K4 hK4 => ?_)
  have f05 : Fr [] w w5 := f04.trans f5 (by
    intro r hr
    rcases List.mem_cons.1 hr with rfl | h
    · left; simp only; omega
    · left; have := hr5 r h; simp only at this; omega)
  have hs5 := f5.size
  have hm5' : GM w5 ⟨w.heap.size, w1.heap.size, w2.heap.size, w.heap.size, w5.heap.size, A⟩ [.int .i64 n, s1, .bool nl, l1, u1] n s1 nl lv (.slice none 0 0) :=
    ⟨hm5.r1, hm5.ro, hm5.to, hm5.tr, hA, by simp only; omega, by simp only; omega, by simp only; omega, by simp only; omega, by simp only; omega, by simp only; omega, by simp only; omega, by simp only; omega, Nat.le_refl _⟩
  refine got_loopU (e := ⟨w.heap.size, w1.heap.size, w2.heap.size, w.heap.size, w5.heap.size, A⟩) hT hT27 hT61 hT62 hz61 hT22 hT25 hT25s hT59 hT33 hT33s hbs3 hsz5 g15 g35 hm5' ((hv.kept f04 (by simp) (fun _ h => h)).kept f5 (GE.notA hm4 hr5) (fun _ h => h))
    fun a6 w6 uv k6 ⟨r6, hr6, f6⟩ hm6 hu6 => hK4 a6 w6 (then_up ?_)
  have hz6 := k6.size
  have g26 := (k6.get 2 (by omega)).trans g25
  have g36 := (k6.get 3 (by omega)).trans g35
  refine then_id (wp_seq_k fun K5 hK5 => ?_)
  refine wp_reg ?_
  rw [wpl_cons]
  refine wp_loadFlat hT (cs := [.int .i64 n, s1, .bool nl, lv, uv]) rfl (by rw [eval_tmp, g36]) hm6.ro ?_
  rw [wpl_cons]
  have hones : ∀ y ∈ [(.int .i64 n : Value), s1, .bool nl, lv, uv], y.oneCell' = true := by
    intro y hy; simp at hy; rcases hy with rfl | rfl | rfl | rfl | rfl <;> first | rfl | exact ho.one | exact hl5.1.one | exact hu6.1.one
  refine wp_storeFlat hT (cs := [.int .i64 n, s1, .bool nl, lv, uv]) (b := w1.heap.size) (o := 0) rfl (by rw [eval_tmp, get_put_ne (by omega), g26]) (by rw [eval_tmp, get_put_same (by omega)]) hones hm6.tr ?_
  rw [wpl_nil, put_none]
  have f7 := Fr.sets w1.heap.size [.int .i64 n, s1, .bool nl, lv, uv] w6 0
  have rg7 := World.rangeAt_setCells_same (w := w6) w1.heap.size 0 [.int .i64 n, s1, .bool nl, lv, uv] hm6.tr
  generalize w6.setCells w1.heap.size 0 [.int .i64 n, s1, .bool nl, lv, uv] = w7 at f7 rg7 ⊢
  refine hK5 _ w7 (wp_ret ?_)
  refine ⟨by rw [defers_put, k6.defers, hd5], _, results_cell (cs := [.int .i64 n, s1, .bool nl, lv, uv]) hres hT rfl (by rw [get_put_ne (by omega), g26]) rg7, [.int .i64 n, s1, .bool nl, lv, uv], rfl, ?_, ?_⟩
  · refine (f05.trans f6 ?_).trans f7 ?_
    · intro r hr
      rcases List.mem_cons.1 hr with rfl | h
      · left; simp only; omega
      · left; have := hr6 r h; simp only at this; omega
    · intro r hr; simp at hr; subst hr; left; simp only; omega
  · have hs6 := f6.size
    have hs7 := f7.size
    have f06 : Fr [] w w6 := f05.trans f6 (by
      intro r hr
      rcases List.mem_cons.1 hr with rfl | h
      · left; simp only; omega
      · left; have := hr6 r h; simp only at this; omega)
    have n7 : ∀ (B : Nat → Prop), (∀ b, B b → b < w.heap.size ∨ w3.heap.size ≤ b) → ∀ r ∈ [(⟨w1.heap.size, 0, 0 + [(.int .i64 n : Value), s1, .bool nl, lv, uv].length⟩ : Rng)], ¬ B r.b := by
      intro B hB r hr hb; simp at hr; subst hr; have := hB _ hb; simp only at this; omega
    rw [repT_iff]
    refine ⟨s1, lv, uv, rfl, hn, ?_, ?_, ?_⟩
    · exact (ho.kept f06 (by simp) (fun _ h => h)).kept f7 (n7 A (fun b hb => .inl (hA b hb))) (fun b hb => .inl hb)
    · have h5 := LOwn.things ht.big hl5.1
      have h6 := h5.kept f6 (A' := fun b => A b ∨ From w3.heap.size w6 b) (by
        intro r hr hF
        rcases List.mem_cons.1 hr with rfl | h
        · rcases hF with hF | hF
          · have := hA _ hF; simp only at this; omega
          · have := hF.1; simp only at this; omega
        · have h8 := hr6 r h
          rcases hF with hF | hF
          · have := hA _ hF; simp only at this h8; omega
          · have := hF.2; simp only at this h8; omega) (fun b hb => hb.imp (fun h => h) (From.mono hs6 b))
      exact h6.kept f7 (n7 (fun b => A b ∨ From w3.heap.size w6 b) (fun b hb => hb.imp (hA b) (fun h => h.1))) (fun b hb => hb.imp (fun h => h) (fun h => ⟨by have := h.1; omega, by have := h.2; omega⟩))
    · have h6 := TOwn.tags hv.big hu6.1
      exact h6.kept f7 (n7 (GE.C ⟨w.heap.size, w1.heap.size, w2.heap.size, w.heap.size, w5.heap.size, A⟩ w6) (fun b hb => hb.imp (hA b) (fun h => by have := h.1; simp only at this; omega))) (fun b hb => hb.imp (fun h => h) (fun h => ⟨by have := h.1; simp only at this; omega, by have := h.2; omega⟩))

end Go.Kq
