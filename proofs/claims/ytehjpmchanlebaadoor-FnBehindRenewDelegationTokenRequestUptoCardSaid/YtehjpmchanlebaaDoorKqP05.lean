/- A part of the library: rules of reasoning about the program's operations and what its shared functions do. -/
import Derived.Test.YtehjpmchanlebaaDoorKqP04
set_option linter.unusedVariables false
set_option linter.unusedSimpArgs false
namespace Go.Kq
open Go Go.Proofs
theorem new_or' {s : Nat} {w1 w2 w3 : World} (h0 : s ≤ w1.heap.size) (h1 : w1.heap.size ≤ w2.heap.size) (h2 : w2.heap.size ≤ w3.heap.size) (b : Nat) (hb : From w1.heap.size w2 b ∨ (w2.heap.size ≤ b ∧ b < w3.heap.size)) : From s w3 b := by
  rcases hb with hb | hb
  · exact ⟨by have := hb.1; omega, by have := hb.2; omega⟩
  · exact ⟨by omega, hb.2⟩
theorem made16 : madeCells ([.int .u8 0] : List Value).toArray (16 * 1) = (octets (List.replicate 16 0)).toArray := by
  apply Array.ext'
  simp [madeCells, octets]
  rfl
/-- '[]byte{c}', as what is owned. -/
theorem wp_litO {P : Program} {a : Act} {w : World} {K : Act → World → Prop} {Q : Exit → Act → World → Prop} {d : Option Tmp} {t : TypeId} {p : String} {af : Array Edge} {g : Option (Nat × Bool)} {T e : TypeId} {x : Operand} {c : UInt8} (hT : sliceOf P T e 1 1 = true) (hx : a.eval x = .int .u8 (c.toNat : Int))
    (k : ∀ u w', Fr [] w w' → Own w' (From w.heap.size w') 1 u [c].length (octets [c]) → K (a.put d u) w') : OW P ⟨d, .buildSlice T 1 #[(0, x)], t, p, af, g⟩ a w K Q := by
  have hr := range_new w #[.int .u8 (c.toNat : Int)] e (0, 0)
  have ht := there_new w #[.int .u8 (c.toNat : Int)] e
  refine wp_sliceL (xs := [x]) (css := [[.int .u8 (c.toNat : Int)]]) hT rfl (by decide) (by decide) (by simp [hx, Value.cells]) (by simp) (k _ _ (Fr.alloc _ _ _) ?_)
  exact ⟨rfl, .inr ⟨w.heap.size, 0, 1, ⟨Nat.le_refl _, by rw [size_alloc]; omega⟩, rfl, Nat.le_refl _, by decide, hr, ht⟩⟩
/-- What is written of a part: by a function on trees. -/
structure PartM (P : Program) (f : FuncId) (fs : List Fd) (sub : Int → Bool → T → List UInt8) : Prop where
  enters : Enters P f
  call : ∀ (w : World) (A B : Nat → Prop) (v : Value) (ver : Int) (flex : Bool) (ct : List Value) (t : T), FdsR w A v fs → RepT w B ct t → (∀ b, A b → b < w.heap.size) → (∀ b, B b → b < w.heap.size) → (sub ver flex t).length ≤ 4294967296 →
    Calls P f #[v, .int .i64 ver, .bool flex, .agg ct.toArray] w (Fresh w (sub ver flex t))
structure ValueM (P : Program) (f : FuncId) (fs : List Fd) (sub : Int → Bool → T → List UInt8) : Prop where
  enters : Enters P f
  call : ∀ (w : World) (A B : Nat → Prop) (v : Value) (ver : Int) (flex null : Bool) (kind : Int) (ct : List Value) (t : T), FdsR w A v fs → RepT w B ct t → (∀ b, A b → b < w.heap.size) → (∀ b, B b → b < w.heap.size) → (valueW kind (sub ver flex) null flex t).length ≤ 4294967296 →
    Calls P f #[.int .i64 kind, v, .bool null, .int .i64 ver, .bool flex, .agg ct.toArray] w (Fresh w (valueW kind (sub ver flex) null flex t))
set_option maxHeartbeats 4000000 in
theorem value_m {P : Program} {f : FuncId} {fn : Func} {T2 T3 T5 T22 T26 : TypeId} {f26 f54 f74 f76 f77 : FuncId} {a0 : Array TypeId} {a1 : Array TypeId} {a2 : Array TypeId} {a3 : Array TypeId} {a4 : Array TypeId} {a5 : Array TypeId} {a6 : Array TypeId} {i0 i1 i2 i3 i4 i5 i6 i7 i8 i9 i10 i11 i12 i13 i14 i15 i16 i17 i18 i19 i20 : Nat} {t0 t1 t2 t3 t4 t5 t6 t7 t8 t9 t10 t11 t12 t13 t14 t15 t16 t17 t18 t19 t20 t21 t22 t23 t24 t25 t26 t27 t28 t29 t30 t31 t32 t33 t34 t35 t36 t37 t38 t39 t40 t41 t42 t43 t44 t45 t46 t47 t48 t49 t50 t51 t52 t53 t54 t55 t56 t57 t58 t59 t60 t61 t62 t63 t64 t65 t66 : TypeId} {p0 p1 p2 p3 p4 p5 p6 p7 p8 p9 p10 p11 p12 p13 p14 p15 p16 p17 p18 p19 p20 p21 p22 p23 p24 p25 p26 p27 p28 p29 p30 p31 p32 p33 p34 p35 p36 p37 p38 p39 p40 p41 p42 p43 p44 p45 p46 p47 p48 p49 p50 p51 p52 p53 p54 p55 p56 p57 p58 p59 p60 p61 p62 p63 p64 p65 p66 : String} {e0 e1 e2 e3 e4 e5 e6 e7 e8 e9 e10 e11 e12 e13 e14 e15 e16 e17 e18 e19 e20 e21 e22 e23 e24 e25 e26 e27 e28 e29 e30 e31 e32 e33 e34 e35 e36 e37 e38 e39 e40 e41 e42 e43 e44 e45 e46 e47 e48 e49 e50 e51 e52 e53 e54 e55 e56 e57 e58 e59 e60 e61 e62 e63 e64 e65 e66 : Array Edge} {te : TypeId} {fs : List Fd} {sub : Int → Bool → T → List UInt8}
    (hf : P.funcs[f]? = some fn) (hname : (fn.name == "runtime.NumGoroutine") = false) (hres : fn.results = #[.tmp 12]) (hN : fn.ntmps = 70)
    (hbody : fn.body = some (.seq (Code.region i0 ⟨[⟨some 11, .box T26 (.tmp 5), t0, p0, e0, none⟩,
    ⟨some 12, .assign (.const (.slice none 0 0)), t1, p1, e1, none⟩]⟩ false)
  (.seq (.seq (Code.region i1 ⟨[⟨some 16, .move (.tmp 0), t2, p2, e2, none⟩]⟩ false)
  (.block 0 (.seq (Code.region i2 ⟨[⟨some 18, .binOp .eql T3 (.tmp 16) (.const (.int .i64 0)) T3, t3, p3, e3, none⟩,
    ⟨some 17, .assign (.tmp 18), t4, p4, e4, none⟩]⟩ false)
  (.cond (.tmp 17) (.seq (Code.region i3 ⟨[⟨some 19, .fieldAddr T26 (.tmp 11) 0, t5, p5, e5, none⟩,
    ⟨some 20, .load T2 (.tmp 19), t6, p6, e6, none⟩,
    ⟨some 21, .binOp .and T2 (.tmp 20) (.const (.int .i64 1)) T2, t7, p7, e7, none⟩,
    ⟨some 22, .convert T2 T5 (.tmp 21), t8, p8, e8, none⟩,
    ⟨some 23, .buildSlice T22 1 #[(0, .tmp 22)], t9, p9, e9, none⟩,
    ⟨some 12, .assign (.tmp 23), t10, p10, e10, none⟩]⟩ false)
  .ret)
  (.seq (Code.region i4 ⟨[⟨some 25, .binOp .eql T3 (.tmp 16) (.const (.int .i64 7)) T3, t11, p11, e11, none⟩,
    ⟨some 24, .assign (.tmp 25), t12, p12, e12, none⟩]⟩ false)
  (.cond (.tmp 24) (.seq (Code.region i5 ⟨[⟨some 26, .makeSlice T22 (.const (.int .i64 16)) (.const (.int .i64 16)), t13, p13, e13, none⟩,
    ⟨some 13, .assign (.tmp 26), t14, p14, e14, none⟩]⟩ false)
  (.seq (Code.region i6 ⟨[⟨some 27, .move (.tmp 13), t15, p15, e15, none⟩,
    ⟨some 28, .fieldAddr T26 (.tmp 11) 1, t16, p16, e16, none⟩,
    ⟨some 29, .load T22 (.tmp 28), t17, p17, e17, none⟩,
    ⟨some 30, .call ⟨.builtin .copy, #[(.tmp 27), (.tmp 29)], #[T22, T22]⟩, t18, p18, e18, none⟩]⟩ false)
  (.seq (Code.region i7 ⟨[⟨some 31, .move (.tmp 13), t19, p19, e19, none⟩,
    ⟨some 12, .assign (.tmp 31), t20, p20, e20, none⟩]⟩ false)
  .ret)))
  (.seq (Code.region i8 ⟨[⟨some 33, .binOp .eql T3 (.tmp 16) (.const (.int .i64 8)) T3, t21, p21, e21, none⟩,
    ⟨some 32, .assign (.tmp 33), t22, p22, e22, none⟩]⟩ false)
  (.cond (.tmp 32) (.seq (Code.region i9 ⟨[⟨some 34, .fieldAddr T26 (.tmp 11) 1, t23, p23, e23, none⟩,
    ⟨some 35, .load T22 (.tmp 34), t24, p24, e24, none⟩,
    ⟨some 36, .call ⟨.value (.func f54), #[(.tmp 35)], a0⟩, t25, p25, e25, none⟩,
    ⟨some 14, .assign (.tmp 36), t26, p26, e26, none⟩]⟩ false)
  (.seq (.seq (Code.region i10 ⟨[⟨some 37, .move (.tmp 2), t27, p27, e27, none⟩]⟩ false)
  (.cond (.tmp 37) (Code.region i11 ⟨[⟨some 14, .assign (.const (.slice none 0 0)), t28, p28, e28, none⟩]⟩ false)
  .skip))
  (.seq (Code.region i12 ⟨[⟨some 38, .move (.tmp 4), t29, p29, e29, none⟩,
    ⟨some 39, .move (.tmp 2), t30, p30, e30, none⟩,
    ⟨some 40, .move (.tmp 14), t31, p31, e31, none⟩,
    ⟨some 41, .call ⟨.builtin .len, #[(.tmp 40)], #[T22]⟩, t32, p32, e32, none⟩,
    ⟨some 42, .call ⟨.value (.func f74), #[(.tmp 38), (.tmp 39), (.tmp 41), (.const (.int .i64 2))], a1⟩, t33, p33, e33, none⟩,
    ⟨some 43, .move (.tmp 14), t34, p34, e34, none⟩,
    ⟨some 44, .call ⟨.builtin .append, #[(.tmp 42), (.tmp 43)], #[T22, T22]⟩, t35, p35, e35, none⟩,
    ⟨some 12, .assign (.tmp 44), t36, p36, e36, none⟩]⟩ false)
  .ret)))
  (.seq (Code.region i13 ⟨[⟨some 46, .binOp .eql T3 (.tmp 16) (.const (.int .i64 9)) T3, t37, p37, e37, none⟩,
    ⟨some 45, .assign (.tmp 46), t38, p38, e38, none⟩]⟩ false)
  (.cond (.tmp 45) (.seq (Code.region i14 ⟨[⟨some 47, .fieldAddr T26 (.tmp 11) 1, t39, p39, e39, none⟩,
    ⟨some 48, .load T22 (.tmp 47), t40, p40, e40, none⟩,
    ⟨some 49, .call ⟨.value (.func f54), #[(.tmp 48)], a2⟩, t41, p41, e41, none⟩,
    ⟨some 15, .assign (.tmp 49), t42, p42, e42, none⟩]⟩ false)
  (.seq (.seq (Code.region i15 ⟨[⟨some 50, .move (.tmp 2), t43, p43, e43, none⟩]⟩ false)
  (.cond (.tmp 50) (Code.region i16 ⟨[⟨some 15, .assign (.const (.slice none 0 0)), t44, p44, e44, none⟩]⟩ false)
  .skip))
  (.seq (Code.region i17 ⟨[⟨some 51, .move (.tmp 4), t45, p45, e45, none⟩,
    ⟨some 52, .move (.tmp 2), t46, p46, e46, none⟩,
    ⟨some 53, .move (.tmp 15), t47, p47, e47, none⟩,
    ⟨some 54, .call ⟨.builtin .len, #[(.tmp 53)], #[T22]⟩, t48, p48, e48, none⟩,
    ⟨some 55, .call ⟨.value (.func f74), #[(.tmp 51), (.tmp 52), (.tmp 54), (.const (.int .i64 4))], a3⟩, t49, p49, e49, none⟩,
    ⟨some 56, .move (.tmp 15), t50, p50, e50, none⟩,
    ⟨some 57, .call ⟨.builtin .append, #[(.tmp 55), (.tmp 56)], #[T22, T22]⟩, t51, p51, e51, none⟩,
    ⟨some 12, .assign (.tmp 57), t52, p52, e52, none⟩]⟩ false)
  .ret)))
  (.seq (Code.region i18 ⟨[⟨some 59, .binOp .eql T3 (.tmp 16) (.const (.int .i64 10)) T3, t53, p53, e53, none⟩,
    ⟨some 58, .assign (.tmp 59), t54, p54, e54, none⟩]⟩ false)
  (.cond (.tmp 58) (.seq (Code.region i19 ⟨[⟨some 60, .move (.tmp 1), t55, p55, e55, none⟩,
    ⟨some 61, .move (.tmp 3), t56, p56, e56, none⟩,
    ⟨some 62, .move (.tmp 4), t57, p57, e57, none⟩,
    ⟨some 63, .load T26 (.tmp 11), t58, p58, e58, none⟩,
    ⟨some 64, .call ⟨.value (.func f26), #[(.tmp 60), (.tmp 61), (.tmp 62), (.tmp 63)], a4⟩, t59, p59, e59, none⟩,
    ⟨some 12, .assign (.tmp 64), t60, p60, e60, none⟩]⟩ false)
  .ret)
  .skip))))))))))))
  (.seq (Code.region i20 ⟨[⟨some 65, .fieldAddr T26 (.tmp 11) 0, t61, p61, e61, none⟩,
    ⟨some 66, .load T2 (.tmp 65), t62, p62, e62, none⟩,
    ⟨some 67, .move (.tmp 0), t63, p63, e63, none⟩,
    ⟨some 68, .call ⟨.value (.func f77), #[(.tmp 67)], a5⟩, t64, p64, e64, none⟩,
    ⟨some 69, .call ⟨.value (.func f76), #[(.tmp 66), (.tmp 68)], a6⟩, t65, p65, e65, none⟩,
    ⟨some 12, .assign (.tmp 69), t66, p66, e66, none⟩]⟩ true)
  .ret))))
    (hs_T22 : sliceOf P T22 te 1 1 = true) (hz_T22 : zeroIs P te [.int .u8 0]) (hFlT26 : Flat P T26 zT) (hcT2 : scal P T2 = true) (hT2_i64 : intOf P T2 .i64 = true) (hT5_u8 : intOf P T5 .u8 = true) (hcT22 : scal P T22 = true) (hsT22 : slTy P T22 = true) (he20 : edgeOk 0 [e61, e62, e63, e64, e65, e66] [[], [0], [], [2], [0, 1, 2, 3], [0, 1, 2, 3, 4]] = true) (hmx : P.follows .mixedOrders = true) (hWh : WholeM P f54) (hCo : CountM P f74) (hPa : PartM P f26 fs sub) (hWi : WidthM P f77) (hFx : FixM P f76) : ValueM P f fs sub := by
  refine ⟨enters_of hf hname hbody, ?_⟩
  intro w A B v ver flex null kind ct t hfs ht hA hB hlen
  cases t with
  | mk n s nl l u =>
  have ht0 := ht
  obtain ⟨sv, lv, uv, rfl, hn, hs, hl, hu⟩ := repT_iff.1 ht
  refine calls_of_wp hf hbody ?_
  generalize ha0 : ({ tmps := #[Value.int .i64 kind, v, Value.bool null, Value.int .i64 ver, Value.bool flex, Value.agg ([.int .i64 n, sv, .bool nl, lv, uv] : List Value).toArray] ++ Array.replicate (fn.ntmps - (#[Value.int .i64 kind, v, Value.bool null, Value.int .i64 ver, Value.bool flex, Value.agg ([.int .i64 n, sv, .bool nl, lv, uv] : List Value).toArray] : Array Value).size) undef, defers := [] } : Act) = a0
  have hz0 : a0.tmps.size = 70 := by subst ha0; simp [hN]
  have hd0 : a0.defers = [] := by subst ha0; rfl
  have g0_0 : get a0 0 = .int .i64 kind := by subst ha0; exact get_args rfl
  have g0_1 : get a0 1 = v := by subst ha0; exact get_args rfl
  have g0_2 : get a0 2 = .bool null := by subst ha0; exact get_args rfl
  have g0_3 : get a0 3 = .int .i64 ver := by subst ha0; exact get_args rfl
  have g0_4 : get a0 4 = .bool flex := by subst ha0; exact get_args rfl
  have g0_5 : get a0 5 = .agg ([.int .i64 n, sv, .bool nl, lv, uv] : List Value).toArray := by subst ha0; exact get_args rfl
  clear ha0
  refine then_id (wp_seq_k fun K1 hK1 => ?_)
  refine wp_reg ?_
  rw [wpl_cons]
  refine wp_boxL (cs := [.int .i64 n, sv, .bool nl, lv, uv]) (by rw [eval_tmp, g0_5]) ?_
  rintro w2 f2 sz2 r2 th2
  have hF3 : Fr [] w w2 := f2
  rw [wpl_cons]
  refine wp_as (v := .slice none 0 0) rfl ?_
  refine wpl_end fun a4 ha4 => ?_
  have hz4 : a4.tmps.size = 70 := by rw [ha4]; exact (zZ (zZ hz0))
  have hd4 : a4.defers = [] := by rw [ha4]; exact (dZ (dZ hd0))
  have g4_0 : get a4 0 = .int .i64 kind := by rw [ha4, nZ (by decide), nZ (by decide), g0_0]
  have g4_1 : get a4 1 = v := by rw [ha4, nZ (by decide), nZ (by decide), g0_1]
  have g4_2 : get a4 2 = .bool null := by rw [ha4, nZ (by decide), nZ (by decide), g0_2]
  have g4_3 : get a4 3 = .int .i64 ver := by rw [ha4, nZ (by decide), nZ (by decide), g0_3]
  have g4_4 : get a4 4 = .bool flex := by rw [ha4, nZ (by decide), nZ (by decide), g0_4]
  have g4_11 : get a4 11 = .pointer (some ⟨w.heap.size, 0, none⟩) := by rw [ha4, nZ (by decide), sZ hz0 (by decide)]
  clear ha4
  refine hK1 a4 w2 (then_up ?_)
  refine then_id (wp_seq_k fun K5 hK5 => ?_)
  refine wp_seq_k fun K6 hK6 => ?_
  refine wp_reg ?_
  rw [wpl_cons]
  refine wp_mv (v := .int .i64 kind) (by rw [eval_tmp, g4_0]) ?_
  refine wpl_end fun a7 ha7 => ?_
  have hz7 : a7.tmps.size = 70 := by rw [ha7]; exact (zZ hz4)
  have hd7 : a7.defers = [] := by rw [ha7]; exact (dZ hd4)
  have g7_0 : get a7 0 = .int .i64 kind := by rw [ha7, nZ (by decide), g4_0]
  have g7_1 : get a7 1 = v := by rw [ha7, nZ (by decide), g4_1]
  have g7_2 : get a7 2 = .bool null := by rw [ha7, nZ (by decide), g4_2]
  have g7_3 : get a7 3 = .int .i64 ver := by rw [ha7, nZ (by decide), g4_3]
  have g7_4 : get a7 4 = .bool flex := by rw [ha7, nZ (by decide), g4_4]
  have g7_11 : get a7 11 = .pointer (some ⟨w.heap.size, 0, none⟩) := by rw [ha7, nZ (by decide), g4_11]
  have g7_16 : get a7 16 = .int .i64 kind := by rw [ha7, sZ hz4 (by decide)]
  clear ha7
  refine hK6 a7 w2 ?_
  refine wp_blockT ?_
  refine wp_seq_k fun K8 hK8 => ?_
  refine wp_reg ?_
  rw [wpl_cons]
  refine wp_eql (k1 := .i64) (i := kind) (j := 0) (by rw [eval_tmp, g7_16]) rfl ?_
  rw [wpl_cons]
  refine wp_as (v := .bool ((kind : Int) == (0 : Int))) (by rw [eval_tmp, sZ hz7 (by decide)]) ?_
  refine wpl_end fun a9 ha9 => ?_
  have hz9 : a9.tmps.size = 70 := by rw [ha9]; exact (zZ (zZ hz7))
  have hd9 : a9.defers = [] := by rw [ha9]; exact (dZ (dZ hd7))
  have g9_0 : get a9 0 = .int .i64 kind := by rw [ha9, nZ (by decide), nZ (by decide), g7_0]
  have g9_1 : get a9 1 = v := by rw [ha9, nZ (by decide), nZ (by decide), g7_1]
  have g9_2 : get a9 2 = .bool null := by rw [ha9, nZ (by decide), nZ (by decide), g7_2]
  have g9_3 : get a9 3 = .int .i64 ver := by rw [ha9, nZ (by decide), nZ (by decide), g7_3]
  have g9_4 : get a9 4 = .bool flex := by rw [ha9, nZ (by decide), nZ (by decide), g7_4]
  have g9_11 : get a9 11 = .pointer (some ⟨w.heap.size, 0, none⟩) := by rw [ha9, nZ (by decide), nZ (by decide), g7_11]
  have g9_16 : get a9 16 = .int .i64 kind := by rw [ha9, nZ (by decide), nZ (by decide), g7_16]
  have g9_17 : get a9 17 = .bool ((kind : Int) == (0 : Int)) := by rw [ha9, sZ (zZ hz7) (by decide)]
  clear ha9
  refine hK8 a9 w2 ?_
  refine wp_cond_split (t := ((kind : Int) == (0 : Int))) (by rw [eval_tmp, g9_17]) (fun hc10 => ?_) (fun hc10 => ?_)
  · have hk0 : kind = 0 := by simpa using hc10
    refine wp_seq_k fun K11 hK11 => ?_
    have hW : valueW kind (sub ver flex) null flex (.mk n s nl l u) = [UInt8.ofNat (n % 2).toNat] := by simp [valueW, hk0, T.n]
    rw [hW] at hlen
    refine wp_reg ?_
    rw [wpl_cons]
    refine wp_fieldAddr (b := w.heap.size) (i := 0) (hFlT26.fld (by decide)) (by rw [eval_tmp, g9_11]) ?_
    rw [show (0 + 0 : Nat) = 0 from rfl]
    rw [wpl_cons]
    refine wp_load0 (j := 0) (v := .int .i64 n) hcT2 (by rw [eval_tmp, sZ hz9 (by decide)]) r2 rfl ?_
    rw [wpl_cons]
    refine wp_band (k1 := .i64) (i := n) (j := 1) (by rw [eval_tmp, sZ (zZ hz9) (by decide)]) rfl ?_
    rw [band1]
    rw [wpl_cons]
    refine wp_convert (k1 := .i64) (i := n % 2) hT2_i64 hT5_u8 (by rw [eval_tmp, sZ (zZ (zZ hz9)) (by decide)]) ?_
    rw [show (IntKind.u8.wrap (n % 2 : Int)) = (((UInt8.ofNat (n % 2).toNat).toNat : Int) : Int) from bool_octet n]
    rw [wpl_cons]
    refine wp_litO (c := UInt8.ofNat (n % 2).toNat) hs_T22 (by rw [eval_tmp, sZ (zZ (zZ (zZ hz9))) (by decide)]) ?_
    rintro x12 w12 fr12 ow12
    have hF13 : Fr [] w w12 := hF3.tr fr12
    have rb14 := fr12.range r2 .nil
    rw [wpl_cons]
    refine wp_as (v := x12) (by rw [eval_tmp, sZ (zZ (zZ (zZ (zZ hz9)))) (by decide)]) ?_
    refine wpl_end fun a15 ha15 => ?_
    have hz15 : a15.tmps.size = 70 := by rw [ha15]; exact (zZ (zZ (zZ (zZ (zZ (zZ hz9))))))
    have hd15 : a15.defers = [] := by rw [ha15]; exact (dZ (dZ (dZ (dZ (dZ (dZ hd9))))))
    have g15_12 : get a15 12 = x12 := by rw [ha15, sZ (zZ (zZ (zZ (zZ (zZ hz9))))) (by decide)]
    clear ha15
    refine hK11 a15 w12 ?_
    refine wp_ret ?_
    rw [hW]
    exact ⟨hd15, _, results_is hres g15_12, _, rfl, hF13, ow12.from hF3.size⟩
  · have hn0 : kind ≠ 0 := by simpa using hc10
    refine wp_seq_k fun K16 hK16 => ?_
    refine wp_reg ?_
    rw [wpl_cons]
    refine wp_eql (k1 := .i64) (i := kind) (j := 7) (by rw [eval_tmp, g9_16]) rfl ?_
    rw [wpl_cons]
    refine wp_as (v := .bool ((kind : Int) == (7 : Int))) (by rw [eval_tmp, sZ hz9 (by decide)]) ?_
    refine wpl_end fun a17 ha17 => ?_
    have hz17 : a17.tmps.size = 70 := by rw [ha17]; exact (zZ (zZ hz9))
    have hd17 : a17.defers = [] := by rw [ha17]; exact (dZ (dZ hd9))
    have g17_0 : get a17 0 = .int .i64 kind := by rw [ha17, nZ (by decide), nZ (by decide), g9_0]
    have g17_1 : get a17 1 = v := by rw [ha17, nZ (by decide), nZ (by decide), g9_1]
    have g17_2 : get a17 2 = .bool null := by rw [ha17, nZ (by decide), nZ (by decide), g9_2]
    have g17_3 : get a17 3 = .int .i64 ver := by rw [ha17, nZ (by decide), nZ (by decide), g9_3]
    have g17_4 : get a17 4 = .bool flex := by rw [ha17, nZ (by decide), nZ (by decide), g9_4]
    have g17_11 : get a17 11 = .pointer (some ⟨w.heap.size, 0, none⟩) := by rw [ha17, nZ (by decide), nZ (by decide), g9_11]
    have g17_16 : get a17 16 = .int .i64 kind := by rw [ha17, nZ (by decide), nZ (by decide), g9_16]
    have g17_24 : get a17 24 = .bool ((kind : Int) == (7 : Int)) := by rw [ha17, sZ (zZ hz9) (by decide)]
    clear ha17
    refine hK16 a17 w2 ?_
    refine wp_cond_split (t := ((kind : Int) == (7 : Int))) (by rw [eval_tmp, g17_24]) (fun hc18 => ?_) (fun hc18 => ?_)
    · have hk7 : kind = 7 := by simpa using hc18
      refine wp_seq_k fun K19 hK19 => ?_
      have hW : valueW kind (sub ver flex) null flex (.mk n s nl l u) = uuidW s := by simp [valueW, hk7, T.s]
      rw [hW] at hlen
      refine wp_reg ?_
      rw [wpl_cons]
      refine wp_make (n := 16) hs_T22 hz_T22 (by decide) (by decide) ?_
      have fr20 := Fr.alloc [] w2 (.cells (madeCells ([.int .u8 0] : List Value).toArray (16 * 1)) te)
      have rg20 : (w2.alloc (.cells (madeCells ([.int .u8 0] : List Value).toArray (16 * 1)) te)).rangeAt w2.heap.size 0 (octets (List.replicate 16 0)) := by rw [made16]; simpa using range_new w2 (octets (List.replicate 16 0)).toArray te (0, 0)
      have th20 : (w2.alloc (.cells (madeCells ([.int .u8 0] : List Value).toArray (16 * 1)) te)).there w2.heap.size 0 16 := by rw [made16]; simpa [length_octets] using there_new w2 (octets (List.replicate 16 0)).toArray te
      have sz20 := size_alloc w2 (.cells (madeCells ([.int .u8 0] : List Value).toArray (16 * 1)) te)
      generalize w2.alloc (.cells (madeCells ([.int .u8 0] : List Value).toArray (16 * 1)) te) = w20 at fr20 rg20 th20 sz20 ⊢
      have hF21 : Fr [] w w20 := hF3.tr fr20
      have rb22 := fr20.range r2 .nil
      rw [wpl_cons]
      refine wp_as (v := .slice (some ⟨w2.heap.size, 0, none⟩) 16 16) (by rw [eval_tmp, sZ hz17 (by decide)]) ?_
      refine wpl_end fun a23 ha23 => ?_
      have hz23 : a23.tmps.size = 70 := by rw [ha23]; exact (zZ (zZ hz17))
      have hd23 : a23.defers = [] := by rw [ha23]; exact (dZ (dZ hd17))
      have g23_11 : get a23 11 = .pointer (some ⟨w.heap.size, 0, none⟩) := by rw [ha23, nZ (by decide), nZ (by decide), g17_11]
      have g23_13 : get a23 13 = .slice (some ⟨w2.heap.size, 0, none⟩) 16 16 := by rw [ha23, sZ (zZ hz17) (by decide)]
      clear ha23
      refine hK19 a23 w20 ?_
      refine wp_seq_k fun K24 hK24 => ?_
      refine wp_reg ?_
      rw [wpl_cons]
      refine wp_mv (v := .slice (some ⟨w2.heap.size, 0, none⟩) 16 16) (by rw [eval_tmp, g23_13]) ?_
      rw [wpl_cons]
      refine wp_fieldAddr (b := w.heap.size) (i := 0) (hFlT26.fld (by decide)) (by rw [eval_tmp, nZ (by decide), g23_11]) ?_
      rw [show (0 + 1 : Nat) = 1 from rfl]
      rw [wpl_cons]
      refine wp_load0 (j := 1) (v := sv) hcT22 (by rw [eval_tmp, sZ (zZ hz23) (by decide)]) rb22 rfl ?_
      rw [wpl_cons]
      refine wp_copyU (xs := s) (b := w2.heap.size) hs_T22 (by rw [eval_tmp, nZ (by decide), nZ (by decide), sZ hz23 (by decide)]) (by rw [eval_tmp, sZ (zZ (zZ hz23)) (by decide)]) (hs.kept hF21 (by simp) (fun _ h => h)) rg20 th20 ?_
      rintro w25 u25 f25 r25
      have hF25 : Fr [] w w25 := hF21.trans f25 (fun r hr => .inl (by simp at hr; subst hr; exact hF3.size))
      refine wpl_end fun a26 ha26 => ?_
      have hz26 : a26.tmps.size = 70 := by rw [ha26]; exact (zZ (zZ (zZ (zZ hz23))))
      have hd26 : a26.defers = [] := by rw [ha26]; exact (dZ (dZ (dZ (dZ hd23))))
      have g26_13 : get a26 13 = .slice (some ⟨w2.heap.size, 0, none⟩) 16 16 := by rw [ha26]; (repeat rw [nZ (by decide)]); rw [g23_13]
      clear ha26
      refine hK24 a26 w25 ?_
      refine wp_seq_k fun K27 hK27 => ?_
      refine wp_reg ?_
      rw [wpl_cons]
      refine wp_mv (v := .slice (some ⟨w2.heap.size, 0, none⟩) 16 16) (by rw [eval_tmp, g26_13]) ?_
      rw [wpl_cons]
      refine wp_as (v := .slice (some ⟨w2.heap.size, 0, none⟩) 16 16) (by rw [eval_tmp, sZ hz26 (by decide)]) ?_
      refine wpl_end fun a28 ha28 => ?_
      have hz28 : a28.tmps.size = 70 := by rw [ha28]; exact (zZ (zZ hz26))
      have hd28 : a28.defers = [] := by rw [ha28]; exact (dZ (dZ hd26))
      have g28_12 : get a28 12 = .slice (some ⟨w2.heap.size, 0, none⟩) 16 16 := by rw [ha28, sZ (zZ hz26) (by decide)]
      clear ha28
      refine hK27 a28 w25 ?_
      refine wp_ret ?_
      rw [hW]
      refine ⟨hd28, _, results_is hres g28_12, _, rfl, hF25, by rw [length_octets, Nat.mul_one], .inr ⟨w2.heap.size, 0, 16, ⟨hF3.size, by have := f25.size; omega⟩, by rw [uuidW_length], by rw [uuidW_length]; exact Nat.le_refl _, by decide, r25, f25.there th20⟩⟩
    · have hn7 : kind ≠ 7 := by simpa using hc18
      refine wp_seq_k fun K29 hK29 => ?_
      refine wp_reg ?_
      rw [wpl_cons]
      refine wp_eql (k1 := .i64) (i := kind) (j := 8) (by rw [eval_tmp, g17_16]) rfl ?_
      rw [wpl_cons]
      refine wp_as (v := .bool ((kind : Int) == (8 : Int))) (by rw [eval_tmp, sZ hz17 (by decide)]) ?_
      refine wpl_end fun a30 ha30 => ?_
      have hz30 : a30.tmps.size = 70 := by rw [ha30]; exact (zZ (zZ hz17))
      have hd30 : a30.defers = [] := by rw [ha30]; exact (dZ (dZ hd17))
      have g30_0 : get a30 0 = .int .i64 kind := by rw [ha30, nZ (by decide), nZ (by decide), g17_0]
      have g30_1 : get a30 1 = v := by rw [ha30, nZ (by decide), nZ (by decide), g17_1]
      have g30_2 : get a30 2 = .bool null := by rw [ha30, nZ (by decide), nZ (by decide), g17_2]
      have g30_3 : get a30 3 = .int .i64 ver := by rw [ha30, nZ (by decide), nZ (by decide), g17_3]
      have g30_4 : get a30 4 = .bool flex := by rw [ha30, nZ (by decide), nZ (by decide), g17_4]
      have g30_11 : get a30 11 = .pointer (some ⟨w.heap.size, 0, none⟩) := by rw [ha30, nZ (by decide), nZ (by decide), g17_11]
      have g30_16 : get a30 16 = .int .i64 kind := by rw [ha30, nZ (by decide), nZ (by decide), g17_16]
      have g30_32 : get a30 32 = .bool ((kind : Int) == (8 : Int)) := by rw [ha30, sZ (zZ hz17) (by decide)]
      clear ha30
      refine hK29 a30 w2 ?_
      refine wp_cond_split (t := ((kind : Int) == (8 : Int))) (by rw [eval_tmp, g30_32]) (fun hc31 => ?_) (fun hc31 => ?_)
      · have hk8 : kind = 8 := by simpa using hc31
        refine wp_seq_k fun K32 hK32 => ?_
        refine wp_reg ?_
        rw [wpl_cons]
        refine wp_fieldAddr (b := w.heap.size) (i := 0) (hFlT26.fld (by decide)) (by rw [eval_tmp, g30_11]) ?_
        rw [show (0 + 1 : Nat) = 1 from rfl]
        rw [wpl_cons]
        refine wp_load0 (j := 1) (v := sv) hcT22 (by rw [eval_tmp, sZ hz30 (by decide)]) r2 rfl ?_
        rw [wpl_cons]
        refine wp_callR (R := fun x w' => OctE w' B x (wholeS s) ∧ w2 = w') (vs := #[sv]) hWh.enters (by simp only [List.map_toArray, List.map_cons, List.map_nil]; rw [show ((a30.put (some 34) (.pointer (some ⟨w.heap.size, 1, none⟩))).put (some 35) sv).eval (.tmp 35) = sv from (by rw [eval_tmp, sZ (zZ hz30) (by decide)])]) ((hWh.call w2 B sv s (hs.kept hF3 (by simp) (fun _ h => h))).mono (by rintro e w' ⟨x, rfl, h1, rfl⟩; exact ⟨x, rfl, h1, rfl⟩)) ?_
        rintro x33 _ ⟨hx33, rfl⟩
        obtain ⟨q33, c33, rfl, hcc33, -, -⟩ := hx33.slice2
        rw [wpl_cons]
        refine wp_as (v := .slice q33 ((wholeS s).length) c33) (by rw [eval_tmp, sZ (zZ (zZ hz30)) (by decide)]) ?_
        refine wpl_end fun a34 ha34 => ?_
        have hz34 : a34.tmps.size = 70 := by rw [ha34]; exact (zZ (zZ (zZ (zZ hz30))))
        have hd34 : a34.defers = [] := by rw [ha34]; exact (dZ (dZ (dZ (dZ hd30))))
        have g34_2 : get a34 2 = .bool null := by rw [ha34]; (repeat rw [nZ (by decide)]); rw [g30_2]
        have g34_4 : get a34 4 = .bool flex := by rw [ha34]; (repeat rw [nZ (by decide)]); rw [g30_4]
        have g34_14 : get a34 14 = .slice q33 ((wholeS s).length) c33 := by rw [ha34, sZ (zZ (zZ (zZ hz30))) (by decide)]
        clear ha34
        refine hK32 a34 w2 ?_
        refine wp_seq_k fun K35 hK35 => ?_
        refine wp_seq_k fun K36 hK36 => ?_
        refine wp_reg ?_
        rw [wpl_cons]
        refine wp_mv (v := .bool null) (by rw [eval_tmp, g34_2]) ?_
        refine wpl_end fun a37 ha37 => ?_
        have hz37 : a37.tmps.size = 70 := by rw [ha37]; exact (zZ hz34)
        have hd37 : a37.defers = [] := by rw [ha37]; exact (dZ hd34)
        have g37_2 : get a37 2 = .bool null := by rw [ha37, nZ (by decide), g34_2]
        have g37_4 : get a37 4 = .bool flex := by rw [ha37, nZ (by decide), g34_4]
        have g37_14 : get a37 14 = .slice q33 ((wholeS s).length) c33 := by rw [ha37, nZ (by decide), g34_14]
        have g37_37 : get a37 37 = .bool null := by rw [ha37, sZ hz34 (by decide)]
        clear ha37
        refine hK36 a37 w2 ?_
        refine wp_cond_split (t := null) (by rw [eval_tmp, g37_37]) (fun hc38 => ?_) (fun hc38 => ?_)
        · have hnu : null = true := hc38
          refine wp_reg ?_
          rw [wpl_cons]
          refine wp_as (v := .slice none 0 0) rfl ?_
          refine wpl_end fun a39 ha39 => ?_
          have hz39 : a39.tmps.size = 70 := by rw [ha39]; exact (zZ hz37)
          have hd39 : a39.defers = [] := by rw [ha39]; exact (dZ hd37)
          have g39_2 : get a39 2 = .bool null := by rw [ha39, nZ (by decide), g37_2]
          have g39_4 : get a39 4 = .bool flex := by rw [ha39, nZ (by decide), g37_4]
          have g39_14 : get a39 14 = .slice none 0 0 := by rw [ha39, sZ hz37 (by decide)]
          clear ha39
          refine hK35 a39 w2 ?_
          refine wp_seq_k fun K40 hK40 => ?_
          have hW : valueW kind (sub ver flex) null flex (.mk n s nl l u) = countedW flex null ([] : List UInt8).length 2 ++ [] := by simp only [valueW, hk8, hnu, T.s]; simp
          rw [hW] at hlen
          refine wp_reg ?_
          rw [wpl_cons]
          refine wp_mv (v := .bool flex) (by rw [eval_tmp, g39_4]) ?_
          rw [wpl_cons]
          refine wp_mv (v := .bool null) (by rw [eval_tmp, nZ (by decide), g39_2]) ?_
          rw [wpl_cons]
          refine wp_mv (v := .slice none 0 0) (by rw [eval_tmp, nZ (by decide), nZ (by decide), g39_14]) ?_
          rw [wpl_cons]
          refine wp_lenS (n := 0) hsT22 (by rw [eval_tmp, sZ (zZ (zZ hz39)) (by decide)]) ?_
          rw [wpl_cons]
          refine wp_callR (R := fun x w' => Fr [] w2 w' ∧ Own w' (From w2.heap.size w') 1 x (countedW flex null 0 2).length (octets (countedW flex null 0 2))) (vs := #[.bool flex, .bool null, .int .i64 ((0 : Nat) : Int), .int .i64 2]) hCo.enters (by simp only [List.map_toArray, List.map_cons, List.map_nil]; rw [show ((((a39.put (some 38) (.bool flex)).put (some 39) (.bool null)).put (some 40) (.slice none 0 0)).put (some 41) (.int .i64 ((0 : Nat) : Int))).eval (.tmp 38) = Value.bool flex from (by rw [eval_tmp, nZ (by decide), nZ (by decide), nZ (by decide), sZ hz39 (by decide)]), show ((((a39.put (some 38) (.bool flex)).put (some 39) (.bool null)).put (some 40) (.slice none 0 0)).put (some 41) (.int .i64 ((0 : Nat) : Int))).eval (.tmp 39) = Value.bool null from (by rw [eval_tmp, nZ (by decide), nZ (by decide), sZ (zZ hz39) (by decide)]), show ((((a39.put (some 38) (.bool flex)).put (some 39) (.bool null)).put (some 40) (.slice none 0 0)).put (some 41) (.int .i64 ((0 : Nat) : Int))).eval (.tmp 41) = Value.int .i64 ((0 : Nat) : Int) from (by rw [eval_tmp, sZ (zZ (zZ (zZ hz39))) (by decide)]), show ((((a39.put (some 38) (.bool flex)).put (some 39) (.bool null)).put (some 40) (.slice none 0 0)).put (some 41) (.int .i64 ((0 : Nat) : Int))).eval (.const (.int .i64 2)) = Value.int .i64 2 from rfl]) (calls_fresh (hCo.call w2 flex null 0 2 (by decide) (by decide))) ?_
          rintro x41 w41 ⟨fr41, ow41⟩
          have hF42 : Fr [] w w41 := hF3.tr fr41
          have rb43 := fr41.range r2 .nil
          rw [wpl_cons]
          refine wp_mv (v := .slice none 0 0) (by rw [eval_tmp, nZ (by decide), nZ (by decide), nZ (by decide), nZ (by decide), nZ (by decide), g39_14]) ?_
          rw [wpl_cons]
          refine wp_appO hs_T22 hz_T22 (by rw [eval_tmp, nZ (by decide), sZ (zZ (zZ (zZ (zZ hz39)))) (by decide)]) (by rw [eval_tmp, sZ (zZ (zZ (zZ (zZ (zZ hz39))))) (by decide)]) ow41 (OctE.nil (A := B)) (by rw [← List.length_append]; exact hlen) ?_
          rintro v44 w44 fa44 oa44 sp44 -
          rw [wpl_cons]
          refine wp_as (v := v44) (by rw [eval_tmp, sZ (zZ (zZ (zZ (zZ (zZ (zZ hz39)))))) (by decide)]) ?_
          refine wpl_end fun a45 ha45 => ?_
          have hz45 : a45.tmps.size = 70 := by rw [ha45]; exact (zZ (zZ (zZ (zZ (zZ (zZ (zZ (zZ hz39))))))))
          have hd45 : a45.defers = [] := by rw [ha45]; exact (dZ (dZ (dZ (dZ (dZ (dZ (dZ (dZ hd39))))))))
          have g45_12 : get a45 12 = v44 := by rw [ha45, sZ (zZ (zZ (zZ (zZ (zZ (zZ (zZ hz39))))))) (by decide)]
          clear ha45
          refine hK40 a45 w44 ?_
          refine wp_ret ?_
          rw [hW]
          exact ⟨hd45, _, results_is hres g45_12, _, rfl, fr_own hF42 fa44 (ow41.from hF3.size) (fun b hb => hb.1), oa44.imp_A (new_or' hF3.size fr41.size fa44.size)⟩
        · have hnu : null = false := hc38
          refine wp_skip ?_
          refine hK35 a37 w2 ?_
          refine wp_seq_k fun K46 hK46 => ?_
          have hW : valueW kind (sub ver flex) null flex (.mk n s nl l u) = countedW flex null (wholeS s : List UInt8).length 2 ++ wholeS s := by simp only [valueW, hk8, hnu, T.s]; simp
          rw [hW] at hlen
          refine wp_reg ?_
          rw [wpl_cons]
          refine wp_mv (v := .bool flex) (by rw [eval_tmp, g37_4]) ?_
          rw [wpl_cons]
          refine wp_mv (v := .bool null) (by rw [eval_tmp, nZ (by decide), g37_2]) ?_
          rw [wpl_cons]
          refine wp_mv (v := .slice q33 ((wholeS s).length) c33) (by rw [eval_tmp, nZ (by decide), nZ (by decide), g37_14]) ?_
          rw [wpl_cons]
          refine wp_lenS (n := (wholeS s).length) hsT22 (by rw [eval_tmp, sZ (zZ (zZ hz37)) (by decide)]) ?_
          rw [wpl_cons]
          refine wp_callR (R := fun x w' => Fr [] w2 w' ∧ Own w' (From w2.heap.size w') 1 x (countedW flex null (wholeS s).length 2).length (octets (countedW flex null (wholeS s).length 2))) (vs := #[.bool flex, .bool null, .int .i64 (((wholeS s).length : Nat) : Int), .int .i64 2]) hCo.enters (by simp only [List.map_toArray, List.map_cons, List.map_nil]; rw [show ((((a37.put (some 38) (.bool flex)).put (some 39) (.bool null)).put (some 40) (.slice q33 ((wholeS s).length) c33)).put (some 41) (.int .i64 (((wholeS s).length : Nat) : Int))).eval (.tmp 38) = Value.bool flex from (by rw [eval_tmp, nZ (by decide), nZ (by decide), nZ (by decide), sZ hz37 (by decide)]), show ((((a37.put (some 38) (.bool flex)).put (some 39) (.bool null)).put (some 40) (.slice q33 ((wholeS s).length) c33)).put (some 41) (.int .i64 (((wholeS s).length : Nat) : Int))).eval (.tmp 39) = Value.bool null from (by rw [eval_tmp, nZ (by decide), nZ (by decide), sZ (zZ hz37) (by decide)]), show ((((a37.put (some 38) (.bool flex)).put (some 39) (.bool null)).put (some 40) (.slice q33 ((wholeS s).length) c33)).put (some 41) (.int .i64 (((wholeS s).length : Nat) : Int))).eval (.tmp 41) = Value.int .i64 (((wholeS s).length : Nat) : Int) from (by rw [eval_tmp, sZ (zZ (zZ (zZ hz37))) (by decide)]), show ((((a37.put (some 38) (.bool flex)).put (some 39) (.bool null)).put (some 40) (.slice q33 ((wholeS s).length) c33)).put (some 41) (.int .i64 (((wholeS s).length : Nat) : Int))).eval (.const (.int .i64 2)) = Value.int .i64 2 from rfl]) (calls_fresh (hCo.call w2 flex null (wholeS s).length 2 (by simp [wholeS]; omega) (by decide))) ?_
          rintro x47 w47 ⟨fr47, ow47⟩
          have hF48 : Fr [] w w47 := hF3.tr fr47
          have rb49 := fr47.range r2 .nil
          rw [wpl_cons]
          refine wp_mv (v := .slice q33 ((wholeS s).length) c33) (by rw [eval_tmp, nZ (by decide), nZ (by decide), nZ (by decide), nZ (by decide), nZ (by decide), g37_14]) ?_
          rw [wpl_cons]
          refine wp_appO hs_T22 hz_T22 (by rw [eval_tmp, nZ (by decide), sZ (zZ (zZ (zZ (zZ hz37)))) (by decide)]) (by rw [eval_tmp, sZ (zZ (zZ (zZ (zZ (zZ hz37))))) (by decide)]) ow47 (hx33.kept fr47 (by simp) (fun _ h => h) : OctE _ B _ _) (by rw [← List.length_append]; exact hlen) ?_
          rintro v50 w50 fa50 oa50 sp50 -
          rw [wpl_cons]
          refine wp_as (v := v50) (by rw [eval_tmp, sZ (zZ (zZ (zZ (zZ (zZ (zZ hz37)))))) (by decide)]) ?_
          refine wpl_end fun a51 ha51 => ?_
          have hz51 : a51.tmps.size = 70 := by rw [ha51]; exact (zZ (zZ (zZ (zZ (zZ (zZ (zZ (zZ hz37))))))))
          have hd51 : a51.defers = [] := by rw [ha51]; exact (dZ (dZ (dZ (dZ (dZ (dZ (dZ (dZ hd37))))))))
          have g51_12 : get a51 12 = v50 := by rw [ha51, sZ (zZ (zZ (zZ (zZ (zZ (zZ (zZ hz37))))))) (by decide)]
          clear ha51
          refine hK46 a51 w50 ?_
          refine wp_ret ?_
          rw [hW]
          exact ⟨hd51, _, results_is hres g51_12, _, rfl, fr_own hF48 fa50 (ow47.from hF3.size) (fun b hb => hb.1), oa50.imp_A (new_or' hF3.size fr47.size fa50.size)⟩
      · have hn8 : kind ≠ 8 := by simpa using hc31
        refine wp_seq_k fun K52 hK52 => ?_
        refine wp_reg ?_
        rw [wpl_cons]
        refine wp_eql (k1 := .i64) (i := kind) (j := 9) (by rw [eval_tmp, g30_16]) rfl ?_
        rw [wpl_cons]
        refine wp_as (v := .bool ((kind : Int) == (9 : Int))) (by rw [eval_tmp, sZ hz30 (by decide)]) ?_
        refine wpl_end fun a53 ha53 => ?_
        have hz53 : a53.tmps.size = 70 := by rw [ha53]; exact (zZ (zZ hz30))
        have hd53 : a53.defers = [] := by rw [ha53]; exact (dZ (dZ hd30))
        have g53_0 : get a53 0 = .int .i64 kind := by rw [ha53, nZ (by decide), nZ (by decide), g30_0]
        have g53_1 : get a53 1 = v := by rw [ha53, nZ (by decide), nZ (by decide), g30_1]
        have g53_2 : get a53 2 = .bool null := by rw [ha53, nZ (by decide), nZ (by decide), g30_2]
        have g53_3 : get a53 3 = .int .i64 ver := by rw [ha53, nZ (by decide), nZ (by decide), g30_3]
        have g53_4 : get a53 4 = .bool flex := by rw [ha53, nZ (by decide), nZ (by decide), g30_4]
        have g53_11 : get a53 11 = .pointer (some ⟨w.heap.size, 0, none⟩) := by rw [ha53, nZ (by decide), nZ (by decide), g30_11]
        have g53_16 : get a53 16 = .int .i64 kind := by rw [ha53, nZ (by decide), nZ (by decide), g30_16]
        have g53_45 : get a53 45 = .bool ((kind : Int) == (9 : Int)) := by rw [ha53, sZ (zZ hz30) (by decide)]
        clear ha53
        refine hK52 a53 w2 ?_
        refine wp_cond_split (t := ((kind : Int) == (9 : Int))) (by rw [eval_tmp, g53_45]) (fun hc54 => ?_) (fun hc54 => ?_)
        · have hk9 : kind = 9 := by simpa using hc54
          refine wp_seq_k fun K55 hK55 => ?_
          refine wp_reg ?_
          rw [wpl_cons]
          refine wp_fieldAddr (b := w.heap.size) (i := 0) (hFlT26.fld (by decide)) (by rw [eval_tmp, g53_11]) ?_
          rw [show (0 + 1 : Nat) = 1 from rfl]
          rw [wpl_cons]
          refine wp_load0 (j := 1) (v := sv) hcT22 (by rw [eval_tmp, sZ hz53 (by decide)]) r2 rfl ?_
          rw [wpl_cons]
          refine wp_callR (R := fun x w' => OctE w' B x (wholeS s) ∧ w2 = w') (vs := #[sv]) hWh.enters (by simp only [List.map_toArray, List.map_cons, List.map_nil]; rw [show ((a53.put (some 47) (.pointer (some ⟨w.heap.size, 1, none⟩))).put (some 48) sv).eval (.tmp 48) = sv from (by rw [eval_tmp, sZ (zZ hz53) (by decide)])]) ((hWh.call w2 B sv s (hs.kept hF3 (by simp) (fun _ h => h))).mono (by rintro e w' ⟨x, rfl, h1, rfl⟩; exact ⟨x, rfl, h1, rfl⟩)) ?_
          rintro x56 _ ⟨hx56, rfl⟩
          obtain ⟨q56, c56, rfl, hcc56, -, -⟩ := hx56.slice2
          rw [wpl_cons]
          refine wp_as (v := .slice q56 ((wholeS s).length) c56) (by rw [eval_tmp, sZ (zZ (zZ hz53)) (by decide)]) ?_
          refine wpl_end fun a57 ha57 => ?_
          have hz57 : a57.tmps.size = 70 := by rw [ha57]; exact (zZ (zZ (zZ (zZ hz53))))
          have hd57 : a57.defers = [] := by rw [ha57]; exact (dZ (dZ (dZ (dZ hd53))))
          have g57_2 : get a57 2 = .bool null := by rw [ha57]; (repeat rw [nZ (by decide)]); rw [g53_2]
          have g57_4 : get a57 4 = .bool flex := by rw [ha57]; (repeat rw [nZ (by decide)]); rw [g53_4]
          have g57_15 : get a57 15 = .slice q56 ((wholeS s).length) c56 := by rw [ha57, sZ (zZ (zZ (zZ hz53))) (by decide)]
          clear ha57
          refine hK55 a57 w2 ?_
          refine wp_seq_k fun K58 hK58 => ?_
          refine wp_seq_k fun K59 hK59 => ?_
          refine wp_reg ?_
          rw [wpl_cons]
          refine wp_mv (v := .bool null) (by rw [eval_tmp, g57_2]) ?_
          refine wpl_end fun a60 ha60 => ?_
          have hz60 : a60.tmps.size = 70 := by rw [ha60]; exact (zZ hz57)
          have hd60 : a60.defers = [] := by rw [ha60]; exact (dZ hd57)
          have g60_2 : get a60 2 = .bool null := by rw [ha60, nZ (by decide), g57_2]
          have g60_4 : get a60 4 = .bool flex := by rw [ha60, nZ (by decide), g57_4]
          have g60_15 : get a60 15 = .slice q56 ((wholeS s).length) c56 := by rw [ha60, nZ (by decide), g57_15]
          have g60_50 : get a60 50 = .bool null := by rw [ha60, sZ hz57 (by decide)]
          clear ha60
          refine hK59 a60 w2 ?_
          refine wp_cond_split (t := null) (by rw [eval_tmp, g60_50]) (fun hc61 => ?_) (fun hc61 => ?_)
          · have hnu : null = true := hc61
            refine wp_reg ?_
            rw [wpl_cons]
            refine wp_as (v := .slice none 0 0) rfl ?_
            refine wpl_end fun a62 ha62 => ?_
            have hz62 : a62.tmps.size = 70 := by rw [ha62]; exact (zZ hz60)
            have hd62 : a62.defers = [] := by rw [ha62]; exact (dZ hd60)
            have g62_2 : get a62 2 = .bool null := by rw [ha62, nZ (by decide), g60_2]
            have g62_4 : get a62 4 = .bool flex := by rw [ha62, nZ (by decide), g60_4]
            have g62_15 : get a62 15 = .slice none 0 0 := by rw [ha62, sZ hz60 (by decide)]
            clear ha62
            refine hK58 a62 w2 ?_
            refine wp_seq_k fun K63 hK63 => ?_
            have hW : valueW kind (sub ver flex) null flex (.mk n s nl l u) = countedW flex null ([] : List UInt8).length 4 ++ [] := by simp only [valueW, hk9, hnu, T.s]; simp
            rw [hW] at hlen
            refine wp_reg ?_
            rw [wpl_cons]
            refine wp_mv (v := .bool flex) (by rw [eval_tmp, g62_4]) ?_
            rw [wpl_cons]
            refine wp_mv (v := .bool null) (by rw [eval_tmp, nZ (by decide), g62_2]) ?_
            rw [wpl_cons]
            refine wp_mv (v := .slice none 0 0) (by rw [eval_tmp, nZ (by decide), nZ (by decide), g62_15]) ?_
            rw [wpl_cons]
            refine wp_lenS (n := 0) hsT22 (by rw [eval_tmp, sZ (zZ (zZ hz62)) (by decide)]) ?_
            rw [wpl_cons]
            refine wp_callR (R := fun x w' => Fr [] w2 w' ∧ Own w' (From w2.heap.size w') 1 x (countedW flex null 0 4).length (octets (countedW flex null 0 4))) (vs := #[.bool flex, .bool null, .int .i64 ((0 : Nat) : Int), .int .i64 4]) hCo.enters (by simp only [List.map_toArray, List.map_cons, List.map_nil]; rw [show ((((a62.put (some 51) (.bool flex)).put (some 52) (.bool null)).put (some 53) (.slice none 0 0)).put (some 54) (.int .i64 ((0 : Nat) : Int))).eval (.tmp 51) = Value.bool flex from (by rw [eval_tmp, nZ (by decide), nZ (by decide), nZ (by decide), sZ hz62 (by decide)]), show ((((a62.put (some 51) (.bool flex)).put (some 52) (.bool null)).put (some 53) (.slice none 0 0)).put (some 54) (.int .i64 ((0 : Nat) : Int))).eval (.tmp 52) = Value.bool null from (by rw [eval_tmp, nZ (by decide), nZ (by decide), sZ (zZ hz62) (by decide)]), show ((((a62.put (some 51) (.bool flex)).put (some 52) (.bool null)).put (some 53) (.slice none 0 0)).put (some 54) (.int .i64 ((0 : Nat) : Int))).eval (.tmp 54) = Value.int .i64 ((0 : Nat) : Int) from (by rw [eval_tmp, sZ (zZ (zZ (zZ hz62))) (by decide)]), show ((((a62.put (some 51) (.bool flex)).put (some 52) (.bool null)).put (some 53) (.slice none 0 0)).put (some 54) (.int .i64 ((0 : Nat) : Int))).eval (.const (.int .i64 4)) = Value.int .i64 4 from rfl]) (calls_fresh (hCo.call w2 flex null 0 4 (by decide) (by decide))) ?_
            rintro x64 w64 ⟨fr64, ow64⟩
            have hF65 : Fr [] w w64 := hF3.tr fr64
            have rb66 := fr64.range r2 .nil
            rw [wpl_cons]
            refine wp_mv (v := .slice none 0 0) (by rw [eval_tmp, nZ (by decide), nZ (by decide), nZ (by decide), nZ (by decide), nZ (by decide), g62_15]) ?_
            rw [wpl_cons]
            refine wp_appO hs_T22 hz_T22 (by rw [eval_tmp, nZ (by decide), sZ (zZ (zZ (zZ (zZ hz62)))) (by decide)]) (by rw [eval_tmp, sZ (zZ (zZ (zZ (zZ (zZ hz62))))) (by decide)]) ow64 (OctE.nil (A := B)) (by rw [← List.length_append]; exact hlen) ?_
            rintro v67 w67 fa67 oa67 sp67 -
            rw [wpl_cons]
            refine wp_as (v := v67) (by rw [eval_tmp, sZ (zZ (zZ (zZ (zZ (zZ (zZ hz62)))))) (by decide)]) ?_
            refine wpl_end fun a68 ha68 => ?_
            have hz68 : a68.tmps.size = 70 := by rw [ha68]; exact (zZ (zZ (zZ (zZ (zZ (zZ (zZ (zZ hz62))))))))
            have hd68 : a68.defers = [] := by rw [ha68]; exact (dZ (dZ (dZ (dZ (dZ (dZ (dZ (dZ hd62))))))))
            have g68_12 : get a68 12 = v67 := by rw [ha68, sZ (zZ (zZ (zZ (zZ (zZ (zZ (zZ hz62))))))) (by decide)]
            clear ha68
            refine hK63 a68 w67 ?_
            refine wp_ret ?_
            rw [hW]
            exact ⟨hd68, _, results_is hres g68_12, _, rfl, fr_own hF65 fa67 (ow64.from hF3.size) (fun b hb => hb.1), oa67.imp_A (new_or' hF3.size fr64.size fa67.size)⟩
          · have hnu : null = false := hc61
            refine wp_skip ?_
            refine hK58 a60 w2 ?_
            refine wp_seq_k fun K69 hK69 => ?_
            have hW : valueW kind (sub ver flex) null flex (.mk n s nl l u) = countedW flex null (wholeS s : List UInt8).length 4 ++ wholeS s := by simp only [valueW, hk9, hnu, T.s]; simp
            rw [hW] at hlen
            refine wp_reg ?_
            rw [wpl_cons]
            refine wp_mv (v := .bool flex) (by rw [eval_tmp, g60_4]) ?_
            rw [wpl_cons]
            refine wp_mv (v := .bool null) (by rw [eval_tmp, nZ (by decide), g60_2]) ?_
            rw [wpl_cons]
            refine wp_mv (v := .slice q56 ((wholeS s).length) c56) (by rw [eval_tmp, nZ (by decide), nZ (by decide), g60_15]) ?_
            rw [wpl_cons]
            refine wp_lenS (n := (wholeS s).length) hsT22 (by rw [eval_tmp, sZ (zZ (zZ hz60)) (by decide)]) ?_
            rw [wpl_cons]
            refine wp_callR (R := fun x w' => Fr [] w2 w' ∧ Own w' (From w2.heap.size w') 1 x (countedW flex null (wholeS s).length 4).length (octets (countedW flex null (wholeS s).length 4))) (vs := #[.bool flex, .bool null, .int .i64 (((wholeS s).length : Nat) : Int), .int .i64 4]) hCo.enters (by simp only [List.map_toArray, List.map_cons, List.map_nil]; rw [show ((((a60.put (some 51) (.bool flex)).put (some 52) (.bool null)).put (some 53) (.slice q56 ((wholeS s).length) c56)).put (some 54) (.int .i64 (((wholeS s).length : Nat) : Int))).eval (.tmp 51) = Value.bool flex from (by rw [eval_tmp, nZ (by decide), nZ (by decide), nZ (by decide), sZ hz60 (by decide)]), show ((((a60.put (some 51) (.bool flex)).put (some 52) (.bool null)).put (some 53) (.slice q56 ((wholeS s).length) c56)).put (some 54) (.int .i64 (((wholeS s).length : Nat) : Int))).eval (.tmp 52) = Value.bool null from (by rw [eval_tmp, nZ (by decide), nZ (by decide), sZ (zZ hz60) (by decide)]), show ((((a60.put (some 51) (.bool flex)).put (some 52) (.bool null)).put (some 53) (.slice q56 ((wholeS s).length) c56)).put (some 54) (.int .i64 (((wholeS s).length : Nat) : Int))).eval (.tmp 54) = Value.int .i64 (((wholeS s).length : Nat) : Int) from (by rw [eval_tmp, sZ (zZ (zZ (zZ hz60))) (by decide)]), show ((((a60.put (some 51) (.bool flex)).put (some 52) (.bool null)).put (some 53) (.slice q56 ((wholeS s).length) c56)).put (some 54) (.int .i64 (((wholeS s).length : Nat) : Int))).eval (.const (.int .i64 4)) = Value.int .i64 4 from rfl]) (calls_fresh (hCo.call w2 flex null (wholeS s).length 4 (by simp [wholeS]; omega) (by decide))) ?_
            rintro x70 w70 ⟨fr70, ow70⟩
            have hF71 : Fr [] w w70 := hF3.tr fr70
            have rb72 := fr70.range r2 .nil
            rw [wpl_cons]
            refine wp_mv (v := .slice q56 ((wholeS s).length) c56) (by rw [eval_tmp, nZ (by decide), nZ (by decide), nZ (by decide), nZ (by decide), nZ (by decide), g60_15]) ?_
            rw [wpl_cons]
            refine wp_appO hs_T22 hz_T22 (by rw [eval_tmp, nZ (by decide), sZ (zZ (zZ (zZ (zZ hz60)))) (by decide)]) (by rw [eval_tmp, sZ (zZ (zZ (zZ (zZ (zZ hz60))))) (by decide)]) ow70 (hx56.kept fr70 (by simp) (fun _ h => h) : OctE _ B _ _) (by rw [← List.length_append]; exact hlen) ?_
            rintro v73 w73 fa73 oa73 sp73 -
            rw [wpl_cons]
            refine wp_as (v := v73) (by rw [eval_tmp, sZ (zZ (zZ (zZ (zZ (zZ (zZ hz60)))))) (by decide)]) ?_
            refine wpl_end fun a74 ha74 => ?_
            have hz74 : a74.tmps.size = 70 := by rw [ha74]; exact (zZ (zZ (zZ (zZ (zZ (zZ (zZ (zZ hz60))))))))
            have hd74 : a74.defers = [] := by rw [ha74]; exact (dZ (dZ (dZ (dZ (dZ (dZ (dZ (dZ hd60))))))))
            have g74_12 : get a74 12 = v73 := by rw [ha74, sZ (zZ (zZ (zZ (zZ (zZ (zZ (zZ hz60))))))) (by decide)]
            clear ha74
            refine hK69 a74 w73 ?_
            refine wp_ret ?_
            rw [hW]
            exact ⟨hd74, _, results_is hres g74_12, _, rfl, fr_own hF71 fa73 (ow70.from hF3.size) (fun b hb => hb.1), oa73.imp_A (new_or' hF3.size fr70.size fa73.size)⟩
        · have hn9 : kind ≠ 9 := by simpa using hc54
          refine wp_seq_k fun K75 hK75 => ?_
          refine wp_reg ?_
          rw [wpl_cons]
          refine wp_eql (k1 := .i64) (i := kind) (j := 10) (by rw [eval_tmp, g53_16]) rfl ?_
          rw [wpl_cons]
          refine wp_as (v := .bool ((kind : Int) == (10 : Int))) (by rw [eval_tmp, sZ hz53 (by decide)]) ?_
          refine wpl_end fun a76 ha76 => ?_
          have hz76 : a76.tmps.size = 70 := by rw [ha76]; exact (zZ (zZ hz53))
          have hd76 : a76.defers = [] := by rw [ha76]; exact (dZ (dZ hd53))
          have g76_0 : get a76 0 = .int .i64 kind := by rw [ha76, nZ (by decide), nZ (by decide), g53_0]
          have g76_1 : get a76 1 = v := by rw [ha76, nZ (by decide), nZ (by decide), g53_1]
          have g76_3 : get a76 3 = .int .i64 ver := by rw [ha76, nZ (by decide), nZ (by decide), g53_3]
          have g76_4 : get a76 4 = .bool flex := by rw [ha76, nZ (by decide), nZ (by decide), g53_4]
          have g76_11 : get a76 11 = .pointer (some ⟨w.heap.size, 0, none⟩) := by rw [ha76, nZ (by decide), nZ (by decide), g53_11]
          have g76_58 : get a76 58 = .bool ((kind : Int) == (10 : Int)) := by rw [ha76, sZ (zZ hz53) (by decide)]
          clear ha76
          refine hK75 a76 w2 ?_
          refine wp_cond_split (t := ((kind : Int) == (10 : Int))) (by rw [eval_tmp, g76_58]) (fun hc77 => ?_) (fun hc77 => ?_)
          · have hk10 : kind = 10 := by simpa using hc77
            refine wp_seq_k fun K78 hK78 => ?_
            have hW : valueW kind (sub ver flex) null flex (.mk n s nl l u) = sub ver flex (.mk n s nl l u) := by simp [valueW, hk10]
            rw [hW] at hlen
            refine wp_reg ?_
            rw [wpl_cons]
            refine wp_mv (v := v) (by rw [eval_tmp, g76_1]) ?_
            rw [wpl_cons]
            refine wp_mv (v := .int .i64 ver) (by rw [eval_tmp, nZ (by decide), g76_3]) ?_
            rw [wpl_cons]
            refine wp_mv (v := .bool flex) (by rw [eval_tmp, nZ (by decide), nZ (by decide), g76_4]) ?_
            rw [wpl_cons]
            refine wp_loadFlat (cs := [.int .i64 n, sv, .bool nl, lv, uv]) (b := w.heap.size) (o := 0) hFlT26 rfl (by rw [eval_tmp, nZ (by decide), nZ (by decide), nZ (by decide), g76_11]) r2 ?_
            rw [wpl_cons]
            refine wp_callR (R := fun x w' => Fr [] w2 w' ∧ Own w' (From w2.heap.size w') 1 x (sub ver flex (.mk n s nl l u)).length (octets (sub ver flex (.mk n s nl l u)))) (vs := #[v, .int .i64 ver, .bool flex, .agg ([.int .i64 n, sv, .bool nl, lv, uv] : List Value).toArray]) hPa.enters (by simp only [List.map_toArray, List.map_cons, List.map_nil]; rw [show ((((a76.put (some 60) v).put (some 61) (.int .i64 ver)).put (some 62) (.bool flex)).put (some 63) (.agg ([.int .i64 n, sv, .bool nl, lv, uv] : List Value).toArray)).eval (.tmp 60) = v from (by rw [eval_tmp, nZ (by decide), nZ (by decide), nZ (by decide), sZ hz76 (by decide)]), show ((((a76.put (some 60) v).put (some 61) (.int .i64 ver)).put (some 62) (.bool flex)).put (some 63) (.agg ([.int .i64 n, sv, .bool nl, lv, uv] : List Value).toArray)).eval (.tmp 61) = Value.int .i64 ver from (by rw [eval_tmp, nZ (by decide), nZ (by decide), sZ (zZ hz76) (by decide)]), show ((((a76.put (some 60) v).put (some 61) (.int .i64 ver)).put (some 62) (.bool flex)).put (some 63) (.agg ([.int .i64 n, sv, .bool nl, lv, uv] : List Value).toArray)).eval (.tmp 62) = Value.bool flex from (by rw [eval_tmp, nZ (by decide), sZ (zZ (zZ hz76)) (by decide)]), show ((((a76.put (some 60) v).put (some 61) (.int .i64 ver)).put (some 62) (.bool flex)).put (some 63) (.agg ([.int .i64 n, sv, .bool nl, lv, uv] : List Value).toArray)).eval (.tmp 63) = Value.agg ([.int .i64 n, sv, .bool nl, lv, uv] : List Value).toArray from (by rw [eval_tmp, sZ (zZ (zZ (zZ hz76))) (by decide)])]) (calls_fresh (hPa.call w2 A B v ver flex _ _ (hfs.kept hF3 (by simp) (fun _ h => h)) (ht0.kept hF3 (by simp) (fun _ h => h)) (fun b hb => Nat.lt_of_lt_of_le (hA b hb) hF3.size) (fun b hb => Nat.lt_of_lt_of_le (hB b hb) hF3.size) hlen)) ?_
            rintro x79 w79 ⟨fr79, ow79⟩
            have hF80 : Fr [] w w79 := hF3.tr fr79
            have rb81 := fr79.range r2 .nil
            rw [wpl_cons]
            refine wp_as (v := x79) (by rw [eval_tmp, sZ (zZ (zZ (zZ (zZ hz76)))) (by decide)]) ?_
            refine wpl_end fun a82 ha82 => ?_
            have hz82 : a82.tmps.size = 70 := by rw [ha82]; exact (zZ (zZ (zZ (zZ (zZ (zZ hz76))))))
            have hd82 : a82.defers = [] := by rw [ha82]; exact (dZ (dZ (dZ (dZ (dZ (dZ hd76))))))
            have g82_12 : get a82 12 = x79 := by rw [ha82, sZ (zZ (zZ (zZ (zZ (zZ hz76))))) (by decide)]
            clear ha82
            refine hK78 a82 w79 ?_
            refine wp_ret ?_
            rw [hW]
            exact ⟨hd82, _, results_is hres g82_12, _, rfl, hF80, ow79.from hF3.size⟩
          · have hn10 : kind ≠ 10 := by simpa using hc77
            refine wp_skip ?_
            refine hK5 a76 w2 (then_up ?_)
            refine then_id (wp_seq_k fun K83 hK83 => ?_)
            have hW : valueW kind (sub ver flex) null flex (.mk n s nl l u) = fixedW n (widthW kind) := by simp [valueW, hn0, hn7, hn8, hn9, hn10, T.n]
            rw [hW] at hlen
            have hwk : widthW kind ≤ 8 := by unfold widthW; split; omega; split; omega; split <;> omega
            refine wp_drawR (os := [⟨some 65, .fieldAddr T26 (.tmp 11) 0, t61, p61, e61, none⟩, ⟨some 66, .load T2 (.tmp 65), t62, p62, e62, none⟩, ⟨some 67, .move (.tmp 0), t63, p63, e63, none⟩, ⟨some 68, .call ⟨.value (.func f77), #[(.tmp 67)], a5⟩, t64, p64, e64, none⟩]) (rest := [⟨some 69, .call ⟨.value (.func f76), #[(.tmp 66), (.tmp 68)], a6⟩, t65, p65, e65, none⟩, ⟨some 12, .assign (.tmp 69), t66, p66, e66, none⟩]) [spC [] (.pointer (some ⟨w.heap.size, 0, none⟩)), spC [0] (.int .i64 n), spC [] (.int .i64 kind), spC [2] (.int .i64 ((widthW kind : Nat) : Int))] 65 [] hmx he20 (by simp [shape]) (by simp [plainO]) (by simp [spC, spR]) (by simp; omega) ⟨lasts_c _ _ _, lasts_c _ _ _, lasts_c _ _ _, lasts_c _ _ _, trivial⟩ ?_ ?_
            · refine opsOk_cons ?_ ?_
              · refine op_c fun a' w' hk' hf' hd' K' hK' => ?_
                refine wp_fieldAddr (b := w.heap.size) (i := 0) (hFlT26.fld (by decide)) (by rw [eval_tmp, hk'.get 11 (by omega), g76_11]) ?_
                rw [show (0 + 0 : Nat) = 0 from rfl]
                exact hK'
              refine opsOk_cons ?_ ?_
              · refine op_c fun a' w' hk' hf' hd' K' hK' => ?_
                refine wp_load0 (j := 0) (v := .int .i64 n) hcT2 (by rw [eval_tmp]; exact hd'.c (nd' := []) 0 (by simp) rfl) (hf'.range r2 .nil) rfl ?_
                exact hK'
              refine opsOk_cons ?_ ?_
              · refine op_c fun a' w' hk' hf' hd' K' hK' => ?_
                refine wp_mv (v := .int .i64 kind) (by rw [eval_tmp, hk'.get 0 (by omega), g76_0]) ?_
                exact hK'
              refine opsOk_cons ?_ ?_
              · refine op_c fun a' w' hk' hf' hd' K' hK' => ?_
                refine wp_callR (R := fun x w2 => x = .int .i64 (widthW kind : Nat) ∧ w2 = w') (vs := #[.int .i64 kind]) hWi.enters (by simp only [List.map_toArray, List.map_cons, List.map_nil]; rw [show a'.eval (.tmp 67) = Value.int .i64 kind from (by rw [eval_tmp]; exact hd'.c (nd' := []) 2 (by simp) rfl)]) ((hWi.call w' kind).mono (by rintro e w2 ⟨rfl, rfl⟩; exact ⟨_, rfl, rfl, rfl⟩)) ?_
                rintro _ _ ⟨rfl, rfl⟩
                exact hK'
              exact opsOk_nil
            intro a84 w84 k84 f84 hd_84
            have hz84 : a84.tmps.size = 70 := k84.size.trans hz76
            have hd84 : a84.defers = [] := k84.defers.trans hd76
            have g84_66 : get a84 66 = .int .i64 n := hd_84.c (nd' := [0]) 1 (by simp) rfl
            have g84_68 : get a84 68 = .int .i64 ((widthW kind : Nat) : Int) := hd_84.c (nd' := [2]) 3 (by simp) rfl
            have hF85 : Fr [] w w84 := hF3.tr f84
            have rb86 := f84.range r2 .nil
            rw [wpl_cons]
            refine wp_callR (R := fun x w' => Fr [] w84 w' ∧ Own w' (From w84.heap.size w') 1 x (fixedW n (widthW kind)).length (octets (fixedW n (widthW kind)))) (vs := #[.int .i64 n, .int .i64 ((widthW kind : Nat) : Int)]) hFx.enters (by simp only [List.map_toArray, List.map_cons, List.map_nil]; rw [show a84.eval (.tmp 66) = Value.int .i64 n from (by rw [eval_tmp, g84_66]), show a84.eval (.tmp 68) = Value.int .i64 ((widthW kind : Nat) : Int) from (by rw [eval_tmp, g84_68])]) (calls_fresh (hFx.call w84 n (widthW kind) hwk)) ?_
            rintro x87 w87 ⟨fr87, ow87⟩
            have hF88 : Fr [] w w87 := hF85.tr fr87
            have rb89 := fr87.range rb86 .nil
            rw [wpl_cons]
            refine wp_as (v := x87) (by rw [eval_tmp, sZ hz84 (by decide)]) ?_
            refine wpl_end fun a90 ha90 => ?_
            have hz90 : a90.tmps.size = 70 := by rw [ha90]; exact (zZ (zZ hz84))
            have hd90 : a90.defers = [] := by rw [ha90]; exact (dZ (dZ hd84))
            have g90_12 : get a90 12 = x87 := by rw [ha90, sZ (zZ hz84) (by decide)]
            clear ha90
            refine hK83 a90 w87 (then_up ?_)
            refine wp_ret ?_
            rw [hW]
            exact ⟨hd90, _, results_is hres g90_12, _, rfl, hF88, ow87.from hF85.size⟩
end Go.Kq

namespace Go.Kq
open Go Go.Proofs
theorem take_flatMap {f : T → List UInt8} : ∀ {l : List T} {j : Nat} {t : T}, l[j]? = some t → (l.take (j + 1)).flatMap f = (l.take j).flatMap f ++ f t
  | [], _, _, h => by simp at h
  | x :: l, 0, t, h => by simp at h; subst h; simp
  | x :: l, j + 1, t, h => by
    have := take_flatMap (f := f) (l := l) (j := j) (t := t) (by simpa using h)
    simp only [List.take_succ_cons, List.flatMap_cons, this, List.append_assoc]
theorem take_flatMap_le {f : T → List UInt8} : ∀ {l : List T} (j : Nat), ((l.take j).flatMap f).length ≤ (l.flatMap f).length
  | [], _ => by simp
  | x :: l, 0 => by simp
  | x :: l, j + 1 => by
    have := take_flatMap_le (f := f) (l := l) j
    simp only [List.take_succ_cons, List.flatMap_cons, List.length_append]; omega
theorem flatMap_part {f : T → List UInt8} {l : List T} {j : Nat} {t : T} (h : l[j]? = some t) : (f t).length ≤ (l.flatMap f).length := by
  have h1 := take_flatMap (f := f) h
  have h2 := take_flatMap_le (f := f) (l := l) (j + 1)
  rw [h1, List.length_append] at h2; omega
/-- What is written of a field. -/
structure FieldM (P : Program) (f : FuncId) (fd : Fd) (enc : Int → Bool → T → List UInt8) : Prop where
  enters : Enters P f
  call : ∀ (w : World) (A B : Nat → Prop) (ver : Int) (flex : Bool) (cs ct : List Value) (t : T), RepF w A cs fd → RepT w B ct t → (∀ b, A b → b < w.heap.size) → (∀ b, B b → b < w.heap.size) → (enc ver flex t).length ≤ 4294967296 →
    Calls P f #[.agg cs.toArray, .int .i64 ver, .bool flex, .agg ct.toArray] w (Fresh w (enc ver flex t))
set_option maxHeartbeats 4000000 in
theorem field_m {P : Program} {f : FuncId} {fn : Func} {T3 T22 T23 T26 T29 T45 : TypeId} {f26 f72 f73 f74 f75 f76 : FuncId} {a0 : Array TypeId} {a1 : Array TypeId} {a2 : Array TypeId} {a3 : Array TypeId} {a4 : Array TypeId} {a5 : Array TypeId} {a6 : Array TypeId} {a7 : Array TypeId} {i0 i1 i2 i3 i4 i5 i6 i7 i8 i9 i10 i11 i12 i13 i14 i15 i16 i17 : Nat} {t0 t1 t2 t3 t4 t5 t6 t7 t8 t9 t10 t11 t12 t13 t14 t15 t16 t17 t18 t19 t20 t21 t22 t23 t24 t25 t26 t27 t28 t29 t30 t31 t32 t33 t34 t35 t36 t37 t38 t39 t40 t41 t42 t43 t44 t45 t46 t47 t48 t49 t50 t51 t52 t53 t54 t55 t56 t57 t58 t59 t60 t61 t62 t63 t64 t65 t66 t67 t68 t69 t70 t71 t72 t73 t74 t75 t76 : TypeId} {p0 p1 p2 p3 p4 p5 p6 p7 p8 p9 p10 p11 p12 p13 p14 p15 p16 p17 p18 p19 p20 p21 p22 p23 p24 p25 p26 p27 p28 p29 p30 p31 p32 p33 p34 p35 p36 p37 p38 p39 p40 p41 p42 p43 p44 p45 p46 p47 p48 p49 p50 p51 p52 p53 p54 p55 p56 p57 p58 p59 p60 p61 p62 p63 p64 p65 p66 p67 p68 p69 p70 p71 p72 p73 p74 p75 p76 : String} {e0 e1 e2 e3 e4 e5 e6 e7 e8 e9 e10 e11 e12 e13 e14 e15 e16 e17 e18 e19 e20 e21 e22 e23 e24 e25 e26 e27 e28 e29 e30 e31 e32 e33 e34 e35 e36 e37 e38 e39 e40 e41 e42 e43 e44 e45 e46 e47 e48 e49 e50 e51 e52 e53 e54 e55 e56 e57 e58 e59 e60 e61 e62 e63 e64 e65 e66 e67 e68 e69 e70 e71 e72 e73 e74 e75 e76 : Array Edge} {te te5 : TypeId} {tb : Nat} {fd : Fd} {sub : Int → Bool → T → List UInt8}
    (hf : P.funcs[f]? = some fn) (hname : (fn.name == "runtime.NumGoroutine") = false) (hres : fn.results = #[.tmp 8]) (hN : fn.ntmps = 76)
    (hbody : fn.body = some (.seq (Code.region i0 ⟨[⟨some 4, .box T45 (.tmp 0), t0, p0, e0, none⟩,
    ⟨some 7, .box T26 (.tmp 3), t1, p1, e1, none⟩,
    ⟨some 8, .assign (.const (.slice none 0 0)), t2, p2, e2, none⟩]⟩ false)
  (.seq (Code.region i1 ⟨[⟨some 13, .load T45 (.tmp 4), t3, p3, e3, none⟩,
    ⟨some 14, .move (.tmp 1), t4, p4, e4, none⟩,
    ⟨some 15, .load T26 (.tmp 7), t5, p5, e5, none⟩,
    ⟨some 16, .call ⟨.value (.func f72), #[(.tmp 13), (.tmp 14), (.tmp 15)], a0⟩, t6, p6, e6, none⟩,
    ⟨some 9, .assign (.tmp 16), t7, p7, e7, none⟩]⟩ false)
  (.seq (.seq (Code.region i2 ⟨[⟨some 17, .fieldAddr T45 (.tmp 4) 0, t8, p8, e8, none⟩,
    ⟨some 18, .load T3 (.tmp 17), t9, p9, e9, none⟩,
    ⟨some 19, .binOp .eql T3 (.tmp 18) (.const (.int .i64 11)) T3, t10, p10, e10, none⟩]⟩ false)
  (.cond (.tmp 19) (.seq (Code.region i3 ⟨[⟨some 20, .fieldAddr T26 (.tmp 7) 3, t11, p11, e11, none⟩,
    ⟨some 21, .load T23 (.tmp 20), t12, p12, e12, none⟩,
    ⟨some 22, .call ⟨.value (.func f73), #[(.tmp 21)], a1⟩, t13, p13, e13, none⟩,
    ⟨some 10, .assign (.tmp 22), t14, p14, e14, none⟩]⟩ false)
  (.seq (.seq (Code.region i4 ⟨[⟨some 23, .move (.tmp 9), t15, p15, e15, none⟩]⟩ false)
  (.cond (.tmp 23) (Code.region i5 ⟨[⟨some 10, .assign (.const (.slice none 0 0)), t16, p16, e16, none⟩]⟩ false)
  .skip))
  (.seq (Code.region i6 ⟨[⟨some 24, .move (.tmp 2), t17, p17, e17, none⟩,
    ⟨some 25, .move (.tmp 9), t18, p18, e18, none⟩,
    ⟨some 26, .move (.tmp 10), t19, p19, e19, none⟩,
    ⟨some 27, .call ⟨.builtin .len, #[(.tmp 26)], #[T23]⟩, t20, p20, e20, none⟩,
    ⟨some 28, .call ⟨.value (.func f74), #[(.tmp 24), (.tmp 25), (.tmp 27), (.const (.int .i64 4))], a2⟩, t21, p21, e21, none⟩,
    ⟨some 11, .assign (.tmp 28), t22, p22, e22, none⟩]⟩ false)
  (.seq (.seq (Code.region i7 ⟨[⟨some 29, .move (.tmp 10), t23, p23, e23, none⟩,
    ⟨some 30, .call ⟨.builtin .len, #[(.tmp 29)], #[T23]⟩, t24, p24, e24, none⟩,
    ⟨some 31, .move (.const (.int .i64 0)), t25, p25, e25, none⟩]⟩ false)
  (.block 0 (.loop (.seq (Code.region i8 ⟨[⟨some 32, .binOp .lss T3 (.tmp 31) (.tmp 30) T3, t26, p26, e26, none⟩]⟩ false)
  (.seq (.cond (.tmp 32) .skip
  (.exit 0))
  (.seq (.block 1 (.seq (Code.region i9 ⟨[⟨some 33, .move (.tmp 31), t27, p27, e27, none⟩,
    ⟨some 12, .assign (.tmp 33), t28, p28, e28, none⟩]⟩ false)
  (Code.region i10 ⟨[⟨some 34, .move (.tmp 11), t29, p29, e29, none⟩,
    ⟨some 35, .fieldAddr T45 (.tmp 4) 6, t30, p30, e30, none⟩,
    ⟨some 36, .load T3 (.tmp 35), t31, p31, e31, none⟩,
    ⟨some 37, .fieldAddr T45 (.tmp 4) 7, t32, p32, e32, none⟩,
    ⟨some 38, .load T29 (.tmp 37), t33, p33, e33, none⟩,
    ⟨some 39, .move (.tmp 1), t34, p34, e34, none⟩,
    ⟨some 40, .move (.tmp 2), t35, p35, e35, none⟩,
    ⟨some 41, .move (.tmp 10), t36, p36, e36, none⟩,
    ⟨some 42, .move (.tmp 12), t37, p37, e37, none⟩,
    ⟨some 43, .indexAddr T23 (.tmp 41) (.tmp 42), t38, p38, e38, none⟩,
    ⟨some 44, .load T26 (.tmp 43), t39, p39, e39, none⟩,
    ⟨some 45, .call ⟨.value (.func f75), #[(.tmp 36), (.tmp 38), (.const (.bool false)), (.tmp 39), (.tmp 40), (.tmp 44)], a3⟩, t40, p40, e40, none⟩,
    ⟨some 46, .call ⟨.builtin .append, #[(.tmp 34), (.tmp 45)], #[T22, T22]⟩, t41, p41, e41, none⟩,
    ⟨some 11, .assign (.tmp 46), t42, p42, e42, none⟩]⟩ true)))
  (Code.region i11 ⟨[⟨some 47, .binOp .add T3 (.tmp 31) (.const (.int .i64 1)) T3, t43, p43, e43, none⟩,
    ⟨some 31, .move (.tmp 47), t44, p44, e44, none⟩]⟩ false)))))))
  (.seq (Code.region i12 ⟨[⟨some 48, .move (.tmp 11), t45, p45, e45, none⟩,
    ⟨some 8, .assign (.tmp 48), t46, p46, e46, none⟩]⟩ false)
  .ret)))))
  .skip))
  (.seq (.seq (Code.region i13 ⟨[⟨some 49, .fieldAddr T45 (.tmp 4) 0, t47, p47, e47, none⟩,
    ⟨some 50, .load T3 (.tmp 49), t48, p48, e48, none⟩,
    ⟨some 51, .binOp .eql T3 (.tmp 50) (.const (.int .i64 10)) T3, t49, p49, e49, none⟩,
    ⟨some 52, .move (.tmp 51), t50, p50, e50, none⟩,
    ⟨some 53, .fieldAddr T45 (.tmp 4) 3, t51, p51, e51, some (3, true)⟩,
    ⟨some 54, .load T3 (.tmp 53), t52, p52, e52, some (3, true)⟩,
    ⟨some 55, .binOp .geq T3 (.tmp 54) (.const (.int .i64 0)) T3, t53, p53, e53, some (3, true)⟩,
    ⟨some 56, .pick (.tmp 52) (.tmp 55) (.const (.bool false)), t54, p54, e54, none⟩]⟩ false)
  (.cond (.tmp 56) (.seq (.seq (Code.region i14 ⟨[⟨some 57, .move (.tmp 9), t55, p55, e55, none⟩]⟩ false)
  (.cond (.tmp 57) (.seq (Code.region i15 ⟨[⟨some 58, .call ⟨.value (.func f76), #[(.const (.int .i64 (-1))), (.const (.int .i64 1))], a4⟩, t56, p56, e56, none⟩,
    ⟨some 8, .assign (.tmp 58), t57, p57, e57, none⟩]⟩ false)
  .ret)
  .skip))
  (.seq (Code.region i16 ⟨[⟨some 59, .call ⟨.value (.func f76), #[(.const (.int .i64 1)), (.const (.int .i64 1))], a5⟩, t58, p58, e58, none⟩,
    ⟨some 60, .fieldAddr T45 (.tmp 4) 7, t59, p59, e59, none⟩,
    ⟨some 61, .load T29 (.tmp 60), t60, p60, e60, none⟩,
    ⟨some 62, .move (.tmp 1), t61, p61, e61, none⟩,
    ⟨some 63, .move (.tmp 2), t62, p62, e62, none⟩,
    ⟨some 64, .load T26 (.tmp 7), t63, p63, e63, none⟩,
    ⟨some 65, .call ⟨.value (.func f26), #[(.tmp 61), (.tmp 62), (.tmp 63), (.tmp 64)], a6⟩, t64, p64, e64, none⟩,
    ⟨some 66, .call ⟨.builtin .append, #[(.tmp 59), (.tmp 65)], #[T22, T22]⟩, t65, p65, e65, none⟩,
    ⟨some 8, .assign (.tmp 66), t66, p66, e66, none⟩]⟩ true)
  .ret))
  .skip))
  (.seq (Code.region i17 ⟨[⟨some 67, .fieldAddr T45 (.tmp 4) 0, t67, p67, e67, none⟩,
    ⟨some 68, .load T3 (.tmp 67), t68, p68, e68, none⟩,
    ⟨some 69, .fieldAddr T45 (.tmp 4) 7, t69, p69, e69, none⟩,
    ⟨some 70, .load T29 (.tmp 69), t70, p70, e70, none⟩,
    ⟨some 71, .move (.tmp 9), t71, p71, e71, none⟩,
    ⟨some 72, .move (.tmp 1), t72, p72, e72, none⟩,
    ⟨some 73, .move (.tmp 2), t73, p73, e73, none⟩,
    ⟨some 74, .load T26 (.tmp 7), t74, p74, e74, none⟩,
    ⟨some 75, .call ⟨.value (.func f75), #[(.tmp 68), (.tmp 70), (.tmp 71), (.tmp 72), (.tmp 73), (.tmp 74)], a7⟩, t75, p75, e75, none⟩,
    ⟨some 8, .assign (.tmp 75), t76, p76, e76, none⟩]⟩ false)
  .ret))))))
    (hs_T22 : sliceOf P T22 te 1 1 = true) (hz_T22 : zeroIs P te [.int .u8 0]) (hFlT45 : Flat P T45 zF) (hFlT26 : Flat P T26 zT) (hcT3 : scal P T3 = true) (hcT23 : scal P T23 = true) (hsT23 : slTy P T23 = true) (hcT29 : scal P T29 = true) (hs_T23 : sliceOf P T23 te5 5 tb = true) (he10 : edgeOk 0 [e29, e30, e31, e32, e33, e34, e35, e36, e37, e38, e39, e40, e41, e42] [[], [], [1], [], [3], [], [], [], [], [7, 8], [9], [2, 4, 5, 6, 10], [0, 1, 2, 3, 4, 5, 6, 7, 8, 9, 10, 11], [0, 1, 2, 3, 4, 5, 6, 7, 8, 9, 10, 11, 12]] = true) (hmx : P.follows .mixedOrders = true) (he16 : edgeOk 0 [e58, e59, e60, e61, e62, e63, e64, e65, e66] [[], [], [1], [], [], [], [2, 3, 4, 5], [0, 1, 2, 3, 4, 5, 6], [0, 1, 2, 3, 4, 5, 6, 7]] = true) (hNu : NullM P f72) (hTh : ThingsM P f73) (hCo : CountM P f74) (hVa : ValueM P f75 fd.sub sub) (hPa : PartM P f26 fd.sub sub) (hFx : FixM P f76) : FieldM P f fd (fun ver flex t => fieldV fd.kind fd.nul fd.of (sub ver flex) ver flex t) := by
  refine ⟨enters_of hf hname hbody, ?_⟩
  intro w A B ver flex cs ct t hr ht hA hB hlen
  cases t with
  | mk n s nl l u =>
  have ht0 := ht
  obtain ⟨sv, lv, uv, rfl, hn, hs, hl, hu⟩ := repT_iff.1 ht
  obtain ⟨fsv, rfl, hsub⟩ := repF_iff.1 hr
  obtain ⟨nu, hnu⟩ : ∃ b, b = nullW fd.nul ver (.mk n s nl l u) := ⟨_, rfl⟩
  obtain ⟨tl, htl⟩ : ∃ x, x = thingsW nu (.mk n s nl l u) := ⟨_, rfl⟩
  refine calls_of_wp hf hbody ?_
  generalize ha0 : ({ tmps := #[Value.agg ([.int .i64 fd.kind, .int .i64 fd.fr, .int .i64 fd.to, .int .i64 fd.nul, .int .i64 fd.tag, .int .i64 fd.df, .int .i64 fd.of, fsv] : List Value).toArray, Value.int .i64 ver, Value.bool flex, Value.agg ([.int .i64 n, sv, .bool nl, lv, uv] : List Value).toArray] ++ Array.replicate (fn.ntmps - (#[Value.agg ([.int .i64 fd.kind, .int .i64 fd.fr, .int .i64 fd.to, .int .i64 fd.nul, .int .i64 fd.tag, .int .i64 fd.df, .int .i64 fd.of, fsv] : List Value).toArray, Value.int .i64 ver, Value.bool flex, Value.agg ([.int .i64 n, sv, .bool nl, lv, uv] : List Value).toArray] : Array Value).size) undef, defers := [] } : Act) = a0
  have hz0 : a0.tmps.size = 76 := by subst ha0; simp [hN]
  have hd0 : a0.defers = [] := by subst ha0; rfl
  have g0_0 : get a0 0 = .agg ([.int .i64 fd.kind, .int .i64 fd.fr, .int .i64 fd.to, .int .i64 fd.nul, .int .i64 fd.tag, .int .i64 fd.df, .int .i64 fd.of, fsv] : List Value).toArray := by subst ha0; exact get_args rfl
  have g0_1 : get a0 1 = .int .i64 ver := by subst ha0; exact get_args rfl
  have g0_2 : get a0 2 = .bool flex := by subst ha0; exact get_args rfl
  have g0_3 : get a0 3 = .agg ([.int .i64 n, sv, .bool nl, lv, uv] : List Value).toArray := by subst ha0; exact get_args rfl
  clear ha0
  refine then_id (wp_seq_k fun K1 hK1 => ?_)
  refine wp_reg ?_
  rw [wpl_cons]
  refine wp_boxL (cs := [.int .i64 fd.kind, .int .i64 fd.fr, .int .i64 fd.to, .int .i64 fd.nul, .int .i64 fd.tag, .int .i64 fd.df, .int .i64 fd.of, fsv]) (by rw [eval_tmp, g0_0]) ?_
  rintro w2 f2 sz2 r2 th2
  have hF3 : Fr [] w w2 := f2
  rw [wpl_cons]
  refine wp_boxL (cs := [.int .i64 n, sv, .bool nl, lv, uv]) (by rw [eval_tmp, nZ (by decide), g0_3]) ?_
  rintro w4 f4 sz4 r4 th4
  have hF5 : Fr [] w w4 := hF3.tr f4
  have rb6 := f4.range r2 .nil
  rw [wpl_cons]
  refine wp_as (v := .slice none 0 0) rfl ?_
  refine wpl_end fun a7 ha7 => ?_
  have hz7 : a7.tmps.size = 76 := by rw [ha7]; exact (zZ (zZ (zZ hz0)))
  have hd7 : a7.defers = [] := by rw [ha7]; exact (dZ (dZ (dZ hd0)))
  have g7_0 : get a7 0 = .agg ([.int .i64 fd.kind, .int .i64 fd.fr, .int .i64 fd.to, .int .i64 fd.nul, .int .i64 fd.tag, .int .i64 fd.df, .int .i64 fd.of, fsv] : List Value).toArray := by rw [ha7]; (repeat rw [nZ (by decide)]); rw [g0_0]
  have g7_1 : get a7 1 = .int .i64 ver := by rw [ha7]; (repeat rw [nZ (by decide)]); rw [g0_1]
  have g7_2 : get a7 2 = .bool flex := by rw [ha7]; (repeat rw [nZ (by decide)]); rw [g0_2]
  have g7_3 : get a7 3 = .agg ([.int .i64 n, sv, .bool nl, lv, uv] : List Value).toArray := by rw [ha7]; (repeat rw [nZ (by decide)]); rw [g0_3]
  have g7_4 : get a7 4 = .pointer (some ⟨w.heap.size, 0, none⟩) := by rw [ha7, nZ (by decide), nZ (by decide), sZ hz0 (by decide)]
  have g7_7 : get a7 7 = .pointer (some ⟨w2.heap.size, 0, none⟩) := by rw [ha7, nZ (by decide), sZ (zZ hz0) (by decide)]
  have g7_8 : get a7 8 = .slice none 0 0 := by rw [ha7, sZ (zZ (zZ hz0)) (by decide)]
  clear ha7
  refine hK1 a7 w4 (then_up ?_)
  refine then_id (wp_seq_k fun K8 hK8 => ?_)
  have hS0 : w.heap.size + 2 ≤ w4.heap.size := by omega
  refine wp_reg ?_
  rw [wpl_cons]
  refine wp_loadFlat (cs := [.int .i64 fd.kind, .int .i64 fd.fr, .int .i64 fd.to, .int .i64 fd.nul, .int .i64 fd.tag, .int .i64 fd.df, .int .i64 fd.of, fsv]) (b := w.heap.size) (o := 0) hFlT45 rfl (by rw [eval_tmp, g7_4]) rb6 ?_
  rw [wpl_cons]
  refine wp_mv (v := .int .i64 ver) (by rw [eval_tmp, nZ (by decide), g7_1]) ?_
  rw [wpl_cons]
  refine wp_loadFlat (cs := [.int .i64 n, sv, .bool nl, lv, uv]) (b := w2.heap.size) (o := 0) hFlT26 rfl (by rw [eval_tmp, nZ (by decide), nZ (by decide), g7_7]) r4 ?_
  rw [wpl_cons]
  refine wp_callR (R := fun x wz => x = .bool nu ∧ Fr [] w4 wz) (vs := #[.agg ([.int .i64 fd.kind, .int .i64 fd.fr, .int .i64 fd.to, .int .i64 fd.nul, .int .i64 fd.tag, .int .i64 fd.df, .int .i64 fd.of, fsv] : List Value).toArray, .int .i64 ver, .agg ([.int .i64 n, sv, .bool nl, lv, uv] : List Value).toArray]) hNu.enters (by simp only [List.map_toArray, List.map_cons, List.map_nil]; rw [show (((a7.put (some 13) (.agg ([.int .i64 fd.kind, .int .i64 fd.fr, .int .i64 fd.to, .int .i64 fd.nul, .int .i64 fd.tag, .int .i64 fd.df, .int .i64 fd.of, fsv] : List Value).toArray)).put (some 14) (.int .i64 ver)).put (some 15) (.agg ([.int .i64 n, sv, .bool nl, lv, uv] : List Value).toArray)).eval (.tmp 13) = Value.agg ([.int .i64 fd.kind, .int .i64 fd.fr, .int .i64 fd.to, .int .i64 fd.nul, .int .i64 fd.tag, .int .i64 fd.df, .int .i64 fd.of, fsv] : List Value).toArray from (by rw [eval_tmp, nZ (by decide), nZ (by decide), sZ hz7 (by decide)]), show (((a7.put (some 13) (.agg ([.int .i64 fd.kind, .int .i64 fd.fr, .int .i64 fd.to, .int .i64 fd.nul, .int .i64 fd.tag, .int .i64 fd.df, .int .i64 fd.of, fsv] : List Value).toArray)).put (some 14) (.int .i64 ver)).put (some 15) (.agg ([.int .i64 n, sv, .bool nl, lv, uv] : List Value).toArray)).eval (.tmp 14) = Value.int .i64 ver from (by rw [eval_tmp, nZ (by decide), sZ (zZ hz7) (by decide)]), show (((a7.put (some 13) (.agg ([.int .i64 fd.kind, .int .i64 fd.fr, .int .i64 fd.to, .int .i64 fd.nul, .int .i64 fd.tag, .int .i64 fd.df, .int .i64 fd.of, fsv] : List Value).toArray)).put (some 14) (.int .i64 ver)).put (some 15) (.agg ([.int .i64 n, sv, .bool nl, lv, uv] : List Value).toArray)).eval (.tmp 15) = Value.agg ([.int .i64 n, sv, .bool nl, lv, uv] : List Value).toArray from (by rw [eval_tmp, sZ (zZ (zZ hz7)) (by decide)])]) ((hNu.call w4 A B _ _ fd (.mk n s nl l u) ver (hr.kept hF5 (by simp) (fun _ h => h)) (ht0.kept hF5 (by simp) (fun _ h => h))).mono (by rintro e w' ⟨rfl, hf⟩; exact ⟨_, rfl, by rw [hnu], hf⟩)) ?_
  rintro x9 w9 ⟨rfl, fr9⟩
  have hF10 : Fr [] w w9 := hF5.tr fr9
  have hL10_w4 : Fr [] w4 w9 := (Fr.refl [] w4).tr fr9
  have rb11 := fr9.range rb6 .nil
  have rb12 := fr9.range r4 .nil
  rw [wpl_cons]
  refine wp_as (v := .bool nu) (by rw [eval_tmp, sZ (zZ (zZ (zZ hz7))) (by decide)]) ?_
  refine wpl_end fun a13 ha13 => ?_
  have hz13 : a13.tmps.size = 76 := by rw [ha13]; exact (zZ (zZ (zZ (zZ (zZ hz7)))))
  have hd13 : a13.defers = [] := by rw [ha13]; exact (dZ (dZ (dZ (dZ (dZ hd7)))))
  have g13_0 : get a13 0 = .agg ([.int .i64 fd.kind, .int .i64 fd.fr, .int .i64 fd.to, .int .i64 fd.nul, .int .i64 fd.tag, .int .i64 fd.df, .int .i64 fd.of, fsv] : List Value).toArray := by rw [ha13]; (repeat rw [nZ (by decide)]); rw [g7_0]
  have g13_1 : get a13 1 = .int .i64 ver := by rw [ha13]; (repeat rw [nZ (by decide)]); rw [g7_1]
  have g13_2 : get a13 2 = .bool flex := by rw [ha13]; (repeat rw [nZ (by decide)]); rw [g7_2]
  have g13_3 : get a13 3 = .agg ([.int .i64 n, sv, .bool nl, lv, uv] : List Value).toArray := by rw [ha13]; (repeat rw [nZ (by decide)]); rw [g7_3]
  have g13_4 : get a13 4 = .pointer (some ⟨w.heap.size, 0, none⟩) := by rw [ha13]; (repeat rw [nZ (by decide)]); rw [g7_4]
  have g13_7 : get a13 7 = .pointer (some ⟨w2.heap.size, 0, none⟩) := by rw [ha13]; (repeat rw [nZ (by decide)]); rw [g7_7]
  have g13_8 : get a13 8 = .slice none 0 0 := by rw [ha13]; (repeat rw [nZ (by decide)]); rw [g7_8]
  have g13_9 : get a13 9 = .bool nu := by rw [ha13, sZ (zZ (zZ (zZ (zZ hz7)))) (by decide)]
  clear ha13
  refine hK8 a13 w9 (then_up ?_)
  refine then_id (wp_seq_k fun K14 hK14 => ?_)
  refine wp_seq_k fun K15 hK15 => ?_
  refine wp_reg ?_
  rw [wpl_cons]
  refine wp_fieldAddr (b := w.heap.size) (i := 0) (hFlT45.fld (by decide)) (by rw [eval_tmp, g13_4]) ?_
  rw [show (0 + 0 : Nat) = 0 from rfl]
  rw [wpl_cons]
  refine wp_load0 (j := 0) (v := .int .i64 fd.kind) hcT3 (by rw [eval_tmp, sZ hz13 (by decide)]) rb11 rfl ?_
  rw [wpl_cons]
  refine wp_eql (k1 := .i64) (i := fd.kind) (j := 11) (by rw [eval_tmp, sZ (zZ hz13) (by decide)]) rfl ?_
  refine wpl_end fun a16 ha16 => ?_
  have hz16 : a16.tmps.size = 76 := by rw [ha16]; exact (zZ (zZ (zZ hz13)))
  have hd16 : a16.defers = [] := by rw [ha16]; exact (dZ (dZ (dZ hd13)))
  have g16_0 : get a16 0 = .agg ([.int .i64 fd.kind, .int .i64 fd.fr, .int .i64 fd.to, .int .i64 fd.nul, .int .i64 fd.tag, .int .i64 fd.df, .int .i64 fd.of, fsv] : List Value).toArray := by rw [ha16]; (repeat rw [nZ (by decide)]); rw [g13_0]
  have g16_1 : get a16 1 = .int .i64 ver := by rw [ha16]; (repeat rw [nZ (by decide)]); rw [g13_1]
  have g16_2 : get a16 2 = .bool flex := by rw [ha16]; (repeat rw [nZ (by decide)]); rw [g13_2]
  have g16_3 : get a16 3 = .agg ([.int .i64 n, sv, .bool nl, lv, uv] : List Value).toArray := by rw [ha16]; (repeat rw [nZ (by decide)]); rw [g13_3]
  have g16_4 : get a16 4 = .pointer (some ⟨w.heap.size, 0, none⟩) := by rw [ha16]; (repeat rw [nZ (by decide)]); rw [g13_4]
  have g16_7 : get a16 7 = .pointer (some ⟨w2.heap.size, 0, none⟩) := by rw [ha16]; (repeat rw [nZ (by decide)]); rw [g13_7]
  have g16_8 : get a16 8 = .slice none 0 0 := by rw [ha16]; (repeat rw [nZ (by decide)]); rw [g13_8]
  have g16_9 : get a16 9 = .bool nu := by rw [ha16]; (repeat rw [nZ (by decide)]); rw [g13_9]
  have g16_19 : get a16 19 = .bool ((fd.kind : Int) == (11 : Int)) := by rw [ha16, sZ (zZ (zZ hz13)) (by decide)]
  clear ha16
  refine hK15 a16 w9 ?_
  refine wp_cond_split (t := ((fd.kind : Int) == (11 : Int))) (by rw [eval_tmp, g16_19]) (fun hc17 => ?_) (fun hc17 => ?_)
  · have h11 : fd.kind = 11 := by simpa using hc17
    refine wp_seq_k fun K18 hK18 => ?_
    refine wp_reg ?_
    rw [wpl_cons]
    refine wp_fieldAddr (b := w2.heap.size) (i := 0) (hFlT26.fld (by decide)) (by rw [eval_tmp, g16_7]) ?_
    rw [show (0 + 3 : Nat) = 3 from rfl]
    rw [wpl_cons]
    refine wp_load0 (j := 3) (v := lv) hcT23 (by rw [eval_tmp, sZ hz16 (by decide)]) rb12 rfl ?_
    rw [wpl_cons]
    refine wp_callR (R := fun x wz => Things wz B x (l.take 32767) ∧ w9 = wz) (vs := #[lv]) hTh.enters (by simp only [List.map_toArray, List.map_cons, List.map_nil]; rw [show ((a16.put (some 20) (.pointer (some ⟨w2.heap.size, 3, none⟩))).put (some 21) lv).eval (.tmp 21) = lv from (by rw [eval_tmp, sZ (zZ hz16) (by decide)])]) ((hTh.call w9 B lv l (hl.kept hF10 (by simp) (fun _ h => h))).mono (by rintro e w' ⟨x, rfl, h1, rfl⟩; exact ⟨x, rfl, h1, rfl⟩)) ?_
    rintro x19 _ ⟨hx19, rfl⟩
    obtain ⟨q19, c19, rfl, -, -, -⟩ := hx19.sl2
    have hxw19 := hx19
    rw [wpl_cons]
    refine wp_as (v := .slice q19 ((l.take 32767).length) c19) (by rw [eval_tmp, sZ (zZ (zZ hz16)) (by decide)]) ?_
    refine wpl_end fun a20 ha20 => ?_
    have hz20 : a20.tmps.size = 76 := by rw [ha20]; exact (zZ (zZ (zZ (zZ hz16))))
    have hd20 : a20.defers = [] := by rw [ha20]; exact (dZ (dZ (dZ (dZ hd16))))
    have g20_0 : get a20 0 = .agg ([.int .i64 fd.kind, .int .i64 fd.fr, .int .i64 fd.to, .int .i64 fd.nul, .int .i64 fd.tag, .int .i64 fd.df, .int .i64 fd.of, fsv] : List Value).toArray := by rw [ha20]; (repeat rw [nZ (by decide)]); rw [g16_0]
    have g20_1 : get a20 1 = .int .i64 ver := by rw [ha20]; (repeat rw [nZ (by decide)]); rw [g16_1]
    have g20_2 : get a20 2 = .bool flex := by rw [ha20]; (repeat rw [nZ (by decide)]); rw [g16_2]
    have g20_3 : get a20 3 = .agg ([.int .i64 n, sv, .bool nl, lv, uv] : List Value).toArray := by rw [ha20]; (repeat rw [nZ (by decide)]); rw [g16_3]
    have g20_4 : get a20 4 = .pointer (some ⟨w.heap.size, 0, none⟩) := by rw [ha20]; (repeat rw [nZ (by decide)]); rw [g16_4]
    have g20_7 : get a20 7 = .pointer (some ⟨w2.heap.size, 0, none⟩) := by rw [ha20]; (repeat rw [nZ (by decide)]); rw [g16_7]
    have g20_8 : get a20 8 = .slice none 0 0 := by rw [ha20]; (repeat rw [nZ (by decide)]); rw [g16_8]
    have g20_9 : get a20 9 = .bool nu := by rw [ha20]; (repeat rw [nZ (by decide)]); rw [g16_9]
    have g20_10 : get a20 10 = .slice q19 ((l.take 32767).length) c19 := by rw [ha20, sZ (zZ (zZ (zZ hz16))) (by decide)]
    clear ha20
    refine hK18 a20 w9 ?_
    refine wp_seq_k fun K21 hK21 => ?_
    have hJ22 : ∀ (a' : Act) (w' : World), (∃ (q : Option Addr) (c : Nat), a'.tmps.size = 76 ∧ a'.defers = [] ∧ get a' 0 = .agg ([.int .i64 fd.kind, .int .i64 fd.fr, .int .i64 fd.to, .int .i64 fd.nul, .int .i64 fd.tag, .int .i64 fd.df, .int .i64 fd.of, fsv] : List Value).toArray ∧ get a' 1 = .int .i64 ver ∧ get a' 2 = .bool flex ∧ get a' 3 = .agg ([.int .i64 n, sv, .bool nl, lv, uv] : List Value).toArray ∧ get a' 4 = .pointer (some ⟨w.heap.size, 0, none⟩) ∧ get a' 7 = .pointer (some ⟨w2.heap.size, 0, none⟩) ∧ get a' 8 = .slice none 0 0 ∧ get a' 9 = .bool nu ∧ get a' 10 = .slice q tl.length c ∧ Things w' B (.slice q tl.length c) tl ∧ w'.rangeAt w.heap.size 0 [.int .i64 fd.kind, .int .i64 fd.fr, .int .i64 fd.to, .int .i64 fd.nul, .int .i64 fd.tag, .int .i64 fd.df, .int .i64 fd.of, fsv] ∧ Fr [] w w' ∧ w4.heap.size ≤ w'.heap.size) → K21 a' w' := by
      rintro a22 w22 ⟨q, c, hz22, hd22, g22_0, g22_1, g22_2, g22_3, g22_4, g22_7, g22_8, g22_9, g22_10, htj, hbj, hfj, hszj⟩
      have hfS : w4.heap.size ≤ w22.heap.size := by have := hszj; omega
      refine hK21 a22 w22 ?_
      refine wp_seq_k fun K23 hK23 => ?_
      have htlb : tl.length < 4294967296 := by rw [htl]; unfold thingsW; split <;> simp; omega
      have hW : fieldV fd.kind fd.nul fd.of (sub ver flex) ver flex (.mk n s nl l u) = countedW flex nu tl.length 4 ++ tl.flatMap (valueW fd.of (sub ver flex) false flex) := by rw [fieldV, if_pos h11, ← hnu, ← htl]
      rw [hW] at hlen
      rw [List.length_append] at hlen
      refine wp_reg ?_
      rw [wpl_cons]
      refine wp_mv (v := .bool flex) (by rw [eval_tmp, g22_2]) ?_
      rw [wpl_cons]
      refine wp_mv (v := .bool nu) (by rw [eval_tmp, nZ (by decide), g22_9]) ?_
      rw [wpl_cons]
      refine wp_mv (v := .slice q tl.length c) (by rw [eval_tmp, nZ (by decide), nZ (by decide), g22_10]) ?_
      rw [wpl_cons]
      refine wp_lenS (n := tl.length) hsT23 (by rw [eval_tmp, sZ (zZ (zZ hz22)) (by decide)]) ?_
      rw [wpl_cons]
      refine wp_callR (R := fun x wz => Fr [] w22 wz ∧ Own wz (From w22.heap.size wz) 1 x (countedW flex nu tl.length 4).length (octets (countedW flex nu tl.length 4))) (vs := #[.bool flex, .bool nu, .int .i64 ((tl.length : Nat) : Int), .int .i64 4]) hCo.enters (by simp only [List.map_toArray, List.map_cons, List.map_nil]; rw [show ((((a22.put (some 24) (.bool flex)).put (some 25) (.bool nu)).put (some 26) (.slice q tl.length c)).put (some 27) (.int .i64 ((tl.length : Nat) : Int))).eval (.tmp 24) = Value.bool flex from (by rw [eval_tmp, nZ (by decide), nZ (by decide), nZ (by decide), sZ hz22 (by decide)]), show ((((a22.put (some 24) (.bool flex)).put (some 25) (.bool nu)).put (some 26) (.slice q tl.length c)).put (some 27) (.int .i64 ((tl.length : Nat) : Int))).eval (.tmp 25) = Value.bool nu from (by rw [eval_tmp, nZ (by decide), nZ (by decide), sZ (zZ hz22) (by decide)]), show ((((a22.put (some 24) (.bool flex)).put (some 25) (.bool nu)).put (some 26) (.slice q tl.length c)).put (some 27) (.int .i64 ((tl.length : Nat) : Int))).eval (.tmp 27) = Value.int .i64 ((tl.length : Nat) : Int) from (by rw [eval_tmp, sZ (zZ (zZ (zZ hz22))) (by decide)]), show ((((a22.put (some 24) (.bool flex)).put (some 25) (.bool nu)).put (some 26) (.slice q tl.length c)).put (some 27) (.int .i64 ((tl.length : Nat) : Int))).eval (.const (.int .i64 4)) = Value.int .i64 4 from rfl]) (calls_fresh (hCo.call w22 flex nu tl.length 4 htlb (by decide))) ?_
      rintro x24 w24 ⟨fr24, ow24⟩
      have hF25 : Fr [] w w24 := hfj.tr fr24
      have hL25_w22 : Fr [] w22 w24 := (Fr.refl [] w22).tr fr24
      have rb26 := fr24.range hbj .nil
      rw [wpl_cons]
      refine wp_as (v := x24) (by rw [eval_tmp, sZ (zZ (zZ (zZ (zZ hz22)))) (by decide)]) ?_
      refine wpl_end fun a27 ha27 => ?_
      have hz27 : a27.tmps.size = 76 := by rw [ha27]; exact (zZ (zZ (zZ (zZ (zZ (zZ hz22))))))
      have hd27 : a27.defers = [] := by rw [ha27]; exact (dZ (dZ (dZ (dZ (dZ (dZ hd22))))))
      have g27_0 : get a27 0 = .agg ([.int .i64 fd.kind, .int .i64 fd.fr, .int .i64 fd.to, .int .i64 fd.nul, .int .i64 fd.tag, .int .i64 fd.df, .int .i64 fd.of, fsv] : List Value).toArray := by rw [ha27]; (repeat rw [nZ (by decide)]); rw [g22_0]
      have g27_1 : get a27 1 = .int .i64 ver := by rw [ha27]; (repeat rw [nZ (by decide)]); rw [g22_1]
      have g27_2 : get a27 2 = .bool flex := by rw [ha27]; (repeat rw [nZ (by decide)]); rw [g22_2]
      have g27_3 : get a27 3 = .agg ([.int .i64 n, sv, .bool nl, lv, uv] : List Value).toArray := by rw [ha27]; (repeat rw [nZ (by decide)]); rw [g22_3]
      have g27_4 : get a27 4 = .pointer (some ⟨w.heap.size, 0, none⟩) := by rw [ha27]; (repeat rw [nZ (by decide)]); rw [g22_4]
      have g27_7 : get a27 7 = .pointer (some ⟨w2.heap.size, 0, none⟩) := by rw [ha27]; (repeat rw [nZ (by decide)]); rw [g22_7]
      have g27_8 : get a27 8 = .slice none 0 0 := by rw [ha27]; (repeat rw [nZ (by decide)]); rw [g22_8]
      have g27_9 : get a27 9 = .bool nu := by rw [ha27]; (repeat rw [nZ (by decide)]); rw [g22_9]
      have g27_10 : get a27 10 = .slice q tl.length c := by rw [ha27]; (repeat rw [nZ (by decide)]); rw [g22_10]
      have g27_11 : get a27 11 = x24 := by rw [ha27, sZ (zZ (zZ (zZ (zZ (zZ hz22))))) (by decide)]
      clear ha27
      refine hK23 a27 w24 ?_
      refine wp_seq_k fun K28 hK28 => ?_
      refine wp_seq_k fun K29 hK29 => ?_
      refine wp_reg ?_
      rw [wpl_cons]
      refine wp_mv (v := .slice q tl.length c) (by rw [eval_tmp, g27_10]) ?_
      rw [wpl_cons]
      refine wp_lenS (n := tl.length) hsT23 (by rw [eval_tmp, sZ hz27 (by decide)]) ?_
      rw [wpl_cons]
      refine wp_mv (v := .int .i64 0) rfl ?_
      refine wpl_end fun a30 ha30 => ?_
      have hz30 : a30.tmps.size = 76 := by rw [ha30]; exact (zZ (zZ (zZ hz27)))
      have hd30 : a30.defers = [] := by rw [ha30]; exact (dZ (dZ (dZ hd27)))
      have g30_0 : get a30 0 = .agg ([.int .i64 fd.kind, .int .i64 fd.fr, .int .i64 fd.to, .int .i64 fd.nul, .int .i64 fd.tag, .int .i64 fd.df, .int .i64 fd.of, fsv] : List Value).toArray := by rw [ha30]; (repeat rw [nZ (by decide)]); rw [g27_0]
      have g30_1 : get a30 1 = .int .i64 ver := by rw [ha30]; (repeat rw [nZ (by decide)]); rw [g27_1]
      have g30_2 : get a30 2 = .bool flex := by rw [ha30]; (repeat rw [nZ (by decide)]); rw [g27_2]
      have g30_3 : get a30 3 = .agg ([.int .i64 n, sv, .bool nl, lv, uv] : List Value).toArray := by rw [ha30]; (repeat rw [nZ (by decide)]); rw [g27_3]
      have g30_4 : get a30 4 = .pointer (some ⟨w.heap.size, 0, none⟩) := by rw [ha30]; (repeat rw [nZ (by decide)]); rw [g27_4]
      have g30_7 : get a30 7 = .pointer (some ⟨w2.heap.size, 0, none⟩) := by rw [ha30]; (repeat rw [nZ (by decide)]); rw [g27_7]
      have g30_8 : get a30 8 = .slice none 0 0 := by rw [ha30]; (repeat rw [nZ (by decide)]); rw [g27_8]
      have g30_9 : get a30 9 = .bool nu := by rw [ha30]; (repeat rw [nZ (by decide)]); rw [g27_9]
      have g30_10 : get a30 10 = .slice q tl.length c := by rw [ha30]; (repeat rw [nZ (by decide)]); rw [g27_10]
      have g30_11 : get a30 11 = x24 := by rw [ha30]; (repeat rw [nZ (by decide)]); rw [g27_11]
      have g30_30 : get a30 30 = .int .i64 ((tl.length : Nat) : Int) := by rw [ha30, nZ (by decide), sZ (zZ hz27) (by decide)]
      have g30_31 : get a30 31 = .int .i64 0 := by rw [ha30, sZ (zZ (zZ hz27)) (by decide)]
      clear ha30
      refine hK29 a30 w24 ?_
      refine wp_block (wp_loop_ghost (fun (m : Nat) a' w' => ∃ (j : Nat) (v11 : Value), a'.tmps.size = 76 ∧ a'.defers = [] ∧ get a' 0 = .agg ([.int .i64 fd.kind, .int .i64 fd.fr, .int .i64 fd.to, .int .i64 fd.nul, .int .i64 fd.tag, .int .i64 fd.df, .int .i64 fd.of, fsv] : List Value).toArray ∧ get a' 1 = .int .i64 ver ∧ get a' 2 = .bool flex ∧ get a' 3 = .agg ([.int .i64 n, sv, .bool nl, lv, uv] : List Value).toArray ∧ get a' 4 = .pointer (some ⟨w.heap.size, 0, none⟩) ∧ get a' 7 = .pointer (some ⟨w2.heap.size, 0, none⟩) ∧ get a' 8 = .slice none 0 0 ∧ get a' 9 = .bool nu ∧ get a' 10 = .slice q tl.length c ∧ get a' 11 = v11 ∧ get a' 30 = .int .i64 ((tl.length : Nat) : Int) ∧ get a' 31 = .int .i64 (j : Int) ∧ j + m = tl.length ∧ Own w' (From w4.heap.size w') 1 v11 (countedW flex nu tl.length 4 ++ (tl.take j).flatMap (valueW fd.of (sub ver flex) false flex)).length (octets (countedW flex nu tl.length 4 ++ (tl.take j).flatMap (valueW fd.of (sub ver flex) false flex))) ∧ w'.rangeAt w.heap.size 0 [.int .i64 fd.kind, .int .i64 fd.fr, .int .i64 fd.to, .int .i64 fd.nul, .int .i64 fd.tag, .int .i64 fd.df, .int .i64 fd.of, fsv] ∧ Things w' B (.slice q tl.length c) tl ∧ Fr [] w w' ∧ w4.heap.size ≤ w'.heap.size) tl.length ?_ ?_)
      · exact ⟨0, x24, hz30, hd30, g30_0, g30_1, g30_2, g30_3, g30_4, g30_7, g30_8, g30_9, g30_10, g30_11, g30_30, g30_31, by omega, by simpa using ow24.from hfS, rb26, htj.kept hL25_w22 (by simp) (fun _ h => h), hF25, Nat.le_trans hfS hL25_w22.size⟩
      · rintro m a31 w31 ⟨j, v11, hz31, hd31, g31_0, g31_1, g31_2, g31_3, g31_4, g31_7, g31_8, g31_9, g31_10, g31_11, g31_30, g31_31, hjm, ho, hbl4, htj2, hfl, hSl⟩
        refine wp_seq_k fun K32 hK32 => ?_
        refine wp_reg ?_
        rw [wpl_cons]
        refine wp_lss (k1 := .i64) (i := (j : Int)) (j := ((tl.length : Nat) : Int)) (by rw [eval_tmp, g31_31]) (by rw [eval_tmp, g31_30]) ?_
        refine wpl_end fun a33 ha33 => ?_
        have hz33 : a33.tmps.size = 76 := by rw [ha33]; exact (zZ hz31)
        have hd33 : a33.defers = [] := by rw [ha33]; exact (dZ hd31)
        have g33_0 : get a33 0 = .agg ([.int .i64 fd.kind, .int .i64 fd.fr, .int .i64 fd.to, .int .i64 fd.nul, .int .i64 fd.tag, .int .i64 fd.df, .int .i64 fd.of, fsv] : List Value).toArray := by rw [ha33, nZ (by decide), g31_0]
        have g33_1 : get a33 1 = .int .i64 ver := by rw [ha33, nZ (by decide), g31_1]
        have g33_2 : get a33 2 = .bool flex := by rw [ha33, nZ (by decide), g31_2]
        have g33_3 : get a33 3 = .agg ([.int .i64 n, sv, .bool nl, lv, uv] : List Value).toArray := by rw [ha33, nZ (by decide), g31_3]
        have g33_4 : get a33 4 = .pointer (some ⟨w.heap.size, 0, none⟩) := by rw [ha33, nZ (by decide), g31_4]
        have g33_7 : get a33 7 = .pointer (some ⟨w2.heap.size, 0, none⟩) := by rw [ha33, nZ (by decide), g31_7]
        have g33_8 : get a33 8 = .slice none 0 0 := by rw [ha33, nZ (by decide), g31_8]
        have g33_9 : get a33 9 = .bool nu := by rw [ha33, nZ (by decide), g31_9]
        have g33_10 : get a33 10 = .slice q tl.length c := by rw [ha33, nZ (by decide), g31_10]
        have g33_11 : get a33 11 = v11 := by rw [ha33, nZ (by decide), g31_11]
        have g33_30 : get a33 30 = .int .i64 ((tl.length : Nat) : Int) := by rw [ha33, nZ (by decide), g31_30]
        have g33_31 : get a33 31 = .int .i64 (j : Int) := by rw [ha33, nZ (by decide), g31_31]
        have g33_32 : get a33 32 = .bool (decide (((j : Int) : Int) < (((tl.length : Nat) : Int) : Int))) := by rw [ha33, sZ hz31 (by decide)]
        clear ha33
        refine hK32 a33 w31 ?_
        refine wp_seq_k fun K34 hK34 => ?_
        refine wp_cond_split (t := decide (((j : Int) : Int) < (((tl.length : Nat) : Int) : Int))) (by rw [eval_tmp, g33_32]) (fun hc35 => ?_) (fun hc35 => ?_)
        · have hjl : j < tl.length := by simpa using hc35
          obtain ⟨te', hte⟩ : ∃ t, tl[j]? = some t := ⟨tl[j], by simp [hjl]⟩
          obtain ⟨q', c', hqc, -, -, hk⟩ := htj2.sl2
          obtain ⟨bl, ol, cl, hq, hbl, hrl, hrt⟩ := hk j te' hte
          cases hqc
          rw [hq] at g33_10
          have hel := flatMap_part (f := valueW fd.of (sub ver flex) false flex) hte
          have htk := take_flatMap (f := valueW fd.of (sub ver flex) false flex) hte
          have hpl := take_flatMap_le (f := valueW fd.of (sub ver flex) false flex) (l := tl) (j + 1)
          refine wp_skip ?_
          refine hK34 a33 w31 ?_
          refine wp_seq_k fun K36 hK36 => ?_
          refine wp_blockT ?_
          refine wp_seq_k fun K37 hK37 => ?_
          refine wp_reg ?_
          rw [wpl_cons]
          refine wp_mv (v := .int .i64 (j : Int)) (by rw [eval_tmp, g33_31]) ?_
          rw [wpl_cons]
          refine wp_as (v := .int .i64 (j : Int)) (by rw [eval_tmp, sZ hz33 (by decide)]) ?_
          refine wpl_end fun a38 ha38 => ?_
          have hz38 : a38.tmps.size = 76 := by rw [ha38]; exact (zZ (zZ hz33))
          have hd38 : a38.defers = [] := by rw [ha38]; exact (dZ (dZ hd33))
          have g38_0 : get a38 0 = .agg ([.int .i64 fd.kind, .int .i64 fd.fr, .int .i64 fd.to, .int .i64 fd.nul, .int .i64 fd.tag, .int .i64 fd.df, .int .i64 fd.of, fsv] : List Value).toArray := by rw [ha38, nZ (by decide), nZ (by decide), g33_0]
          have g38_1 : get a38 1 = .int .i64 ver := by rw [ha38, nZ (by decide), nZ (by decide), g33_1]
          have g38_2 : get a38 2 = .bool flex := by rw [ha38, nZ (by decide), nZ (by decide), g33_2]
          have g38_3 : get a38 3 = .agg ([.int .i64 n, sv, .bool nl, lv, uv] : List Value).toArray := by rw [ha38, nZ (by decide), nZ (by decide), g33_3]
          have g38_4 : get a38 4 = .pointer (some ⟨w.heap.size, 0, none⟩) := by rw [ha38, nZ (by decide), nZ (by decide), g33_4]
          have g38_7 : get a38 7 = .pointer (some ⟨w2.heap.size, 0, none⟩) := by rw [ha38, nZ (by decide), nZ (by decide), g33_7]
          have g38_8 : get a38 8 = .slice none 0 0 := by rw [ha38, nZ (by decide), nZ (by decide), g33_8]
          have g38_9 : get a38 9 = .bool nu := by rw [ha38, nZ (by decide), nZ (by decide), g33_9]
          have g38_10 : get a38 10 = .slice (some ⟨bl, ol, none⟩) tl.length c := by rw [ha38, nZ (by decide), nZ (by decide), g33_10]
          have g38_11 : get a38 11 = v11 := by rw [ha38, nZ (by decide), nZ (by decide), g33_11]
          have g38_12 : get a38 12 = .int .i64 (j : Int) := by rw [ha38, sZ (zZ hz33) (by decide)]
          have g38_30 : get a38 30 = .int .i64 ((tl.length : Nat) : Int) := by rw [ha38, nZ (by decide), nZ (by decide), g33_30]
          have g38_31 : get a38 31 = .int .i64 (j : Int) := by rw [ha38, nZ (by decide), nZ (by decide), g33_31]
          clear ha38
          refine hK37 a38 w31 ?_
          refine wp_drawR (os := [⟨some 34, .move (.tmp 11), t29, p29, e29, none⟩, ⟨some 35, .fieldAddr T45 (.tmp 4) 6, t30, p30, e30, none⟩, ⟨some 36, .load T3 (.tmp 35), t31, p31, e31, none⟩, ⟨some 37, .fieldAddr T45 (.tmp 4) 7, t32, p32, e32, none⟩, ⟨some 38, .load T29 (.tmp 37), t33, p33, e33, none⟩, ⟨some 39, .move (.tmp 1), t34, p34, e34, none⟩, ⟨some 40, .move (.tmp 2), t35, p35, e35, none⟩, ⟨some 41, .move (.tmp 10), t36, p36, e36, none⟩, ⟨some 42, .move (.tmp 12), t37, p37, e37, none⟩, ⟨some 43, .indexAddr T23 (.tmp 41) (.tmp 42), t38, p38, e38, none⟩, ⟨some 44, .load T26 (.tmp 43), t39, p39, e39, none⟩, ⟨some 45, .call ⟨.value (.func f75), #[(.tmp 36), (.tmp 38), (.const (.bool false)), (.tmp 39), (.tmp 40), (.tmp 44)], a3⟩, t40, p40, e40, none⟩]) (rest := [⟨some 46, .call ⟨.builtin .append, #[(.tmp 34), (.tmp 45)], #[T22, T22]⟩, t41, p41, e41, none⟩, ⟨some 11, .assign (.tmp 46), t42, p42, e42, none⟩]) [spC [] (v11), spC [] (.pointer (some ⟨w.heap.size, 6, none⟩)), spC [1] (.int .i64 fd.of), spC [] (.pointer (some ⟨w.heap.size, 7, none⟩)), spC [3] (fsv), spC [] (.int .i64 ver), spC [] (.bool flex), spC [] (.slice (some ⟨bl, ol, none⟩) tl.length c), spC [] (.int .i64 (j : Int)), spC [7, 8] (.pointer (some ⟨bl, ol + j * 5, none⟩)), spC [9] (.agg (cl).toArray), spR [2, 4, 5, 6, 10] (fun x w' => Own w' (From w31.heap.size w') 1 x (valueW fd.of (sub ver flex) false flex te').length (octets (valueW fd.of (sub ver flex) false flex te')))] 34 [] hmx he10 (by simp [shape]) (by simp [plainO]) (by simp [spC, spR]) (by simp; omega) ⟨lasts_c _ _ _, lasts_c _ _ _, lasts_c _ _ _, lasts_c _ _ _, lasts_c _ _ _, lasts_c _ _ _, lasts_c _ _ _, lasts_c _ _ _, lasts_c _ _ _, lasts_c _ _ _, lasts_c _ _ _, (fun v w1 w2 f h => h.upTo f (From.mono f.size)), trivial⟩ ?_ ?_
          · refine opsOk_cons ?_ ?_
            · refine op_c fun a' w' hk' hf' hd' K' hK' => ?_
              refine wp_mv (v := v11) (by rw [eval_tmp, hk'.get 11 (by omega), g38_11]) ?_
              exact hK'
            refine opsOk_cons ?_ ?_
            · refine op_c fun a' w' hk' hf' hd' K' hK' => ?_
              refine wp_fieldAddr (b := w.heap.size) (i := 0) (hFlT45.fld (by decide)) (by rw [eval_tmp, hk'.get 4 (by omega), g38_4]) ?_
              rw [show (0 + 6 : Nat) = 6 from rfl]
              exact hK'
            refine opsOk_cons ?_ ?_
            · refine op_c fun a' w' hk' hf' hd' K' hK' => ?_
              refine wp_load0 (j := 6) (v := .int .i64 fd.of) hcT3 (by rw [eval_tmp]; exact hd'.c (nd' := []) 1 (by simp) rfl) (hf'.range hbl4 .nil) rfl ?_
              exact hK'
            refine opsOk_cons ?_ ?_
            · refine op_c fun a' w' hk' hf' hd' K' hK' => ?_
              refine wp_fieldAddr (b := w.heap.size) (i := 0) (hFlT45.fld (by decide)) (by rw [eval_tmp, hk'.get 4 (by omega), g38_4]) ?_
              rw [show (0 + 7 : Nat) = 7 from rfl]
              exact hK'
            refine opsOk_cons ?_ ?_
            · refine op_c fun a' w' hk' hf' hd' K' hK' => ?_
              refine wp_load0 (j := 7) (v := fsv) hcT29 (by rw [eval_tmp]; exact hd'.c (nd' := []) 3 (by simp) rfl) (hf'.range hbl4 .nil) rfl ?_
              exact hK'
            refine opsOk_cons ?_ ?_
            · refine op_c fun a' w' hk' hf' hd' K' hK' => ?_
              refine wp_mv (v := .int .i64 ver) (by rw [eval_tmp, hk'.get 1 (by omega), g38_1]) ?_
              exact hK'
            refine opsOk_cons ?_ ?_
            · refine op_c fun a' w' hk' hf' hd' K' hK' => ?_
              refine wp_mv (v := .bool flex) (by rw [eval_tmp, hk'.get 2 (by omega), g38_2]) ?_
              exact hK'
            refine opsOk_cons ?_ ?_
            · refine op_c fun a' w' hk' hf' hd' K' hK' => ?_
              refine wp_mv (v := .slice (some ⟨bl, ol, none⟩) tl.length c) (by rw [eval_tmp, hk'.get 10 (by omega), g38_10]) ?_
              exact hK'
            refine opsOk_cons ?_ ?_
            · refine op_c fun a' w' hk' hf' hd' K' hK' => ?_
              refine wp_mv (v := .int .i64 (j : Int)) (by rw [eval_tmp, hk'.get 12 (by omega), g38_12]) ?_
              exact hK'
            refine opsOk_cons ?_ ?_
            · refine op_c fun a' w' hk' hf' hd' K' hK' => ?_
              refine wp_ixN (b := bl) (o := ol) (i := j) hs_T23 (by rw [eval_tmp]; exact hd'.c (nd' := []) 7 (by simp) rfl) (by rw [eval_tmp]; exact hd'.c (nd' := []) 8 (by simp) rfl) hjl ?_
              exact hK'
            refine opsOk_cons ?_ ?_
            · refine op_c fun a' w' hk' hf' hd' K' hK' => ?_
              refine wp_loadFlat (cs := cl) (b := bl) (o := ol + j * 5) hFlT26 hrt.length (by rw [eval_tmp]; exact hd'.c (nd' := [7, 8]) 9 (by simp) rfl) (hf'.range hrl .nil) ?_
              exact hK'
            refine opsOk_cons ?_ ?_
            · refine op_r fun a' w' hk' hf' hd' K' hK' => ?_
              refine wp_callR (R := fun x wz => Fr [] w' wz ∧ Own wz (From w'.heap.size wz) 1 x (valueW fd.of (sub ver flex) false flex te').length (octets (valueW fd.of (sub ver flex) false flex te'))) (vs := #[.int .i64 fd.of, fsv, .bool false, .int .i64 ver, .bool flex, .agg (cl).toArray]) hVa.enters (by simp only [List.map_toArray, List.map_cons, List.map_nil]; rw [show a'.eval (.tmp 36) = Value.int .i64 fd.of from (by rw [eval_tmp]; exact hd'.c (nd' := [1]) 2 (by simp) rfl), show a'.eval (.tmp 38) = fsv from (by rw [eval_tmp]; exact hd'.c (nd' := [3]) 4 (by simp) rfl), show a'.eval (.const (.bool false)) = Value.bool false from rfl, show a'.eval (.tmp 39) = Value.int .i64 ver from (by rw [eval_tmp]; exact hd'.c (nd' := []) 5 (by simp) rfl), show a'.eval (.tmp 40) = Value.bool flex from (by rw [eval_tmp]; exact hd'.c (nd' := []) 6 (by simp) rfl), show a'.eval (.tmp 44) = Value.agg (cl).toArray from (by rw [eval_tmp]; exact hd'.c (nd' := [9]) 10 (by simp) rfl)]) (calls_fresh (hVa.call w' A B fsv ver flex false fd.of cl te' (hsub.kept (hfl.tr hf') (by simp) (fun _ h => h)) (hrt.kept hf' (by simp) (fun _ h => h)) (fun b hb => Nat.lt_of_lt_of_le (hA b hb) (hfl.tr hf').size) (fun b hb => Nat.lt_of_lt_of_le (hB b hb) (hfl.tr hf').size) (by omega))) ?_
              rintro x39 w39 ⟨fr39, ow39⟩
              exact hK' x39 w39 (ow39.from hf'.size) fr39
            exact opsOk_nil
          intro a40 w40 k40 f40 hd_40
          have g40_0 : get a40 0 = .agg ([.int .i64 fd.kind, .int .i64 fd.fr, .int .i64 fd.to, .int .i64 fd.nul, .int .i64 fd.tag, .int .i64 fd.df, .int .i64 fd.of, fsv] : List Value).toArray := by rw [k40.get 0 (by omega), g38_0]
          have g40_1 : get a40 1 = .int .i64 ver := by rw [k40.get 1 (by omega), g38_1]
          have g40_2 : get a40 2 = .bool flex := by rw [k40.get 2 (by omega), g38_2]
          have g40_3 : get a40 3 = .agg ([.int .i64 n, sv, .bool nl, lv, uv] : List Value).toArray := by rw [k40.get 3 (by omega), g38_3]
          have g40_4 : get a40 4 = .pointer (some ⟨w.heap.size, 0, none⟩) := by rw [k40.get 4 (by omega), g38_4]
          have g40_7 : get a40 7 = .pointer (some ⟨w2.heap.size, 0, none⟩) := by rw [k40.get 7 (by omega), g38_7]
          have g40_8 : get a40 8 = .slice none 0 0 := by rw [k40.get 8 (by omega), g38_8]
          have g40_9 : get a40 9 = .bool nu := by rw [k40.get 9 (by omega), g38_9]
          have g40_10 : get a40 10 = .slice (some ⟨bl, ol, none⟩) tl.length c := by rw [k40.get 10 (by omega), g38_10]
          have g40_30 : get a40 30 = .int .i64 ((tl.length : Nat) : Int) := by rw [k40.get 30 (by omega), g38_30]
          have g40_31 : get a40 31 = .int .i64 (j : Int) := by rw [k40.get 31 (by omega), g38_31]
          have hz40 : a40.tmps.size = 76 := k40.size.trans hz38
          have hd40 : a40.defers = [] := k40.defers.trans hd38
          have g40_34 : get a40 34 = v11 := hd_40.c (nd' := []) 0 (by simp) rfl
          have hF41 : Fr [] w w40 := hfl.tr f40
          have hL41_w31 : Fr [] w31 w40 := (Fr.refl [] w31).tr f40
          have rb42 := f40.range hbl4 .nil
          have hv : Own w40 (From w31.heap.size w40) 1 (get a40 45) (valueW fd.of (sub ver flex) false flex te').length (octets (valueW fd.of (sub ver flex) false flex te')) := hd_40.at (d := 11) (by simp) rfl
          rw [wpl_cons]
          have ob43 := ho.upTo hL41_w31 (From.mono hL41_w31.size)
          have hSl43 : w4.heap.size ≤ w40.heap.size := Nat.le_trans hSl hL41_w31.size
          refine wp_appO hs_T22 hz_T22 (by rw [eval_tmp, g40_34]) rfl ob43 (hv.octE (by omega)) (by rw [htk, List.length_append] at hpl; rw [List.length_append]; omega) ?_
          rintro v43 w43 fa43 oa43 sp43 bk43
          have ho43 := oa43.imp_A (new_or hSl43 fa43.size)
          have hF43 : Fr [] w w43 := fr_own hF41 fa43 (ob43.from (s0 := w.heap.size) (by omega)) (fun b hb => hb.1)
          have rb44 := fa43.range rb42 (fun r hr => .inl fun e => by have := (ob43.spare_in r hr).1; have := hS0; omega)
          have htN := (htj2.kept hL41_w31 (by simp) (fun _ h => h) : Things _ B _ _).kept fa43 (A' := B) (fun r hr hb => by have := hB _ hb; have := (ob43.spare_in r hr).1; omega) (fun _ h => h)
          have hSN := Nat.le_trans hSl43 fa43.size
          rw [wpl_cons]
          refine wp_as (v := v43) (by rw [eval_tmp, sZ hz40 (by decide)]) ?_
          refine wpl_end fun a45 ha45 => ?_
          have hz45 : a45.tmps.size = 76 := by rw [ha45]; exact (zZ (zZ hz40))
          have hd45 : a45.defers = [] := by rw [ha45]; exact (dZ (dZ hd40))
          have g45_0 : get a45 0 = .agg ([.int .i64 fd.kind, .int .i64 fd.fr, .int .i64 fd.to, .int .i64 fd.nul, .int .i64 fd.tag, .int .i64 fd.df, .int .i64 fd.of, fsv] : List Value).toArray := by rw [ha45, nZ (by decide), nZ (by decide), g40_0]
          have g45_1 : get a45 1 = .int .i64 ver := by rw [ha45, nZ (by decide), nZ (by decide), g40_1]
          have g45_2 : get a45 2 = .bool flex := by rw [ha45, nZ (by decide), nZ (by decide), g40_2]
          have g45_3 : get a45 3 = .agg ([.int .i64 n, sv, .bool nl, lv, uv] : List Value).toArray := by rw [ha45, nZ (by decide), nZ (by decide), g40_3]
          have g45_4 : get a45 4 = .pointer (some ⟨w.heap.size, 0, none⟩) := by rw [ha45, nZ (by decide), nZ (by decide), g40_4]
          have g45_7 : get a45 7 = .pointer (some ⟨w2.heap.size, 0, none⟩) := by rw [ha45, nZ (by decide), nZ (by decide), g40_7]
          have g45_8 : get a45 8 = .slice none 0 0 := by rw [ha45, nZ (by decide), nZ (by decide), g40_8]
          have g45_9 : get a45 9 = .bool nu := by rw [ha45, nZ (by decide), nZ (by decide), g40_9]
          have g45_10 : get a45 10 = .slice (some ⟨bl, ol, none⟩) tl.length c := by rw [ha45, nZ (by decide), nZ (by decide), g40_10]
          have g45_11 : get a45 11 = v43 := by rw [ha45, sZ (zZ hz40) (by decide)]
          have g45_30 : get a45 30 = .int .i64 ((tl.length : Nat) : Int) := by rw [ha45, nZ (by decide), nZ (by decide), g40_30]
          have g45_31 : get a45 31 = .int .i64 (j : Int) := by rw [ha45, nZ (by decide), nZ (by decide), g40_31]
          clear ha45
          refine hK36 a45 w43 ?_
          refine wp_reg ?_
          rw [wpl_cons]
          refine wp_add (k1 := .i64) (i := (j : Int)) (j := 1) (by rw [eval_tmp, g45_31]) rfl ?_
          rw [show (IntKind.i64.wrap (((j : Int) : Int) + (1 : Int)) : Int) = (((j + 1 : Nat) : Int) : Int) from by simp only [IntKind.wrap, IntKind.bits, IntKind.signed]; simp; omega]
          rw [wpl_cons]
          refine wp_mv (v := .int .i64 ((j + 1 : Nat) : Int)) (by rw [eval_tmp, sZ hz45 (by decide)]) ?_
          refine wpl_end fun a46 ha46 => ?_
          have hz46 : a46.tmps.size = 76 := by rw [ha46]; exact (zZ (zZ hz45))
          have hd46 : a46.defers = [] := by rw [ha46]; exact (dZ (dZ hd45))
          have g46_0 : get a46 0 = .agg ([.int .i64 fd.kind, .int .i64 fd.fr, .int .i64 fd.to, .int .i64 fd.nul, .int .i64 fd.tag, .int .i64 fd.df, .int .i64 fd.of, fsv] : List Value).toArray := by rw [ha46, nZ (by decide), nZ (by decide), g45_0]
          have g46_1 : get a46 1 = .int .i64 ver := by rw [ha46, nZ (by decide), nZ (by decide), g45_1]
          have g46_2 : get a46 2 = .bool flex := by rw [ha46, nZ (by decide), nZ (by decide), g45_2]
          have g46_3 : get a46 3 = .agg ([.int .i64 n, sv, .bool nl, lv, uv] : List Value).toArray := by rw [ha46, nZ (by decide), nZ (by decide), g45_3]
          have g46_4 : get a46 4 = .pointer (some ⟨w.heap.size, 0, none⟩) := by rw [ha46, nZ (by decide), nZ (by decide), g45_4]
          have g46_7 : get a46 7 = .pointer (some ⟨w2.heap.size, 0, none⟩) := by rw [ha46, nZ (by decide), nZ (by decide), g45_7]
          have g46_8 : get a46 8 = .slice none 0 0 := by rw [ha46, nZ (by decide), nZ (by decide), g45_8]
          have g46_9 : get a46 9 = .bool nu := by rw [ha46, nZ (by decide), nZ (by decide), g45_9]
          have g46_10 : get a46 10 = .slice (some ⟨bl, ol, none⟩) tl.length c := by rw [ha46, nZ (by decide), nZ (by decide), g45_10]
          have g46_11 : get a46 11 = v43 := by rw [ha46, nZ (by decide), nZ (by decide), g45_11]
          have g46_30 : get a46 30 = .int .i64 ((tl.length : Nat) : Int) := by rw [ha46, nZ (by decide), nZ (by decide), g45_30]
          have g46_31 : get a46 31 = .int .i64 ((j + 1 : Nat) : Int) := by rw [ha46, sZ (zZ hz45) (by decide)]
          clear ha46
          rw [← hq] at g46_10
          refine ⟨m - 1, by omega, j + 1, _, hz46, hd46, g46_0, g46_1, g46_2, g46_3, g46_4, g46_7, g46_8, g46_9, g46_10, g46_11, g46_30, g46_31, by omega, ?_, rb44, htN.kept (Fr.refl [] w43) (by simp) (fun _ h => h), hF43, Nat.le_trans hSN (Fr.refl [] w43).size⟩
          rw [htk, ← List.append_assoc]; exact ho43.upTo (Fr.refl [] w43) (From.mono (Fr.refl [] w43).size)
        · have hj0 : j = tl.length := by simp at hc35; omega
          rw [hj0, List.take_length] at ho
          refine wp_exit ?_
          show K28 a33 w31
          refine hK28 a33 w31 ?_
          refine wp_seq_k fun K47 hK47 => ?_
          refine wp_reg ?_
          rw [wpl_cons]
          refine wp_mv (v := v11) (by rw [eval_tmp, g33_11]) ?_
          rw [wpl_cons]
          refine wp_as (v := v11) (by rw [eval_tmp, sZ hz33 (by decide)]) ?_
          refine wpl_end fun a48 ha48 => ?_
          have hz48 : a48.tmps.size = 76 := by rw [ha48]; exact (zZ (zZ hz33))
          have hd48 : a48.defers = [] := by rw [ha48]; exact (dZ (dZ hd33))
          have g48_8 : get a48 8 = v11 := by rw [ha48, sZ (zZ hz33) (by decide)]
          clear ha48
          refine hK47 a48 w31 ?_
          refine wp_ret ?_
          rw [hW]
          exact ⟨hd48, _, results_is hres g48_8, _, rfl, hfl, ho.from (by omega)⟩
    refine wp_seq_k fun K49 hK49 => ?_
    refine wp_reg ?_
    rw [wpl_cons]
    refine wp_mv (v := .bool nu) (by rw [eval_tmp, g20_9]) ?_
    refine wpl_end fun a50 ha50 => ?_
    have hz50 : a50.tmps.size = 76 := by rw [ha50]; exact (zZ hz20)
    have hd50 : a50.defers = [] := by rw [ha50]; exact (dZ hd20)
    have g50_0 : get a50 0 = .agg ([.int .i64 fd.kind, .int .i64 fd.fr, .int .i64 fd.to, .int .i64 fd.nul, .int .i64 fd.tag, .int .i64 fd.df, .int .i64 fd.of, fsv] : List Value).toArray := by rw [ha50, nZ (by decide), g20_0]
    have g50_1 : get a50 1 = .int .i64 ver := by rw [ha50, nZ (by decide), g20_1]
    have g50_2 : get a50 2 = .bool flex := by rw [ha50, nZ (by decide), g20_2]
    have g50_3 : get a50 3 = .agg ([.int .i64 n, sv, .bool nl, lv, uv] : List Value).toArray := by rw [ha50, nZ (by decide), g20_3]
    have g50_4 : get a50 4 = .pointer (some ⟨w.heap.size, 0, none⟩) := by rw [ha50, nZ (by decide), g20_4]
    have g50_7 : get a50 7 = .pointer (some ⟨w2.heap.size, 0, none⟩) := by rw [ha50, nZ (by decide), g20_7]
    have g50_8 : get a50 8 = .slice none 0 0 := by rw [ha50, nZ (by decide), g20_8]
    have g50_9 : get a50 9 = .bool nu := by rw [ha50, nZ (by decide), g20_9]
    have g50_10 : get a50 10 = .slice q19 ((l.take 32767).length) c19 := by rw [ha50, nZ (by decide), g20_10]
    have g50_23 : get a50 23 = .bool nu := by rw [ha50, sZ hz20 (by decide)]
    clear ha50
    refine hK49 a50 w9 ?_
    refine wp_cond_split (t := nu) (by rw [eval_tmp, g50_23]) (fun hc51 => ?_) (fun hc51 => ?_)
    · have hnt : nu = true := hc51
      have htl0 : tl = [] := by rw [htl, hnt]; rfl
      refine wp_reg ?_
      rw [wpl_cons]
      refine wp_as (v := .slice none 0 0) rfl ?_
      refine wpl_end fun a52 ha52 => ?_
      have hz52 : a52.tmps.size = 76 := by rw [ha52]; exact (zZ hz50)
      have hd52 : a52.defers = [] := by rw [ha52]; exact (dZ hd50)
      have g52_0 : get a52 0 = .agg ([.int .i64 fd.kind, .int .i64 fd.fr, .int .i64 fd.to, .int .i64 fd.nul, .int .i64 fd.tag, .int .i64 fd.df, .int .i64 fd.of, fsv] : List Value).toArray := by rw [ha52, nZ (by decide), g50_0]
      have g52_1 : get a52 1 = .int .i64 ver := by rw [ha52, nZ (by decide), g50_1]
      have g52_2 : get a52 2 = .bool flex := by rw [ha52, nZ (by decide), g50_2]
      have g52_3 : get a52 3 = .agg ([.int .i64 n, sv, .bool nl, lv, uv] : List Value).toArray := by rw [ha52, nZ (by decide), g50_3]
      have g52_4 : get a52 4 = .pointer (some ⟨w.heap.size, 0, none⟩) := by rw [ha52, nZ (by decide), g50_4]
      have g52_7 : get a52 7 = .pointer (some ⟨w2.heap.size, 0, none⟩) := by rw [ha52, nZ (by decide), g50_7]
      have g52_8 : get a52 8 = .slice none 0 0 := by rw [ha52, nZ (by decide), g50_8]
      have g52_9 : get a52 9 = .bool nu := by rw [ha52, nZ (by decide), g50_9]
      have g52_10 : get a52 10 = .slice none 0 0 := by rw [ha52, sZ hz50 (by decide)]
      clear ha52
      have hq10 := g52_10
      rw [show (.slice none 0 0 : Value) = .slice none tl.length 0 from by rw [htl0]; rfl] at hq10
      exact hJ22 a52 w9 ⟨none, 0, hz52, hd52, g52_0, g52_1, g52_2, g52_3, g52_4, g52_7, g52_8, g52_9, hq10, by rw [htl0]; exact .inl ⟨.inl rfl, rfl⟩, rb11, hF10, hL10_w4.size⟩
    · have hnf : nu = false := hc51
      have htl0 : tl = l.take 32767 := by rw [htl, hnf]; rfl
      refine wp_skip ?_
      have hq10 := g50_10
      rw [show (.slice q19 ((l.take 32767).length) c19 : Value) = .slice q19 tl.length c19 from by rw [htl0]] at hq10
      exact hJ22 a50 w9 ⟨q19, c19, hz50, hd50, g50_0, g50_1, g50_2, g50_3, g50_4, g50_7, g50_8, g50_9, hq10, by rw [htl0]; exact hx19.kept (Fr.refl [] w9) (by simp) (fun _ h => h), rb11, hF10, hL10_w4.size⟩
  · have n11 : fd.kind ≠ 11 := by simpa using hc17
    refine wp_skip ?_
    refine hK14 a16 w9 (then_up ?_)
    refine then_id (wp_seq_k fun K53 hK53 => ?_)
    refine wp_seq_k fun K54 hK54 => ?_
    by_cases h10 : fd.kind = 10; rotate_left
    · refine wp_regG ?_
      refine wg_cons ?_
      refine wp_fieldAddr (b := w.heap.size) (i := 0) (hFlT45.fld (by decide)) (by rw [eval_tmp, g16_4]) ?_
      rw [show (0 + 0 : Nat) = 0 from rfl]
      refine wg_cons ?_
      refine wp_load0 (j := 0) (v := .int .i64 fd.kind) hcT3 (by rw [eval_tmp, sZ hz16 (by decide)]) rb11 rfl ?_
      refine wg_cons ?_
      refine wp_eqlF (k1 := .i64) (i := fd.kind) (j := 10) h10 (by rw [eval_tmp, sZ (zZ hz16) (by decide)]) rfl ?_
      refine wg_cons ?_
      refine wp_mv (v := .bool false) (by rw [eval_tmp, sZ (zZ (zZ hz16)) (by decide)]) ?_
      refine wg_noT (dj := 52) rfl (lt_sz (zZ (zZ (zZ (zZ hz16)))) (by decide)) (by rw [sZ (zZ (zZ (zZ hz16))) (by decide)]) ?_
      refine wg_noT (dj := 52) rfl (lt_sz (zZ (zZ (zZ (zZ (zZ hz16))))) (by decide)) (by rw [nZ (by decide), sZ (zZ (zZ (zZ hz16))) (by decide)]) ?_
      refine wg_noT (dj := 52) rfl (lt_sz (zZ (zZ (zZ (zZ (zZ (zZ hz16)))))) (by decide)) (by rw [nZ (by decide), nZ (by decide), sZ (zZ (zZ (zZ hz16))) (by decide)]) ?_
      refine wg_cons ?_
      refine wp_pickNo (v := .bool false) (by rw [eval_tmp, nZ (by decide), nZ (by decide), nZ (by decide), sZ (zZ (zZ (zZ hz16))) (by decide)]) rfl ?_
      refine wg_end fun a55 ha55 => ?_
      have hz55 : a55.tmps.size = 76 := by rw [ha55]; exact (zZ (zZ (zZ (zZ (zZ (zZ (zZ (zZ hz16))))))))
      have hd55 : a55.defers = [] := by rw [ha55]; exact (dZ (dZ (dZ (dZ (dZ (dZ (dZ (dZ hd16))))))))
      have g55_1 : get a55 1 = .int .i64 ver := by rw [ha55]; (repeat rw [nZ (by decide)]); rw [g16_1]
      have g55_2 : get a55 2 = .bool flex := by rw [ha55]; (repeat rw [nZ (by decide)]); rw [g16_2]
      have g55_4 : get a55 4 = .pointer (some ⟨w.heap.size, 0, none⟩) := by rw [ha55]; (repeat rw [nZ (by decide)]); rw [g16_4]
      have g55_7 : get a55 7 = .pointer (some ⟨w2.heap.size, 0, none⟩) := by rw [ha55]; (repeat rw [nZ (by decide)]); rw [g16_7]
      have g55_9 : get a55 9 = .bool nu := by rw [ha55]; (repeat rw [nZ (by decide)]); rw [g16_9]
      have g55_56 : get a55 56 = .bool false := by rw [ha55, sZ (zZ (zZ (zZ (zZ (zZ (zZ (zZ hz16))))))) (by decide)]
      clear ha55
      refine hK54 a55 w9 ?_
      refine wp_cond_split (t := false) (by rw [eval_tmp, g55_56]) (fun h => by cases h) (fun _ => ?_)
      refine wp_skip ?_
      refine hK53 a55 w9 (then_up ?_)
      refine then_id (wp_seq_k fun K57 hK57 => ?_)
      have hW : fieldV fd.kind fd.nul fd.of (sub ver flex) ver flex (.mk n s nl l u) = valueW fd.kind (sub ver flex) nu flex (.mk n s nl l u) := by rw [fieldV, if_neg n11, if_neg (fun h => h10 h.1), ← hnu]
      rw [hW] at hlen
      refine wp_reg ?_
      rw [wpl_cons]
      refine wp_fieldAddr (b := w.heap.size) (i := 0) (hFlT45.fld (by decide)) (by rw [eval_tmp, g55_4]) ?_
      rw [show (0 + 0 : Nat) = 0 from rfl]
      rw [wpl_cons]
      refine wp_load0 (j := 0) (v := .int .i64 fd.kind) hcT3 (by rw [eval_tmp, sZ hz55 (by decide)]) rb11 rfl ?_
      rw [wpl_cons]
      refine wp_fieldAddr (b := w.heap.size) (i := 0) (hFlT45.fld (by decide)) (by rw [eval_tmp, nZ (by decide), nZ (by decide), g55_4]) ?_
      rw [show (0 + 7 : Nat) = 7 from rfl]
      rw [wpl_cons]
      refine wp_load0 (j := 7) (v := fsv) hcT29 (by rw [eval_tmp, sZ (zZ (zZ hz55)) (by decide)]) rb11 rfl ?_
      rw [wpl_cons]
      refine wp_mv (v := .bool nu) (by rw [eval_tmp, nZ (by decide), nZ (by decide), nZ (by decide), nZ (by decide), g55_9]) ?_
      rw [wpl_cons]
      refine wp_mv (v := .int .i64 ver) (by rw [eval_tmp, nZ (by decide), nZ (by decide), nZ (by decide), nZ (by decide), nZ (by decide), g55_1]) ?_
      rw [wpl_cons]
      refine wp_mv (v := .bool flex) (by rw [eval_tmp, nZ (by decide), nZ (by decide), nZ (by decide), nZ (by decide), nZ (by decide), nZ (by decide), g55_2]) ?_
      rw [wpl_cons]
      refine wp_loadFlat (cs := [.int .i64 n, sv, .bool nl, lv, uv]) (b := w2.heap.size) (o := 0) hFlT26 rfl (by rw [eval_tmp, nZ (by decide), nZ (by decide), nZ (by decide), nZ (by decide), nZ (by decide), nZ (by decide), nZ (by decide), g55_7]) rb12 ?_
      rw [wpl_cons]
      refine wp_callR (R := fun x wz => Fr [] w9 wz ∧ Own wz (From w9.heap.size wz) 1 x (valueW fd.kind (sub ver flex) nu flex (.mk n s nl l u)).length (octets (valueW fd.kind (sub ver flex) nu flex (.mk n s nl l u)))) (vs := #[.int .i64 fd.kind, fsv, .bool nu, .int .i64 ver, .bool flex, .agg ([.int .i64 n, sv, .bool nl, lv, uv] : List Value).toArray]) hVa.enters (by simp only [List.map_toArray, List.map_cons, List.map_nil]; rw [show ((((((((a55.put (some 67) (.pointer (some ⟨w.heap.size, 0, none⟩))).put (some 68) (.int .i64 fd.kind)).put (some 69) (.pointer (some ⟨w.heap.size, 7, none⟩))).put (some 70) fsv).put (some 71) (.bool nu)).put (some 72) (.int .i64 ver)).put (some 73) (.bool flex)).put (some 74) (.agg ([.int .i64 n, sv, .bool nl, lv, uv] : List Value).toArray)).eval (.tmp 68) = Value.int .i64 fd.kind from (by rw [eval_tmp, nZ (by decide), nZ (by decide), nZ (by decide), nZ (by decide), nZ (by decide), nZ (by decide), sZ (zZ hz55) (by decide)]), show ((((((((a55.put (some 67) (.pointer (some ⟨w.heap.size, 0, none⟩))).put (some 68) (.int .i64 fd.kind)).put (some 69) (.pointer (some ⟨w.heap.size, 7, none⟩))).put (some 70) fsv).put (some 71) (.bool nu)).put (some 72) (.int .i64 ver)).put (some 73) (.bool flex)).put (some 74) (.agg ([.int .i64 n, sv, .bool nl, lv, uv] : List Value).toArray)).eval (.tmp 70) = fsv from (by rw [eval_tmp, nZ (by decide), nZ (by decide), nZ (by decide), nZ (by decide), sZ (zZ (zZ (zZ hz55))) (by decide)]), show ((((((((a55.put (some 67) (.pointer (some ⟨w.heap.size, 0, none⟩))).put (some 68) (.int .i64 fd.kind)).put (some 69) (.pointer (some ⟨w.heap.size, 7, none⟩))).put (some 70) fsv).put (some 71) (.bool nu)).put (some 72) (.int .i64 ver)).put (some 73) (.bool flex)).put (some 74) (.agg ([.int .i64 n, sv, .bool nl, lv, uv] : List Value).toArray)).eval (.tmp 71) = Value.bool nu from (by rw [eval_tmp, nZ (by decide), nZ (by decide), nZ (by decide), sZ (zZ (zZ (zZ (zZ hz55)))) (by decide)]), show ((((((((a55.put (some 67) (.pointer (some ⟨w.heap.size, 0, none⟩))).put (some 68) (.int .i64 fd.kind)).put (some 69) (.pointer (some ⟨w.heap.size, 7, none⟩))).put (some 70) fsv).put (some 71) (.bool nu)).put (some 72) (.int .i64 ver)).put (some 73) (.bool flex)).put (some 74) (.agg ([.int .i64 n, sv, .bool nl, lv, uv] : List Value).toArray)).eval (.tmp 72) = Value.int .i64 ver from (by rw [eval_tmp, nZ (by decide), nZ (by decide), sZ (zZ (zZ (zZ (zZ (zZ hz55))))) (by decide)]), show ((((((((a55.put (some 67) (.pointer (some ⟨w.heap.size, 0, none⟩))).put (some 68) (.int .i64 fd.kind)).put (some 69) (.pointer (some ⟨w.heap.size, 7, none⟩))).put (some 70) fsv).put (some 71) (.bool nu)).put (some 72) (.int .i64 ver)).put (some 73) (.bool flex)).put (some 74) (.agg ([.int .i64 n, sv, .bool nl, lv, uv] : List Value).toArray)).eval (.tmp 73) = Value.bool flex from (by rw [eval_tmp, nZ (by decide), sZ (zZ (zZ (zZ (zZ (zZ (zZ hz55)))))) (by decide)]), show ((((((((a55.put (some 67) (.pointer (some ⟨w.heap.size, 0, none⟩))).put (some 68) (.int .i64 fd.kind)).put (some 69) (.pointer (some ⟨w.heap.size, 7, none⟩))).put (some 70) fsv).put (some 71) (.bool nu)).put (some 72) (.int .i64 ver)).put (some 73) (.bool flex)).put (some 74) (.agg ([.int .i64 n, sv, .bool nl, lv, uv] : List Value).toArray)).eval (.tmp 74) = Value.agg ([.int .i64 n, sv, .bool nl, lv, uv] : List Value).toArray from (by rw [eval_tmp, sZ (zZ (zZ (zZ (zZ (zZ (zZ (zZ hz55))))))) (by decide)])]) (calls_fresh (hVa.call w9 A B fsv ver flex nu fd.kind _ (.mk n s nl l u) (hsub.kept hF10 (by simp) (fun _ h => h)) (ht0.kept hF10 (by simp) (fun _ h => h)) (fun b hb => Nat.lt_of_lt_of_le (hA b hb) hF10.size) (fun b hb => Nat.lt_of_lt_of_le (hB b hb) hF10.size) hlen)) ?_
      rintro x58 w58 ⟨fr58, ow58⟩
      have hF59 : Fr [] w w58 := hF10.tr fr58
      have rb60 := fr58.range rb11 .nil
      have rb61 := fr58.range rb12 .nil
      rw [wpl_cons]
      refine wp_as (v := x58) (by rw [eval_tmp, sZ (zZ (zZ (zZ (zZ (zZ (zZ (zZ (zZ hz55)))))))) (by decide)]) ?_
      refine wpl_end fun a62 ha62 => ?_
      have hz62 : a62.tmps.size = 76 := by rw [ha62]; exact (zZ (zZ (zZ (zZ (zZ (zZ (zZ (zZ (zZ (zZ hz55))))))))))
      have hd62 : a62.defers = [] := by rw [ha62]; exact (dZ (dZ (dZ (dZ (dZ (dZ (dZ (dZ (dZ (dZ hd55))))))))))
      have g62_8 : get a62 8 = x58 := by rw [ha62, sZ (zZ (zZ (zZ (zZ (zZ (zZ (zZ (zZ (zZ hz55))))))))) (by decide)]
      clear ha62
      refine hK57 a62 w58 (then_up ?_)
      refine wp_ret ?_
      rw [hW]
      exact ⟨hd62, _, results_is hres g62_8, _, rfl, hF59, ow58.from (by have := hF10.size; omega)⟩
    · by_cases hnn : fd.nul ≥ 0
      · refine wp_regG ?_
        refine wg_cons ?_
        refine wp_fieldAddr (b := w.heap.size) (i := 0) (hFlT45.fld (by decide)) (by rw [eval_tmp, g16_4]) ?_
        rw [show (0 + 0 : Nat) = 0 from rfl]
        refine wg_cons ?_
        refine wp_load0 (j := 0) (v := .int .i64 fd.kind) hcT3 (by rw [eval_tmp, sZ hz16 (by decide)]) rb11 rfl ?_
        refine wg_cons ?_
        refine wp_eqlT (k1 := .i64) (i := fd.kind) (j := 10) h10 (by rw [eval_tmp, sZ (zZ hz16) (by decide)]) rfl ?_
        refine wg_cons ?_
        refine wp_mv (v := .bool true) (by rw [eval_tmp, sZ (zZ (zZ hz16)) (by decide)]) ?_
        refine wg_yes (dj := 52) rfl (lt_sz (zZ (zZ (zZ (zZ hz16)))) (by decide)) (by rw [sZ (zZ (zZ (zZ hz16))) (by decide)]) ?_
        refine wp_fieldAddr (b := w.heap.size) (i := 0) (hFlT45.fld (by decide)) (by rw [eval_tmp, nZ (by decide), nZ (by decide), nZ (by decide), nZ (by decide), g16_4]) ?_
        rw [show (0 + 3 : Nat) = 3 from rfl]
        refine wg_yes (dj := 52) rfl (lt_sz (zZ (zZ (zZ (zZ (zZ hz16))))) (by decide)) (by rw [nZ (by decide), sZ (zZ (zZ (zZ hz16))) (by decide)]) ?_
        refine wp_load0 (j := 3) (v := .int .i64 fd.nul) hcT3 (by rw [eval_tmp, sZ (zZ (zZ (zZ (zZ hz16)))) (by decide)]) rb11 rfl ?_
        refine wg_yes (dj := 52) rfl (lt_sz (zZ (zZ (zZ (zZ (zZ (zZ hz16)))))) (by decide)) (by rw [nZ (by decide), nZ (by decide), sZ (zZ (zZ (zZ hz16))) (by decide)]) ?_
        refine wp_geqT (k1 := .i64) (i := fd.nul) (j := 0) hnn (by rw [eval_tmp, sZ (zZ (zZ (zZ (zZ (zZ hz16))))) (by decide)]) rfl ?_
        refine wg_cons ?_
        refine wp_pickYes (v := .bool true) (by rw [eval_tmp, nZ (by decide), nZ (by decide), nZ (by decide), sZ (zZ (zZ (zZ hz16))) (by decide)]) (by rw [eval_tmp, sZ (zZ (zZ (zZ (zZ (zZ (zZ hz16)))))) (by decide)]) ?_
        refine wg_end fun a63 ha63 => ?_
        have hz63 : a63.tmps.size = 76 := by rw [ha63]; exact (zZ (zZ (zZ (zZ (zZ (zZ (zZ (zZ hz16))))))))
        have hd63 : a63.defers = [] := by rw [ha63]; exact (dZ (dZ (dZ (dZ (dZ (dZ (dZ (dZ hd16))))))))
        have g63_1 : get a63 1 = .int .i64 ver := by rw [ha63]; (repeat rw [nZ (by decide)]); rw [g16_1]
        have g63_2 : get a63 2 = .bool flex := by rw [ha63]; (repeat rw [nZ (by decide)]); rw [g16_2]
        have g63_4 : get a63 4 = .pointer (some ⟨w.heap.size, 0, none⟩) := by rw [ha63]; (repeat rw [nZ (by decide)]); rw [g16_4]
        have g63_7 : get a63 7 = .pointer (some ⟨w2.heap.size, 0, none⟩) := by rw [ha63]; (repeat rw [nZ (by decide)]); rw [g16_7]
        have g63_9 : get a63 9 = .bool nu := by rw [ha63]; (repeat rw [nZ (by decide)]); rw [g16_9]
        have g63_56 : get a63 56 = .bool true := by rw [ha63, sZ (zZ (zZ (zZ (zZ (zZ (zZ (zZ hz16))))))) (by decide)]
        clear ha63
        refine hK54 a63 w9 ?_
        refine wp_cond_split (t := true) (by rw [eval_tmp, g63_56]) (fun _ => ?_) (fun h => by cases h)
        refine wp_seq_k fun K65 hK65 => ?_
        refine wp_seq_k fun K66 hK66 => ?_
        refine wp_reg ?_
        rw [wpl_cons]
        refine wp_mv (v := .bool nu) (by rw [eval_tmp, g63_9]) ?_
        refine wpl_end fun a67 ha67 => ?_
        have hz67 : a67.tmps.size = 76 := by rw [ha67]; exact (zZ hz63)
        have hd67 : a67.defers = [] := by rw [ha67]; exact (dZ hd63)
        have g67_1 : get a67 1 = .int .i64 ver := by rw [ha67, nZ (by decide), g63_1]
        have g67_2 : get a67 2 = .bool flex := by rw [ha67, nZ (by decide), g63_2]
        have g67_4 : get a67 4 = .pointer (some ⟨w.heap.size, 0, none⟩) := by rw [ha67, nZ (by decide), g63_4]
        have g67_7 : get a67 7 = .pointer (some ⟨w2.heap.size, 0, none⟩) := by rw [ha67, nZ (by decide), g63_7]
        have g67_57 : get a67 57 = .bool nu := by rw [ha67, sZ hz63 (by decide)]
        clear ha67
        refine hK66 a67 w9 ?_
        refine wp_cond_split (t := nu) (by rw [eval_tmp, g67_57]) (fun hc68 => ?_) (fun hc68 => ?_)
        · have hnt : nu = true := hc68
          refine wp_seq_k fun K69 hK69 => ?_
          have hW : fieldV fd.kind fd.nul fd.of (sub ver flex) ver flex (.mk n s nl l u) = fixedW (-1) 1 := by rw [fieldV, if_neg n11, if_pos ⟨h10, hnn⟩, ← hnu, hnt]; rfl
          refine wp_reg ?_
          rw [wpl_cons]
          refine wp_callR (R := fun x wz => Fr [] w9 wz ∧ Own wz (From w9.heap.size wz) 1 x (fixedW (-1) 1).length (octets (fixedW (-1) 1))) (vs := #[.int .i64 (-1), .int .i64 1]) hFx.enters (by simp [eval_const]) (calls_fresh (hFx.call w9 (-1) 1 (by decide))) ?_
          rintro x70 w70 ⟨fr70, ow70⟩
          have hF71 : Fr [] w w70 := hF10.tr fr70
          have rb72 := fr70.range rb11 .nil
          have rb73 := fr70.range rb12 .nil
          rw [wpl_cons]
          refine wp_as (v := x70) (by rw [eval_tmp, sZ hz67 (by decide)]) ?_
          refine wpl_end fun a74 ha74 => ?_
          have hz74 : a74.tmps.size = 76 := by rw [ha74]; exact (zZ (zZ hz67))
          have hd74 : a74.defers = [] := by rw [ha74]; exact (dZ (dZ hd67))
          have g74_8 : get a74 8 = x70 := by rw [ha74, sZ (zZ hz67) (by decide)]
          clear ha74
          refine hK69 a74 w70 ?_
          refine wp_ret ?_
          rw [hW]
          exact ⟨hd74, _, results_is hres g74_8, _, rfl, hF71, ow70.from (by have := hF10.size; omega)⟩
        · have hnf : nu = false := hc68
          refine wp_skip ?_
          refine hK65 a67 w9 ?_
          refine wp_seq_k fun K75 hK75 => ?_
          have hW : fieldV fd.kind fd.nul fd.of (sub ver flex) ver flex (.mk n s nl l u) = fixedW 1 1 ++ sub ver flex (.mk n s nl l u) := by rw [fieldV, if_neg n11, if_pos ⟨h10, hnn⟩, ← hnu, hnf]; rfl
          rw [hW, List.length_append] at hlen
          have hle0 := hF10.size
          refine wp_drawR (os := [⟨some 59, .call ⟨.value (.func f76), #[(.const (.int .i64 1)), (.const (.int .i64 1))], a5⟩, t58, p58, e58, none⟩, ⟨some 60, .fieldAddr T45 (.tmp 4) 7, t59, p59, e59, none⟩, ⟨some 61, .load T29 (.tmp 60), t60, p60, e60, none⟩, ⟨some 62, .move (.tmp 1), t61, p61, e61, none⟩, ⟨some 63, .move (.tmp 2), t62, p62, e62, none⟩, ⟨some 64, .load T26 (.tmp 7), t63, p63, e63, none⟩, ⟨some 65, .call ⟨.value (.func f26), #[(.tmp 61), (.tmp 62), (.tmp 63), (.tmp 64)], a6⟩, t64, p64, e64, none⟩]) (rest := [⟨some 66, .call ⟨.builtin .append, #[(.tmp 59), (.tmp 65)], #[T22, T22]⟩, t65, p65, e65, none⟩, ⟨some 8, .assign (.tmp 66), t66, p66, e66, none⟩]) [spR [] (fun x w' => Own w' (From w9.heap.size w') 1 x (fixedW 1 1).length (octets (fixedW 1 1))), spC [] (.pointer (some ⟨w.heap.size, 7, none⟩)), spC [1] (fsv), spC [] (.int .i64 ver), spC [] (.bool flex), spC [] (.agg ([.int .i64 n, sv, .bool nl, lv, uv] : List Value).toArray), spR [2, 3, 4, 5] (fun x w' => Own w' (From w9.heap.size w') 1 x (sub ver flex (.mk n s nl l u)).length (octets (sub ver flex (.mk n s nl l u))))] 59 [] hmx he16 (by simp [shape]) (by simp [plainO]) (by simp [spC, spR]) (by simp; omega) ⟨(fun v w1 w2 f h => h.upTo f (From.mono f.size)), lasts_c _ _ _, lasts_c _ _ _, lasts_c _ _ _, lasts_c _ _ _, lasts_c _ _ _, (fun v w1 w2 f h => h.upTo f (From.mono f.size)), trivial⟩ ?_ ?_
          · refine opsOk_cons ?_ ?_
            · refine op_r fun a' w' hk' hf' hd' K' hK' => ?_
              refine wp_callR (R := fun x wz => Fr [] w' wz ∧ Own wz (From w'.heap.size wz) 1 x (fixedW 1 1).length (octets (fixedW 1 1))) (vs := #[.int .i64 1, .int .i64 1]) hFx.enters (by simp [eval_const]) (calls_fresh (hFx.call w' 1 1 (by decide))) ?_
              rintro x76 w76 ⟨fr76, ow76⟩
              exact hK' x76 w76 (ow76.from hf'.size) fr76
            refine opsOk_cons ?_ ?_
            · refine op_c fun a' w' hk' hf' hd' K' hK' => ?_
              refine wp_fieldAddr (b := w.heap.size) (i := 0) (hFlT45.fld (by decide)) (by rw [eval_tmp, hk'.get 4 (by omega), g67_4]) ?_
              rw [show (0 + 7 : Nat) = 7 from rfl]
              exact hK'
            refine opsOk_cons ?_ ?_
            · refine op_c fun a' w' hk' hf' hd' K' hK' => ?_
              refine wp_load0 (j := 7) (v := fsv) hcT29 (by rw [eval_tmp]; exact hd'.c (nd' := []) 1 (by simp) rfl) (hf'.range rb11 .nil) rfl ?_
              exact hK'
            refine opsOk_cons ?_ ?_
            · refine op_c fun a' w' hk' hf' hd' K' hK' => ?_
              refine wp_mv (v := .int .i64 ver) (by rw [eval_tmp, hk'.get 1 (by omega), g67_1]) ?_
              exact hK'
            refine opsOk_cons ?_ ?_
            · refine op_c fun a' w' hk' hf' hd' K' hK' => ?_
              refine wp_mv (v := .bool flex) (by rw [eval_tmp, hk'.get 2 (by omega), g67_2]) ?_
              exact hK'
            refine opsOk_cons ?_ ?_
            · refine op_c fun a' w' hk' hf' hd' K' hK' => ?_
              refine wp_loadFlat (cs := [.int .i64 n, sv, .bool nl, lv, uv]) (b := w2.heap.size) (o := 0) hFlT26 rfl (by rw [eval_tmp, hk'.get 7 (by omega), g67_7]) (hf'.range rb12 .nil) ?_
              exact hK'
            refine opsOk_cons ?_ ?_
            · refine op_r fun a' w' hk' hf' hd' K' hK' => ?_
              refine wp_callR (R := fun x wz => Fr [] w' wz ∧ Own wz (From w'.heap.size wz) 1 x (sub ver flex (.mk n s nl l u)).length (octets (sub ver flex (.mk n s nl l u)))) (vs := #[fsv, .int .i64 ver, .bool flex, .agg ([.int .i64 n, sv, .bool nl, lv, uv] : List Value).toArray]) hPa.enters (by simp only [List.map_toArray, List.map_cons, List.map_nil]; rw [show a'.eval (.tmp 61) = fsv from (by rw [eval_tmp]; exact hd'.c (nd' := [1]) 2 (by simp) rfl), show a'.eval (.tmp 62) = Value.int .i64 ver from (by rw [eval_tmp]; exact hd'.c (nd' := []) 3 (by simp) rfl), show a'.eval (.tmp 63) = Value.bool flex from (by rw [eval_tmp]; exact hd'.c (nd' := []) 4 (by simp) rfl), show a'.eval (.tmp 64) = Value.agg ([.int .i64 n, sv, .bool nl, lv, uv] : List Value).toArray from (by rw [eval_tmp]; exact hd'.c (nd' := []) 5 (by simp) rfl)]) (calls_fresh (hPa.call w' A B fsv ver flex _ (.mk n s nl l u) (hsub.kept (hF10.tr hf') (by simp) (fun _ h => h)) (ht0.kept (hF10.tr hf') (by simp) (fun _ h => h)) (fun b hb => Nat.lt_of_lt_of_le (hA b hb) (hF10.tr hf').size) (fun b hb => Nat.lt_of_lt_of_le (hB b hb) (hF10.tr hf').size) (by omega))) ?_
              rintro x77 w77 ⟨fr77, ow77⟩
              exact hK' x77 w77 (ow77.from hf'.size) fr77
            exact opsOk_nil
          intro a78 w78 k78 f78 hd_78
          have hz78 : a78.tmps.size = 76 := k78.size.trans hz67
          have hd78 : a78.defers = [] := k78.defers.trans hd67
          have hF79 : Fr [] w w78 := hF10.tr f78
          have hL79_w9 : Fr [] w9 w78 := (Fr.refl [] w9).tr f78
          have rb80 := f78.range rb11 .nil
          have rb81 := f78.range rb12 .nil
          have hv0 : Own w78 (From w9.heap.size w78) 1 (get a78 59) (fixedW 1 1).length (octets (fixedW 1 1)) := hd_78.at (d := 0) (by simp) rfl
          have hv6 : Own w78 (From w9.heap.size w78) 1 (get a78 65) (sub ver flex (.mk n s nl l u)).length (octets (sub ver flex (.mk n s nl l u))) := hd_78.at (d := 6) (by simp) rfl
          rw [wpl_cons]
          have ob82 := hv0
          have hSl82 : w9.heap.size ≤ w78.heap.size := hL79_w9.size
          refine wp_appO hs_T22 hz_T22 rfl rfl ob82 (hv6.octE (by omega)) (by omega) ?_
          rintro v82 w82 fa82 oa82 sp82 bk82
          have ho82 := oa82.imp_A (new_or hSl82 fa82.size)
          have hF82 : Fr [] w w82 := fr_own hF79 fa82 (ob82.from (s0 := w.heap.size) (by omega)) (fun b hb => hb.1)
          rw [wpl_cons]
          refine wp_as (v := v82) (by rw [eval_tmp, sZ hz78 (by decide)]) ?_
          refine wpl_end fun a83 ha83 => ?_
          have hz83 : a83.tmps.size = 76 := by rw [ha83]; exact (zZ (zZ hz78))
          have hd83 : a83.defers = [] := by rw [ha83]; exact (dZ (dZ hd78))
          have g83_8 : get a83 8 = v82 := by rw [ha83, sZ (zZ hz78) (by decide)]
          clear ha83
          refine hK75 a83 w82 ?_
          refine wp_ret ?_
          rw [hW]
          exact ⟨hd83, _, results_is hres g83_8, _, rfl, hF82, ho82.from (by omega)⟩
      · refine wp_regG ?_
        refine wg_cons ?_
        refine wp_fieldAddr (b := w.heap.size) (i := 0) (hFlT45.fld (by decide)) (by rw [eval_tmp, g16_4]) ?_
        rw [show (0 + 0 : Nat) = 0 from rfl]
        refine wg_cons ?_
        refine wp_load0 (j := 0) (v := .int .i64 fd.kind) hcT3 (by rw [eval_tmp, sZ hz16 (by decide)]) rb11 rfl ?_
        refine wg_cons ?_
        refine wp_eqlT (k1 := .i64) (i := fd.kind) (j := 10) h10 (by rw [eval_tmp, sZ (zZ hz16) (by decide)]) rfl ?_
        refine wg_cons ?_
        refine wp_mv (v := .bool true) (by rw [eval_tmp, sZ (zZ (zZ hz16)) (by decide)]) ?_
        refine wg_yes (dj := 52) rfl (lt_sz (zZ (zZ (zZ (zZ hz16)))) (by decide)) (by rw [sZ (zZ (zZ (zZ hz16))) (by decide)]) ?_
        refine wp_fieldAddr (b := w.heap.size) (i := 0) (hFlT45.fld (by decide)) (by rw [eval_tmp, nZ (by decide), nZ (by decide), nZ (by decide), nZ (by decide), g16_4]) ?_
        rw [show (0 + 3 : Nat) = 3 from rfl]
        refine wg_yes (dj := 52) rfl (lt_sz (zZ (zZ (zZ (zZ (zZ hz16))))) (by decide)) (by rw [nZ (by decide), sZ (zZ (zZ (zZ hz16))) (by decide)]) ?_
        refine wp_load0 (j := 3) (v := .int .i64 fd.nul) hcT3 (by rw [eval_tmp, sZ (zZ (zZ (zZ (zZ hz16)))) (by decide)]) rb11 rfl ?_
        refine wg_yes (dj := 52) rfl (lt_sz (zZ (zZ (zZ (zZ (zZ (zZ hz16)))))) (by decide)) (by rw [nZ (by decide), nZ (by decide), sZ (zZ (zZ (zZ hz16))) (by decide)]) ?_
        refine wp_geqF (k1 := .i64) (i := fd.nul) (j := 0) hnn (by rw [eval_tmp, sZ (zZ (zZ (zZ (zZ (zZ hz16))))) (by decide)]) rfl ?_
        refine wg_cons ?_
        refine wp_pickYes (v := .bool false) (by rw [eval_tmp, nZ (by decide), nZ (by decide), nZ (by decide), sZ (zZ (zZ (zZ hz16))) (by decide)]) (by rw [eval_tmp, sZ (zZ (zZ (zZ (zZ (zZ (zZ hz16)))))) (by decide)]) ?_
        refine wg_end fun a84 ha84 => ?_
        have hz84 : a84.tmps.size = 76 := by rw [ha84]; exact (zZ (zZ (zZ (zZ (zZ (zZ (zZ (zZ hz16))))))))
        have hd84 : a84.defers = [] := by rw [ha84]; exact (dZ (dZ (dZ (dZ (dZ (dZ (dZ (dZ hd16))))))))
        have g84_1 : get a84 1 = .int .i64 ver := by rw [ha84]; (repeat rw [nZ (by decide)]); rw [g16_1]
        have g84_2 : get a84 2 = .bool flex := by rw [ha84]; (repeat rw [nZ (by decide)]); rw [g16_2]
        have g84_4 : get a84 4 = .pointer (some ⟨w.heap.size, 0, none⟩) := by rw [ha84]; (repeat rw [nZ (by decide)]); rw [g16_4]
        have g84_7 : get a84 7 = .pointer (some ⟨w2.heap.size, 0, none⟩) := by rw [ha84]; (repeat rw [nZ (by decide)]); rw [g16_7]
        have g84_9 : get a84 9 = .bool nu := by rw [ha84]; (repeat rw [nZ (by decide)]); rw [g16_9]
        have g84_56 : get a84 56 = .bool false := by rw [ha84, sZ (zZ (zZ (zZ (zZ (zZ (zZ (zZ hz16))))))) (by decide)]
        clear ha84
        refine hK54 a84 w9 ?_
        refine wp_cond_split (t := false) (by rw [eval_tmp, g84_56]) (fun h => by cases h) (fun _ => ?_)
        refine wp_skip ?_
        refine hK53 a84 w9 (then_up ?_)
        refine then_id (wp_seq_k fun K86 hK86 => ?_)
        have hW : fieldV fd.kind fd.nul fd.of (sub ver flex) ver flex (.mk n s nl l u) = valueW fd.kind (sub ver flex) nu flex (.mk n s nl l u) := by rw [fieldV, if_neg n11, if_neg (fun h => hnn h.2), ← hnu]
        rw [hW] at hlen
        refine wp_reg ?_
        rw [wpl_cons]
        refine wp_fieldAddr (b := w.heap.size) (i := 0) (hFlT45.fld (by decide)) (by rw [eval_tmp, g84_4]) ?_
        rw [show (0 + 0 : Nat) = 0 from rfl]
        rw [wpl_cons]
        refine wp_load0 (j := 0) (v := .int .i64 fd.kind) hcT3 (by rw [eval_tmp, sZ hz84 (by decide)]) rb11 rfl ?_
        rw [wpl_cons]
        refine wp_fieldAddr (b := w.heap.size) (i := 0) (hFlT45.fld (by decide)) (by rw [eval_tmp, nZ (by decide), nZ (by decide), g84_4]) ?_
        rw [show (0 + 7 : Nat) = 7 from rfl]
        rw [wpl_cons]
        refine wp_load0 (j := 7) (v := fsv) hcT29 (by rw [eval_tmp, sZ (zZ (zZ hz84)) (by decide)]) rb11 rfl ?_
        rw [wpl_cons]
        refine wp_mv (v := .bool nu) (by rw [eval_tmp, nZ (by decide), nZ (by decide), nZ (by decide), nZ (by decide), g84_9]) ?_
        rw [wpl_cons]
        refine wp_mv (v := .int .i64 ver) (by rw [eval_tmp, nZ (by decide), nZ (by decide), nZ (by decide), nZ (by decide), nZ (by decide), g84_1]) ?_
        rw [wpl_cons]
        refine wp_mv (v := .bool flex) (by rw [eval_tmp, nZ (by decide), nZ (by decide), nZ (by decide), nZ (by decide), nZ (by decide), nZ (by decide), g84_2]) ?_
        rw [wpl_cons]
        refine wp_loadFlat (cs := [.int .i64 n, sv, .bool nl, lv, uv]) (b := w2.heap.size) (o := 0) hFlT26 rfl (by rw [eval_tmp, nZ (by decide), nZ (by decide), nZ (by decide), nZ (by decide), nZ (by decide), nZ (by decide), nZ (by decide), g84_7]) rb12 ?_
        rw [wpl_cons]
        refine wp_callR (R := fun x wz => Fr [] w9 wz ∧ Own wz (From w9.heap.size wz) 1 x (valueW fd.kind (sub ver flex) nu flex (.mk n s nl l u)).length (octets (valueW fd.kind (sub ver flex) nu flex (.mk n s nl l u)))) (vs := #[.int .i64 fd.kind, fsv, .bool nu, .int .i64 ver, .bool flex, .agg ([.int .i64 n, sv, .bool nl, lv, uv] : List Value).toArray]) hVa.enters (by simp only [List.map_toArray, List.map_cons, List.map_nil]; rw [show ((((((((a84.put (some 67) (.pointer (some ⟨w.heap.size, 0, none⟩))).put (some 68) (.int .i64 fd.kind)).put (some 69) (.pointer (some ⟨w.heap.size, 7, none⟩))).put (some 70) fsv).put (some 71) (.bool nu)).put (some 72) (.int .i64 ver)).put (some 73) (.bool flex)).put (some 74) (.agg ([.int .i64 n, sv, .bool nl, lv, uv] : List Value).toArray)).eval (.tmp 68) = Value.int .i64 fd.kind from (by rw [eval_tmp, nZ (by decide), nZ (by decide), nZ (by decide), nZ (by decide), nZ (by decide), nZ (by decide), sZ (zZ hz84) (by decide)]), show ((((((((a84.put (some 67) (.pointer (some ⟨w.heap.size, 0, none⟩))).put (some 68) (.int .i64 fd.kind)).put (some 69) (.pointer (some ⟨w.heap.size, 7, none⟩))).put (some 70) fsv).put (some 71) (.bool nu)).put (some 72) (.int .i64 ver)).put (some 73) (.bool flex)).put (some 74) (.agg ([.int .i64 n, sv, .bool nl, lv, uv] : List Value).toArray)).eval (.tmp 70) = fsv from (by rw [eval_tmp, nZ (by decide), nZ (by decide), nZ (by decide), nZ (by decide), sZ (zZ (zZ (zZ hz84))) (by decide)]), show ((((((((a84.put (some 67) (.pointer (some ⟨w.heap.size, 0, none⟩))).put (some 68) (.int .i64 fd.kind)).put (some 69) (.pointer (some ⟨w.heap.size, 7, none⟩))).put (some 70) fsv).put (some 71) (.bool nu)).put (some 72) (.int .i64 ver)).put (some 73) (.bool flex)).put (some 74) (.agg ([.int .i64 n, sv, .bool nl, lv, uv] : List Value).toArray)).eval (.tmp 71) = Value.bool nu from (by rw [eval_tmp, nZ (by decide), nZ (by decide), nZ (by decide), sZ (zZ (zZ (zZ (zZ hz84)))) (by decide)]), show ((((((((a84.put (some 67) (.pointer (some ⟨w.heap.size, 0, none⟩))).put (some 68) (.int .i64 fd.kind)).put (some 69) (.pointer (some ⟨w.heap.size, 7, none⟩))).put (some 70) fsv).put (some 71) (.bool nu)).put (some 72) (.int .i64 ver)).put (some 73) (.bool flex)).put (some 74) (.agg ([.int .i64 n, sv, .bool nl, lv, uv] : List Value).toArray)).eval (.tmp 72) = Value.int .i64 ver from (by rw [eval_tmp, nZ (by decide), nZ (by decide), sZ (zZ (zZ (zZ (zZ (zZ hz84))))) (by decide)]), show ((((((((a84.put (some 67) (.pointer (some ⟨w.heap.size, 0, none⟩))).put (some 68) (.int .i64 fd.kind)).put (some 69) (.pointer (some ⟨w.heap.size, 7, none⟩))).put (some 70) fsv).put (some 71) (.bool nu)).put (some 72) (.int .i64 ver)).put (some 73) (.bool flex)).put (some 74) (.agg ([.int .i64 n, sv, .bool nl, lv, uv] : List Value).toArray)).eval (.tmp 73) = Value.bool flex from (by rw [eval_tmp, nZ (by decide), sZ (zZ (zZ (zZ (zZ (zZ (zZ hz84)))))) (by decide)]), show ((((((((a84.put (some 67) (.pointer (some ⟨w.heap.size, 0, none⟩))).put (some 68) (.int .i64 fd.kind)).put (some 69) (.pointer (some ⟨w.heap.size, 7, none⟩))).put (some 70) fsv).put (some 71) (.bool nu)).put (some 72) (.int .i64 ver)).put (some 73) (.bool flex)).put (some 74) (.agg ([.int .i64 n, sv, .bool nl, lv, uv] : List Value).toArray)).eval (.tmp 74) = Value.agg ([.int .i64 n, sv, .bool nl, lv, uv] : List Value).toArray from (by rw [eval_tmp, sZ (zZ (zZ (zZ (zZ (zZ (zZ (zZ hz84))))))) (by decide)])]) (calls_fresh (hVa.call w9 A B fsv ver flex nu fd.kind _ (.mk n s nl l u) (hsub.kept hF10 (by simp) (fun _ h => h)) (ht0.kept hF10 (by simp) (fun _ h => h)) (fun b hb => Nat.lt_of_lt_of_le (hA b hb) hF10.size) (fun b hb => Nat.lt_of_lt_of_le (hB b hb) hF10.size) hlen)) ?_
        rintro x87 w87 ⟨fr87, ow87⟩
        have hF88 : Fr [] w w87 := hF10.tr fr87
        have rb89 := fr87.range rb11 .nil
        have rb90 := fr87.range rb12 .nil
        rw [wpl_cons]
        refine wp_as (v := x87) (by rw [eval_tmp, sZ (zZ (zZ (zZ (zZ (zZ (zZ (zZ (zZ hz84)))))))) (by decide)]) ?_
        refine wpl_end fun a91 ha91 => ?_
        have hz91 : a91.tmps.size = 76 := by rw [ha91]; exact (zZ (zZ (zZ (zZ (zZ (zZ (zZ (zZ (zZ (zZ hz84))))))))))
        have hd91 : a91.defers = [] := by rw [ha91]; exact (dZ (dZ (dZ (dZ (dZ (dZ (dZ (dZ (dZ (dZ hd84))))))))))
        have g91_8 : get a91 8 = x87 := by rw [ha91, sZ (zZ (zZ (zZ (zZ (zZ (zZ (zZ (zZ (zZ hz84))))))))) (by decide)]
        clear ha91
        refine hK86 a91 w87 (then_up ?_)
        refine wp_ret ?_
        rw [hW]
        exact ⟨hd91, _, results_is hres g91_8, _, rfl, hF88, ow87.from (by have := hF10.size; omega)⟩
end Go.Kq

namespace Go.Kq
open Go Go.Proofs
theorem wrap_u64n {n : Nat} (h : n < 18446744073709551616) : IntKind.u64.wrap (n : Int) = n := by
  simp only [IntKind.wrap, IntKind.bits, IntKind.signed]; simp; omega
theorem knownW_free : ∀ {fs : List Fd}, (∀ f ∈ fs, f.tag < 0) → knownW fs = 0
  | [], _ => rfl
  | f :: fs, h => by
    have := h f (by simp)
    rw [knownW, if_neg (by omega)]; exact knownW_free fun g hg => h g (by simp [hg])
theorem partW_free {fs : List Fd} (h : knownW fs = 0) (ver : Int) (flex : Bool) (t : T) : partW fs ver flex t = if flex then bodyW fs ver (fieldsW fs ver flex t.l 0) fs.length ++ (uvW (unksW fs t).length ++ (unksW fs t).flatMap pairW) else bodyW fs ver (fieldsW fs ver flex t.l 0) fs.length := by
  have hk : knownsW fs t (fieldsW fs ver flex t.l 0) = [] := by simp [knownsW, h]
  unfold partW joinW
  rw [hk]; simp
theorem bodyW_succ {fs : List Fd} {ver : Int} {encs : List (List UInt8)} {j : Nat} {fd : Fd} (h : fs[j]? = some fd) (ht : fd.tag < 0) : bodyW fs ver encs (j + 1) = bodyW fs ver encs j ++ if fd.has ver then encs.getD j [] else [] := by
  unfold bodyW
  rw [List.range_succ, List.flatMap_append]
  simp [h, ht]
theorem bodyW_le {fs : List Fd} {ver : Int} {encs : List (List UInt8)} : ∀ {m n : Nat}, n ≤ m → (bodyW fs ver encs n).length ≤ (bodyW fs ver encs m).length
  | 0, n, h => by have : n = 0 := by omega
                  subst this; exact Nat.le_refl _
  | m + 1, n, h => by
    by_cases hn : n = m + 1
    · subst hn; exact Nat.le_refl _
    · refine Nat.le_trans (bodyW_le (m := m) (by omega)) ?_
      unfold bodyW
      rw [List.range_succ, List.flatMap_append, List.length_append]; omega
theorem take_pair {fs : List Fd} {t : T} {j : Nat} {p : Nat × List UInt8} (h : (unksW fs t)[j]? = some p) : ((unksW fs t).take (j + 1)).flatMap pairW = ((unksW fs t).take j).flatMap pairW ++ pairW p := by
  rw [List.take_add_one, h, List.flatMap_append]; simp
theorem take_pair_le {fs : List Fd} {t : T} (j : Nat) : (((unksW fs t).take j).flatMap pairW).length ≤ ((unksW fs t).flatMap pairW).length := by
  conv => rhs; rw [← List.take_append_drop j (unksW fs t), List.flatMap_append, List.length_append]
  omega
set_option maxHeartbeats 8000000 in
theorem part_m {P : Program} {f : FuncId} {fn : Func} {T3 T4 T22 T24 T26 T29 T45 T58 T60 T73 : TypeId} {f47 f48 f49 f50 f51 f52 f53 f54 : FuncId} {a0 : Array TypeId} {a1 : Array TypeId} {a2 : Array TypeId} {a3 : Array TypeId} {a4 : Array TypeId} {a5 : Array TypeId} {a6 : Array TypeId} {a7 : Array TypeId} {a8 : Array TypeId} {a9 : Array TypeId} {a10 : Array TypeId} {a11 : Array TypeId} {a12 : Array TypeId} {a13 : Array TypeId} {a14 : Array TypeId} {i0 i1 i2 i3 i4 i5 i6 i7 i8 i9 i10 i11 i12 i13 i14 i15 i16 i17 i18 i19 i20 i21 i22 i23 i24 i25 i26 i27 i28 i29 i30 : Nat} {t0 t1 t2 t3 t4 t5 t6 t7 t8 t9 t10 t11 t12 t13 t14 t15 t16 t17 t18 t19 t20 t21 t22 t23 t24 t25 t26 t27 t28 t29 t30 t31 t32 t33 t34 t35 t36 t37 t38 t39 t40 t41 t42 t43 t44 t45 t46 t47 t48 t49 t50 t51 t52 t53 t54 t55 t56 t57 t58 t59 t60 t61 t62 t63 t64 t65 t66 t67 t68 t69 t70 t71 t72 t73 t74 t75 t76 t77 t78 t79 t80 t81 t82 t83 t84 t85 t86 t87 t88 t89 t90 t91 t92 t93 t94 t95 t96 t97 t98 t99 t100 t101 t102 t103 t104 t105 t106 t107 t108 t109 t110 t111 t112 t113 t114 t115 t116 t117 t118 t119 t120 t121 t122 t123 t124 t125 t126 t127 t128 t129 t130 t131 t132 t133 t134 t135 t136 t137 : TypeId} {p0 p1 p2 p3 p4 p5 p6 p7 p8 p9 p10 p11 p12 p13 p14 p15 p16 p17 p18 p19 p20 p21 p22 p23 p24 p25 p26 p27 p28 p29 p30 p31 p32 p33 p34 p35 p36 p37 p38 p39 p40 p41 p42 p43 p44 p45 p46 p47 p48 p49 p50 p51 p52 p53 p54 p55 p56 p57 p58 p59 p60 p61 p62 p63 p64 p65 p66 p67 p68 p69 p70 p71 p72 p73 p74 p75 p76 p77 p78 p79 p80 p81 p82 p83 p84 p85 p86 p87 p88 p89 p90 p91 p92 p93 p94 p95 p96 p97 p98 p99 p100 p101 p102 p103 p104 p105 p106 p107 p108 p109 p110 p111 p112 p113 p114 p115 p116 p117 p118 p119 p120 p121 p122 p123 p124 p125 p126 p127 p128 p129 p130 p131 p132 p133 p134 p135 p136 p137 : String} {e0 e1 e2 e3 e4 e5 e6 e7 e8 e9 e10 e11 e12 e13 e14 e15 e16 e17 e18 e19 e20 e21 e22 e23 e24 e25 e26 e27 e28 e29 e30 e31 e32 e33 e34 e35 e36 e37 e38 e39 e40 e41 e42 e43 e44 e45 e46 e47 e48 e49 e50 e51 e52 e53 e54 e55 e56 e57 e58 e59 e60 e61 e62 e63 e64 e65 e66 e67 e68 e69 e70 e71 e72 e73 e74 e75 e76 e77 e78 e79 e80 e81 e82 e83 e84 e85 e86 e87 e88 e89 e90 e91 e92 e93 e94 e95 e96 e97 e98 e99 e100 e101 e102 e103 e104 e105 e106 e107 e108 e109 e110 e111 e112 e113 e114 e115 e116 e117 e118 e119 e120 e121 e122 e123 e124 e125 e126 e127 e128 e129 e130 e131 e132 e133 e134 e135 e136 e137 : Array Edge} {te te8 teT : TypeId} {tb : Nat} {fs : List Fd}
    (hf : P.funcs[f]? = some fn) (hname : (fn.name == "runtime.NumGoroutine") = false) (hres : fn.results = #[.tmp 8]) (hN : fn.ntmps = 132)
    (hbody : fn.body = some (.seq (Code.region i0 ⟨[⟨some 7, .box T26 (.tmp 3), t0, p0, e0, none⟩,
    ⟨some 8, .assign (.const (.slice none 0 0)), t1, p1, e1, none⟩]⟩ false)
  (.seq (Code.region i1 ⟨[⟨some 9, .assign (.const (.slice none 0 0)), t2, p2, e2, none⟩,
    ⟨some 10, .assign (.const (.slice none 0 0)), t3, p3, e3, none⟩]⟩ false)
  (.seq (Code.region i2 ⟨[⟨some 11, .assign (.const (.int .i64 0)), t4, p4, e4, none⟩]⟩ false)
  (.seq (.seq (Code.region i3 ⟨[⟨some 21, .move (.tmp 0), t5, p5, e5, none⟩,
    ⟨some 22, .call ⟨.builtin .len, #[(.tmp 21)], #[T29]⟩, t6, p6, e6, none⟩,
    ⟨some 23, .move (.const (.int .i64 0)), t7, p7, e7, none⟩]⟩ false)
  (.block 0 (.loop (.seq (Code.region i4 ⟨[⟨some 24, .binOp .lss T3 (.tmp 23) (.tmp 22) T3, t8, p8, e8, none⟩]⟩ false)
  (.seq (.cond (.tmp 24) .skip
  (.exit 0))
  (.seq (.block 1 (.seq (Code.region i5 ⟨[⟨some 25, .move (.tmp 23), t9, p9, e9, none⟩,
    ⟨some 26, .indexAddr T29 (.tmp 21) (.tmp 23), t10, p10, e10, none⟩,
    ⟨some 27, .load T45 (.tmp 26), t11, p11, e11, none⟩,
    ⟨some 13, .alloc T45, t12, p12, e12, none⟩,
    ⟨some 12, .assign (.tmp 25), t13, p13, e13, none⟩,
    ⟨none, .store T45 (.tmp 13) (.tmp 27), t14, p14, e14, none⟩]⟩ false)
  (.seq (Code.region i6 ⟨[⟨some 28, .fieldAddr T45 (.tmp 13) 4, t15, p15, e15, none⟩,
    ⟨some 29, .load T3 (.tmp 28), t16, p16, e16, none⟩,
    ⟨some 30, .binOp .lss T3 (.tmp 29) (.const (.int .i64 0)) T3, t17, p17, e17, none⟩,
    ⟨some 31, .move (.tmp 30), t18, p18, e18, none⟩,
    ⟨some 32, .load T45 (.tmp 13), t19, p19, e19, some (3, true)⟩,
    ⟨some 33, .move (.tmp 1), t20, p20, e20, some (3, true)⟩,
    ⟨some 34, .call ⟨.value (.func f47), #[(.tmp 32), (.tmp 33)], a0⟩, t21, p21, e21, some (3, true)⟩,
    ⟨some 35, .pick (.tmp 31) (.tmp 34) (.const (.bool false)), t22, p22, e22, none⟩]⟩ false)
  (.cond (.tmp 35) (Code.region i7 ⟨[⟨some 36, .move (.tmp 9), t23, p23, e23, none⟩,
    ⟨some 37, .load T45 (.tmp 13), t24, p24, e24, none⟩,
    ⟨some 38, .move (.tmp 1), t25, p25, e25, none⟩,
    ⟨some 39, .move (.tmp 2), t26, p26, e26, none⟩,
    ⟨some 40, .load T26 (.tmp 7), t27, p27, e27, none⟩,
    ⟨some 41, .move (.tmp 12), t28, p28, e28, none⟩,
    ⟨some 42, .call ⟨.value (.func f49), #[(.tmp 40), (.tmp 41)], a1⟩, t29, p29, e29, none⟩,
    ⟨some 43, .call ⟨.value (.func f48), #[(.tmp 37), (.tmp 38), (.tmp 39), (.tmp 42)], a2⟩, t30, p30, e30, none⟩,
    ⟨some 44, .call ⟨.builtin .append, #[(.tmp 36), (.tmp 43)], #[T22, T22]⟩, t31, p31, e31, none⟩,
    ⟨some 9, .assign (.tmp 44), t32, p32, e32, none⟩]⟩ true)
  .skip))))
  (Code.region i8 ⟨[⟨some 45, .binOp .add T3 (.tmp 23) (.const (.int .i64 1)) T3, t33, p33, e33, none⟩,
    ⟨some 23, .move (.tmp 45), t34, p34, e34, none⟩]⟩ false)))))))
  (.seq (.seq (Code.region i9 ⟨[⟨some 46, .move (.tmp 2), t35, p35, e35, none⟩,
    ⟨some 47, .unOp .not T4 (.tmp 46), t36, p36, e36, none⟩]⟩ false)
  (.cond (.tmp 47) (.seq (Code.region i10 ⟨[⟨some 48, .move (.tmp 9), t37, p37, e37, none⟩,
    ⟨some 8, .assign (.tmp 48), t38, p38, e38, none⟩]⟩ false)
  .ret)
  .skip))
  (.seq (.seq (Code.region i11 ⟨[⟨some 49, .move (.tmp 0), t39, p39, e39, none⟩,
    ⟨some 50, .call ⟨.value (.func f50), #[(.tmp 49)], a3⟩, t40, p40, e40, none⟩,
    ⟨some 51, .convert T58 T3 (.tmp 50), t41, p41, e41, none⟩,
    ⟨some 52, .move (.const (.int .i64 0)), t42, p42, e42, none⟩]⟩ false)
  (.block 2 (.loop (.seq (Code.region i12 ⟨[⟨some 53, .binOp .lss T3 (.tmp 52) (.tmp 51) T3, t43, p43, e43, none⟩]⟩ false)
  (.seq (.cond (.tmp 53) .skip
  (.exit 2))
  (.seq (.block 3 (.seq (Code.region i13 ⟨[⟨some 54, .move (.tmp 52), t44, p44, e44, none⟩,
    ⟨some 14, .assign (.tmp 54), t45, p45, e45, none⟩]⟩ false)
  (.seq (Code.region i14 ⟨[⟨some 55, .move (.tmp 0), t46, p46, e46, none⟩,
    ⟨some 56, .call ⟨.builtin .len, #[(.tmp 55)], #[T29]⟩, t47, p47, e47, none⟩,
    ⟨some 57, .move (.const (.int .i64 0)), t48, p48, e48, none⟩]⟩ false)
  (.block 4 (.loop (.seq (Code.region i15 ⟨[⟨some 58, .binOp .lss T3 (.tmp 57) (.tmp 56) T3, t49, p49, e49, none⟩]⟩ false)
  (.seq (.cond (.tmp 58) .skip
  (.exit 4))
  (.seq (.block 5 (.seq (Code.region i16 ⟨[⟨some 59, .move (.tmp 57), t50, p50, e50, none⟩,
    ⟨some 60, .indexAddr T29 (.tmp 55) (.tmp 57), t51, p51, e51, none⟩,
    ⟨some 61, .load T45 (.tmp 60), t52, p52, e52, none⟩,
    ⟨some 16, .alloc T45, t53, p53, e53, none⟩,
    ⟨some 15, .assign (.tmp 59), t54, p54, e54, none⟩,
    ⟨none, .store T45 (.tmp 16) (.tmp 61), t55, p55, e55, none⟩]⟩ false)
  (.seq (Code.region i17 ⟨[⟨some 62, .fieldAddr T45 (.tmp 16) 4, t56, p56, e56, none⟩,
    ⟨some 63, .load T3 (.tmp 62), t57, p57, e57, none⟩,
    ⟨some 64, .move (.tmp 14), t58, p58, e58, none⟩,
    ⟨some 65, .binOp .eql T3 (.tmp 63) (.tmp 64) T3, t59, p59, e59, none⟩,
    ⟨some 66, .move (.tmp 65), t60, p60, e60, none⟩,
    ⟨some 67, .load T45 (.tmp 16), t61, p61, e61, some (4, true)⟩,
    ⟨some 68, .load T26 (.tmp 7), t62, p62, e62, some (4, true)⟩,
    ⟨some 69, .move (.tmp 15), t63, p63, e63, some (4, true)⟩,
    ⟨some 70, .call ⟨.value (.func f49), #[(.tmp 68), (.tmp 69)], a4⟩, t64, p64, e64, some (4, true)⟩,
    ⟨some 71, .call ⟨.value (.func f51), #[(.tmp 67), (.tmp 70)], a5⟩, t65, p65, e65, some (4, true)⟩,
    ⟨some 72, .unOp .not T4 (.tmp 71), t66, p66, e66, some (4, true)⟩,
    ⟨some 73, .pick (.tmp 66) (.tmp 72) (.const (.bool false)), t67, p67, e67, none⟩]⟩ true)
  (.cond (.tmp 73) (.seq (Code.region i18 ⟨[⟨some 74, .load T45 (.tmp 16), t68, p68, e68, none⟩,
    ⟨some 75, .move (.tmp 1), t69, p69, e69, none⟩,
    ⟨some 76, .move (.tmp 2), t70, p70, e70, none⟩,
    ⟨some 77, .load T26 (.tmp 7), t71, p71, e71, none⟩,
    ⟨some 78, .move (.tmp 15), t72, p72, e72, none⟩,
    ⟨some 79, .call ⟨.value (.func f49), #[(.tmp 77), (.tmp 78)], a6⟩, t73, p73, e73, none⟩,
    ⟨some 80, .call ⟨.value (.func f48), #[(.tmp 74), (.tmp 75), (.tmp 76), (.tmp 79)], a7⟩, t74, p74, e74, none⟩,
    ⟨some 17, .assign (.tmp 80), t75, p75, e75, none⟩]⟩ true)
  (.seq (Code.region i19 ⟨[⟨some 81, .move (.tmp 10), t76, p76, e76, none⟩,
    ⟨some 82, .move (.tmp 14), t77, p77, e77, none⟩,
    ⟨some 83, .convert T3 T73 (.tmp 82), t78, p78, e78, none⟩,
    ⟨some 84, .call ⟨.value (.func f52), #[(.tmp 83)], a8⟩, t79, p79, e79, none⟩,
    ⟨some 85, .call ⟨.builtin .append, #[(.tmp 81), (.tmp 84)], #[T22, T22]⟩, t80, p80, e80, none⟩,
    ⟨some 86, .move (.tmp 17), t81, p81, e81, none⟩,
    ⟨some 87, .call ⟨.builtin .len, #[(.tmp 86)], #[T22]⟩, t82, p82, e82, none⟩,
    ⟨some 88, .convert T3 T73 (.tmp 87), t83, p83, e83, none⟩,
    ⟨some 89, .call ⟨.value (.func f52), #[(.tmp 88)], a9⟩, t84, p84, e84, none⟩,
    ⟨some 90, .call ⟨.builtin .append, #[(.tmp 85), (.tmp 89)], #[T22, T22]⟩, t85, p85, e85, none⟩,
    ⟨some 91, .move (.tmp 17), t86, p86, e86, none⟩,
    ⟨some 92, .call ⟨.builtin .append, #[(.tmp 90), (.tmp 91)], #[T22, T22]⟩, t87, p87, e87, none⟩,
    ⟨some 10, .assign (.tmp 92), t88, p88, e88, none⟩]⟩ false)
  (Code.region i20 ⟨[⟨some 93, .move (.tmp 11), t89, p89, e89, none⟩,
    ⟨some 94, .binOp .add T3 (.tmp 93) (.const (.int .i64 1)) T3, t90, p90, e90, none⟩,
    ⟨some 11, .assign (.tmp 94), t91, p91, e91, none⟩]⟩ false)))
  .skip))))
  (Code.region i21 ⟨[⟨some 95, .binOp .add T3 (.tmp 57) (.const (.int .i64 1)) T3, t92, p92, e92, none⟩,
    ⟨some 57, .move (.tmp 95), t93, p93, e93, none⟩]⟩ false)))))))))
  (Code.region i22 ⟨[⟨some 96, .binOp .add T3 (.tmp 52) (.const (.int .i64 1)) T3, t94, p94, e94, none⟩,
    ⟨some 52, .move (.tmp 96), t95, p95, e95, none⟩]⟩ false)))))))
  (.seq (.seq (Code.region i23 ⟨[⟨some 97, .move (.tmp 0), t96, p96, e96, none⟩,
    ⟨some 98, .fieldAddr T26 (.tmp 7) 4, t97, p97, e97, none⟩,
    ⟨some 99, .load T24 (.tmp 98), t98, p98, e98, none⟩,
    ⟨some 100, .call ⟨.value (.func f53), #[(.tmp 97), (.tmp 99)], a10⟩, t99, p99, e99, none⟩,
    ⟨some 101, .call ⟨.builtin .len, #[(.tmp 100)], #[T24]⟩, t100, p100, e100, none⟩,
    ⟨some 102, .move (.const (.int .i64 0)), t101, p101, e101, none⟩]⟩ false)
  (.block 6 (.loop (.seq (Code.region i24 ⟨[⟨some 103, .binOp .lss T3 (.tmp 102) (.tmp 101) T3, t102, p102, e102, none⟩]⟩ false)
  (.seq (.cond (.tmp 103) .skip
  (.exit 6))
  (.seq (.block 7 (.seq (Code.region i25 ⟨[⟨some 104, .indexAddr T24 (.tmp 100) (.tmp 102), t103, p103, e103, none⟩,
    ⟨some 105, .load T60 (.tmp 104), t104, p104, e104, none⟩,
    ⟨some 19, .alloc T60, t105, p105, e105, none⟩,
    ⟨none, .store T60 (.tmp 19) (.tmp 105), t106, p106, e106, none⟩]⟩ false)
  (.seq (Code.region i26 ⟨[⟨some 106, .fieldAddr T60 (.tmp 19) 1, t107, p107, e107, none⟩,
    ⟨some 107, .load T22 (.tmp 106), t108, p108, e108, none⟩,
    ⟨some 108, .call ⟨.value (.func f54), #[(.tmp 107)], a11⟩, t109, p109, e109, none⟩,
    ⟨some 20, .assign (.tmp 108), t110, p110, e110, none⟩]⟩ false)
  (.seq (Code.region i27 ⟨[⟨some 109, .move (.tmp 10), t111, p111, e111, none⟩,
    ⟨some 110, .fieldAddr T60 (.tmp 19) 0, t112, p112, e112, none⟩,
    ⟨some 111, .load T58 (.tmp 110), t113, p113, e113, none⟩,
    ⟨some 112, .convert T58 T73 (.tmp 111), t114, p114, e114, none⟩,
    ⟨some 113, .call ⟨.value (.func f52), #[(.tmp 112)], a12⟩, t115, p115, e115, none⟩,
    ⟨some 114, .call ⟨.builtin .append, #[(.tmp 109), (.tmp 113)], #[T22, T22]⟩, t116, p116, e116, none⟩,
    ⟨some 115, .move (.tmp 20), t117, p117, e117, none⟩,
    ⟨some 116, .call ⟨.builtin .len, #[(.tmp 115)], #[T22]⟩, t118, p118, e118, none⟩,
    ⟨some 117, .convert T3 T73 (.tmp 116), t119, p119, e119, none⟩,
    ⟨some 118, .call ⟨.value (.func f52), #[(.tmp 117)], a13⟩, t120, p120, e120, none⟩,
    ⟨some 119, .call ⟨.builtin .append, #[(.tmp 114), (.tmp 118)], #[T22, T22]⟩, t121, p121, e121, none⟩,
    ⟨some 120, .move (.tmp 20), t122, p122, e122, none⟩,
    ⟨some 121, .call ⟨.builtin .append, #[(.tmp 119), (.tmp 120)], #[T22, T22]⟩, t123, p123, e123, none⟩,
    ⟨some 10, .assign (.tmp 121), t124, p124, e124, none⟩]⟩ false)
  (Code.region i28 ⟨[⟨some 122, .move (.tmp 11), t125, p125, e125, none⟩,
    ⟨some 123, .binOp .add T3 (.tmp 122) (.const (.int .i64 1)) T3, t126, p126, e126, none⟩,
    ⟨some 11, .assign (.tmp 123), t127, p127, e127, none⟩]⟩ false)))))
  (Code.region i29 ⟨[⟨some 124, .binOp .add T3 (.tmp 102) (.const (.int .i64 1)) T3, t128, p128, e128, none⟩,
    ⟨some 102, .move (.tmp 124), t129, p129, e129, none⟩]⟩ false)))))))
  (.seq (Code.region i30 ⟨[⟨some 125, .move (.tmp 9), t130, p130, e130, none⟩,
    ⟨some 126, .move (.tmp 11), t131, p131, e131, none⟩,
    ⟨some 127, .convert T3 T73 (.tmp 126), t132, p132, e132, none⟩,
    ⟨some 128, .call ⟨.value (.func f52), #[(.tmp 127)], a14⟩, t133, p133, e133, none⟩,
    ⟨some 129, .call ⟨.builtin .append, #[(.tmp 125), (.tmp 128)], #[T22, T22]⟩, t134, p134, e134, none⟩,
    ⟨some 130, .move (.tmp 10), t135, p135, e135, none⟩,
    ⟨some 131, .call ⟨.builtin .append, #[(.tmp 129), (.tmp 130)], #[T22, T22]⟩, t136, p136, e136, none⟩,
    ⟨some 8, .assign (.tmp 131), t137, p137, e137, none⟩]⟩ false)
  .ret)))))))))
    (hs_T22 : sliceOf P T22 te 1 1 = true) (hz_T22 : zeroIs P te [.int .u8 0]) (hsT29 : slTy P T29 = true) (hs_T29 : sliceOf P T29 te8 8 tb = true) (hFlT45 : Flat P T45 zF) (hcT3 : scal P T3 = true) (hFlT26 : Flat P T26 zT) (he7 : edgeOk 0 [e23, e24, e25, e26, e27, e28, e29, e30, e31, e32] [[], [], [], [], [], [], [4, 5], [1, 2, 3, 6], [0, 1, 2, 3, 4, 5, 6, 7], [0, 1, 2, 3, 4, 5, 6, 7, 8]] = true) (hmx : P.follows .mixedOrders = true) (hT58_u32 : intOf P T58 .u32 = true) (hT3_i64 : intOf P T3 .i64 = true) (hcT24 : scal P T24 = true) (hsT24 : slTy P T24 = true) (hs_T24 : sliceOf P T24 teT 2 32 = true) (hFlT60 : Flat P T60 zTag) (hcT22 : scal P T22 = true) (hcT58 : scal P T58 = true) (hT73_u64 : intOf P T73 .u64 = true) (hsT22 : slTy P T22 = true) (hfree : ∀ f ∈ fs, f.tag < 0) (hFi : ∀ fd ∈ fs, FieldM P f48 fd (fieldW fd)) (hHa : HasM P f47) (hAt : AtM P f49) (hKn : KnownM P f50) (hUn : UnkM P f53) (hWh : WholeM P f54) (hUv : UvWM P f52) : PartM P f fs (partW fs) := by
  refine ⟨enters_of hf hname hbody, ?_⟩
  intro w A B v ver flex ct t hfs ht hA hB hlen
  cases t with
  | mk n s nl l u =>
  have ht0 := ht
  obtain ⟨sv, lv, uv, rfl, hn, hs, hl, hu⟩ := repT_iff.1 ht
  obtain ⟨encs, hencs⟩ : ∃ x, x = fieldsW fs ver flex l 0 := ⟨_, rfl⟩
  obtain ⟨q, cap, hv, hbig, hk⟩ := hfs.slice
  subst hv
  have hkn0 : knownW fs = 0 := knownW_free hfree
  have htg : ∀ f ∈ fs, f.tag < 4294967295 := fun f hf => by have := hfree f hf; omega
  have hPW : partW fs ver flex (.mk n s nl l u) = if flex then bodyW fs ver encs fs.length ++ (uvW (unksW fs (.mk n s nl l u)).length ++ (unksW fs (.mk n s nl l u)).flatMap pairW) else bodyW fs ver encs fs.length := by rw [hencs]; exact partW_free hkn0 ver flex (.mk n s nl l u)
  rw [hPW] at hlen
  have hb0 : (bodyW fs ver encs fs.length).length ≤ 4294967296 := by
    split at hlen
    · simp only [List.length_append] at hlen; omega
    · exact hlen
  refine calls_of_wp hf hbody ?_
  generalize ha0 : ({ tmps := #[Value.slice q fs.length cap, Value.int .i64 ver, Value.bool flex, Value.agg ([.int .i64 n, sv, .bool nl, lv, uv] : List Value).toArray] ++ Array.replicate (fn.ntmps - (#[Value.slice q fs.length cap, Value.int .i64 ver, Value.bool flex, Value.agg ([.int .i64 n, sv, .bool nl, lv, uv] : List Value).toArray] : Array Value).size) undef, defers := [] } : Act) = a0
  have hz0 : a0.tmps.size = 132 := by subst ha0; simp [hN]
  have hd0 : a0.defers = [] := by subst ha0; rfl
  have g0_0 : get a0 0 = .slice q fs.length cap := by subst ha0; exact get_args rfl
  have g0_1 : get a0 1 = .int .i64 ver := by subst ha0; exact get_args rfl
  have g0_2 : get a0 2 = .bool flex := by subst ha0; exact get_args rfl
  have g0_3 : get a0 3 = .agg ([.int .i64 n, sv, .bool nl, lv, uv] : List Value).toArray := by subst ha0; exact get_args rfl
  clear ha0
  refine then_id (wp_seq_k fun K1 hK1 => ?_)
  refine wp_reg ?_
  rw [wpl_cons]
  refine wp_boxL (cs := [.int .i64 n, sv, .bool nl, lv, uv]) (by rw [eval_tmp, g0_3]) ?_
  rintro w2 f2 sz2 r2 th2
  have hF3 : Fr [] w w2 := f2
  rw [wpl_cons]
  refine wp_as (v := .slice none 0 0) rfl ?_
  refine wpl_end fun a4 ha4 => ?_
  have hz4 : a4.tmps.size = 132 := by rw [ha4]; exact (zZ (zZ hz0))
  have hd4 : a4.defers = [] := by rw [ha4]; exact (dZ (dZ hd0))
  have g4_0 : get a4 0 = .slice q fs.length cap := by rw [ha4, nZ (by decide), nZ (by decide), g0_0]
  have g4_1 : get a4 1 = .int .i64 ver := by rw [ha4, nZ (by decide), nZ (by decide), g0_1]
  have g4_2 : get a4 2 = .bool flex := by rw [ha4, nZ (by decide), nZ (by decide), g0_2]
  have g4_3 : get a4 3 = .agg ([.int .i64 n, sv, .bool nl, lv, uv] : List Value).toArray := by rw [ha4, nZ (by decide), nZ (by decide), g0_3]
  have g4_7 : get a4 7 = .pointer (some ⟨w.heap.size, 0, none⟩) := by rw [ha4, nZ (by decide), sZ hz0 (by decide)]
  have g4_8 : get a4 8 = .slice none 0 0 := by rw [ha4, sZ (zZ hz0) (by decide)]
  clear ha4
  refine hK1 a4 w2 (then_up ?_)
  refine then_id (wp_seq_k fun K5 hK5 => ?_)
  have hS0 : w.heap.size + 1 ≤ w2.heap.size := by omega
  refine wp_reg ?_
  rw [wpl_cons]
  refine wp_as (v := .slice none 0 0) rfl ?_
  rw [wpl_cons]
  refine wp_as (v := .slice none 0 0) rfl ?_
  refine wpl_end fun a6 ha6 => ?_
  have hz6 : a6.tmps.size = 132 := by rw [ha6]; exact (zZ (zZ hz4))
  have hd6 : a6.defers = [] := by rw [ha6]; exact (dZ (dZ hd4))
  have g6_0 : get a6 0 = .slice q fs.length cap := by rw [ha6, nZ (by decide), nZ (by decide), g4_0]
  have g6_1 : get a6 1 = .int .i64 ver := by rw [ha6, nZ (by decide), nZ (by decide), g4_1]
  have g6_2 : get a6 2 = .bool flex := by rw [ha6, nZ (by decide), nZ (by decide), g4_2]
  have g6_3 : get a6 3 = .agg ([.int .i64 n, sv, .bool nl, lv, uv] : List Value).toArray := by rw [ha6, nZ (by decide), nZ (by decide), g4_3]
  have g6_7 : get a6 7 = .pointer (some ⟨w.heap.size, 0, none⟩) := by rw [ha6, nZ (by decide), nZ (by decide), g4_7]
  have g6_8 : get a6 8 = .slice none 0 0 := by rw [ha6, nZ (by decide), nZ (by decide), g4_8]
  have g6_9 : get a6 9 = .slice none 0 0 := by rw [ha6, nZ (by decide), sZ hz4 (by decide)]
  have g6_10 : get a6 10 = .slice none 0 0 := by rw [ha6, sZ (zZ hz4) (by decide)]
  clear ha6
  refine hK5 a6 w2 (then_up ?_)
  refine then_id (wp_seq_k fun K7 hK7 => ?_)
  refine wp_reg ?_
  rw [wpl_cons]
  refine wp_as (v := .int .i64 0) rfl ?_
  refine wpl_end fun a8 ha8 => ?_
  have hz8 : a8.tmps.size = 132 := by rw [ha8]; exact (zZ hz6)
  have hd8 : a8.defers = [] := by rw [ha8]; exact (dZ hd6)
  have g8_0 : get a8 0 = .slice q fs.length cap := by rw [ha8, nZ (by decide), g6_0]
  have g8_1 : get a8 1 = .int .i64 ver := by rw [ha8, nZ (by decide), g6_1]
  have g8_2 : get a8 2 = .bool flex := by rw [ha8, nZ (by decide), g6_2]
  have g8_3 : get a8 3 = .agg ([.int .i64 n, sv, .bool nl, lv, uv] : List Value).toArray := by rw [ha8, nZ (by decide), g6_3]
  have g8_7 : get a8 7 = .pointer (some ⟨w.heap.size, 0, none⟩) := by rw [ha8, nZ (by decide), g6_7]
  have g8_8 : get a8 8 = .slice none 0 0 := by rw [ha8, nZ (by decide), g6_8]
  have g8_9 : get a8 9 = .slice none 0 0 := by rw [ha8, nZ (by decide), g6_9]
  have g8_10 : get a8 10 = .slice none 0 0 := by rw [ha8, nZ (by decide), g6_10]
  have g8_11 : get a8 11 = .int .i64 0 := by rw [ha8, sZ hz6 (by decide)]
  clear ha8
  refine hK7 a8 w2 (then_up ?_)
  refine then_id (wp_seq_k fun K9 hK9 => ?_)
  refine wp_seq_k fun K10 hK10 => ?_
  refine wp_reg ?_
  rw [wpl_cons]
  refine wp_mv (v := .slice q fs.length cap) (by rw [eval_tmp, g8_0]) ?_
  rw [wpl_cons]
  refine wp_lenS (n := fs.length) hsT29 (by rw [eval_tmp, sZ hz8 (by decide)]) ?_
  rw [wpl_cons]
  refine wp_mv (v := .int .i64 0) rfl ?_
  refine wpl_end fun a11 ha11 => ?_
  have hz11 : a11.tmps.size = 132 := by rw [ha11]; exact (zZ (zZ (zZ hz8)))
  have hd11 : a11.defers = [] := by rw [ha11]; exact (dZ (dZ (dZ hd8)))
  have g11_0 : get a11 0 = .slice q fs.length cap := by rw [ha11]; (repeat rw [nZ (by decide)]); rw [g8_0]
  have g11_1 : get a11 1 = .int .i64 ver := by rw [ha11]; (repeat rw [nZ (by decide)]); rw [g8_1]
  have g11_2 : get a11 2 = .bool flex := by rw [ha11]; (repeat rw [nZ (by decide)]); rw [g8_2]
  have g11_3 : get a11 3 = .agg ([.int .i64 n, sv, .bool nl, lv, uv] : List Value).toArray := by rw [ha11]; (repeat rw [nZ (by decide)]); rw [g8_3]
  have g11_7 : get a11 7 = .pointer (some ⟨w.heap.size, 0, none⟩) := by rw [ha11]; (repeat rw [nZ (by decide)]); rw [g8_7]
  have g11_8 : get a11 8 = .slice none 0 0 := by rw [ha11]; (repeat rw [nZ (by decide)]); rw [g8_8]
  have g11_9 : get a11 9 = .slice none 0 0 := by rw [ha11]; (repeat rw [nZ (by decide)]); rw [g8_9]
  have g11_10 : get a11 10 = .slice none 0 0 := by rw [ha11]; (repeat rw [nZ (by decide)]); rw [g8_10]
  have g11_11 : get a11 11 = .int .i64 0 := by rw [ha11]; (repeat rw [nZ (by decide)]); rw [g8_11]
  have g11_21 : get a11 21 = .slice q fs.length cap := by rw [ha11, nZ (by decide), nZ (by decide), sZ hz8 (by decide)]
  have g11_22 : get a11 22 = .int .i64 ((fs.length : Nat) : Int) := by rw [ha11, nZ (by decide), sZ (zZ hz8) (by decide)]
  have g11_23 : get a11 23 = .int .i64 0 := by rw [ha11, sZ (zZ (zZ hz8)) (by decide)]
  clear ha11
  refine hK10 a11 w2 ?_
  refine wp_block (wp_loop_ghost (fun (m : Nat) a' w' => ∃ (j : Nat) (v9 : Value), a'.tmps.size = 132 ∧ a'.defers = [] ∧ get a' 0 = .slice q fs.length cap ∧ get a' 1 = .int .i64 ver ∧ get a' 2 = .bool flex ∧ get a' 3 = .agg ([.int .i64 n, sv, .bool nl, lv, uv] : List Value).toArray ∧ get a' 7 = .pointer (some ⟨w.heap.size, 0, none⟩) ∧ get a' 8 = .slice none 0 0 ∧ get a' 9 = v9 ∧ get a' 10 = .slice none 0 0 ∧ get a' 11 = .int .i64 0 ∧ get a' 21 = .slice q fs.length cap ∧ get a' 22 = .int .i64 ((fs.length : Nat) : Int) ∧ get a' 23 = .int .i64 (j : Int) ∧ j + m = fs.length ∧ Own w' (From w2.heap.size w') 1 v9 (bodyW fs ver encs j).length (octets (bodyW fs ver encs j)) ∧ w'.rangeAt w.heap.size 0 [.int .i64 n, sv, .bool nl, lv, uv] ∧ Fr [] w w' ∧ w2.heap.size ≤ w'.heap.size) fs.length ?_ ?_)
  · exact ⟨0, .slice none 0 0, hz11, hd11, g11_0, g11_1, g11_2, g11_3, g11_7, g11_8, g11_9, g11_10, g11_11, g11_21, g11_22, g11_23, by omega, Own.nil, r2, hF3, (Fr.refl [] w2).size⟩
  · rintro m a12 w12 ⟨j, v9, hz12, hd12, g12_0, g12_1, g12_2, g12_3, g12_7, g12_8, g12_9, g12_10, g12_11, g12_21, g12_22, g12_23, hjm, ho, hbl, hfl, hSl⟩
    refine wp_seq_k fun K13 hK13 => ?_
    refine wp_reg ?_
    rw [wpl_cons]
    refine wp_lss (k1 := .i64) (i := (j : Int)) (j := ((fs.length : Nat) : Int)) (by rw [eval_tmp, g12_23]) (by rw [eval_tmp, g12_22]) ?_
    refine wpl_end fun a14 ha14 => ?_
    have hz14 : a14.tmps.size = 132 := by rw [ha14]; exact (zZ hz12)
    have hd14 : a14.defers = [] := by rw [ha14]; exact (dZ hd12)
    have g14_0 : get a14 0 = .slice q fs.length cap := by rw [ha14, nZ (by decide), g12_0]
    have g14_1 : get a14 1 = .int .i64 ver := by rw [ha14, nZ (by decide), g12_1]
    have g14_2 : get a14 2 = .bool flex := by rw [ha14, nZ (by decide), g12_2]
    have g14_3 : get a14 3 = .agg ([.int .i64 n, sv, .bool nl, lv, uv] : List Value).toArray := by rw [ha14, nZ (by decide), g12_3]
    have g14_7 : get a14 7 = .pointer (some ⟨w.heap.size, 0, none⟩) := by rw [ha14, nZ (by decide), g12_7]
    have g14_8 : get a14 8 = .slice none 0 0 := by rw [ha14, nZ (by decide), g12_8]
    have g14_9 : get a14 9 = v9 := by rw [ha14, nZ (by decide), g12_9]
    have g14_10 : get a14 10 = .slice none 0 0 := by rw [ha14, nZ (by decide), g12_10]
    have g14_11 : get a14 11 = .int .i64 0 := by rw [ha14, nZ (by decide), g12_11]
    have g14_21 : get a14 21 = .slice q fs.length cap := by rw [ha14, nZ (by decide), g12_21]
    have g14_22 : get a14 22 = .int .i64 ((fs.length : Nat) : Int) := by rw [ha14, nZ (by decide), g12_22]
    have g14_23 : get a14 23 = .int .i64 (j : Int) := by rw [ha14, nZ (by decide), g12_23]
    have g14_24 : get a14 24 = .bool (decide (((j : Int) : Int) < (((fs.length : Nat) : Int) : Int))) := by rw [ha14, sZ hz12 (by decide)]
    clear ha14
    refine hK13 a14 w12 ?_
    refine wp_seq_k fun K15 hK15 => ?_
    refine wp_cond_split (t := decide (((j : Int) : Int) < (((fs.length : Nat) : Int) : Int))) (by rw [eval_tmp, g14_24]) (fun hc16 => ?_) (fun hc16 => ?_)
    · have hjl : j < fs.length := by simpa using hc16
      obtain ⟨fd, hfd⟩ : ∃ fd, fs[j]? = some fd := ⟨fs[j], by simp [hjl]⟩
      obtain ⟨bl, ol, cl, hq, hbl2, hrl, hrep⟩ := hk j fd hfd
      obtain ⟨fsv, rfl, hsub⟩ := repF_iff.1 hrep
      have hft := hfree fd (List.mem_of_getElem? hfd)
      have hFm := hFi fd (List.mem_of_getElem? hfd)
      have hbs := bodyW_succ (ver := ver) (encs := encs) hfd hft
      have hble := bodyW_le (ver := ver) (encs := encs) (fs := fs) (n := j + 1) (m := fs.length) (by omega)
      have henc : encs.getD j [] = fieldW fd ver flex (atT l j) := by rw [hencs, fieldsW_at fs ver flex l 0 j fd hfd, Nat.zero_add]
      rw [henc] at hbs
      refine wp_skip ?_
      refine hK15 a14 w12 ?_
      refine wp_seq_k fun K17 hK17 => ?_
      refine wp_blockT ?_
      refine wp_seq_k fun K18 hK18 => ?_
      refine wp_reg ?_
      rw [wpl_cons]
      refine wp_mv (v := .int .i64 (j : Int)) (by rw [eval_tmp, g14_23]) ?_
      rw [wpl_cons]
      refine wp_ixN (b := bl) (o := ol) (i := j) hs_T29 (by rw [eval_tmp, nZ (by decide), g14_21, hq]) (by rw [eval_tmp, nZ (by decide), g14_23]) hjl ?_
      rw [wpl_cons]
      refine wp_loadFlat (cs := [.int .i64 fd.kind, .int .i64 fd.fr, .int .i64 fd.to, .int .i64 fd.nul, .int .i64 fd.tag, .int .i64 fd.df, .int .i64 fd.of, fsv]) (b := bl) (o := ol + j * 8) hFlT45 rfl (by rw [eval_tmp, sZ (zZ hz14) (by decide)]) (hfl.range hrl .nil) ?_
      rw [wpl_cons]
      refine wp_allocL hFlT45 ?_
      rintro w19 f19 sz19 r19 th19
      have hF20 : Fr [] w w19 := hfl.tr f19
      have hL20_w12 : Fr [] w12 w19 := (Fr.refl [] w12).tr f19
      have rb21 := f19.range hbl .nil
      rw [wpl_cons]
      refine wp_as (v := .int .i64 (j : Int)) (by rw [eval_tmp, nZ (by decide), nZ (by decide), nZ (by decide), sZ hz14 (by decide)]) ?_
      rw [wpl_cons]
      refine wp_storeL (cs := [.int .i64 fd.kind, .int .i64 fd.fr, .int .i64 fd.to, .int .i64 fd.nul, .int .i64 fd.tag, .int .i64 fd.df, .int .i64 fd.of, fsv]) (o := 0) hFlT45 rfl (by rw [eval_tmp, nZ (by decide), sZ (zZ (zZ (zZ hz14))) (by decide)]) (by rw [eval_tmp, nZ (by decide), nZ (by decide), sZ (zZ (zZ hz14)) (by decide)]) (by intro u hu; simp at hu; rcases hu with rfl | rfl | rfl | rfl | rfl | rfl | rfl | rfl <;> first | rfl | exact hsub.one) th19 ?_
      rintro w22 f22 sz22 r22 th22
      have hF22 : Fr [] w w22 := hF20.trans f22 (fun r hr => .inl (by simp at hr; subst hr; have := hfl.size; simp only; omega))
      have rb23 := f22.range rb21 (.cons (.inl (by simp only; omega)) .nil)
      have hL22_w12 : Fr [] w12 w22 := hL20_w12.trans f22 (fun r hr => .inl (by simp at hr; subst hr; have := (Fr.refl [] w12).size; simp only; omega))
      refine wpl_end fun a24 ha24 => ?_
      have hz24 : a24.tmps.size = 132 := by rw [ha24, put_none]; exact (zZ (zZ (zZ (zZ (zZ hz14)))))
      have hd24 : a24.defers = [] := by rw [ha24, put_none]; exact (dZ (dZ (dZ (dZ (dZ hd14)))))
      have g24_0 : get a24 0 = .slice q fs.length cap := by rw [ha24, put_none]; (repeat rw [nZ (by decide)]); rw [g14_0]
      have g24_1 : get a24 1 = .int .i64 ver := by rw [ha24, put_none]; (repeat rw [nZ (by decide)]); rw [g14_1]
      have g24_2 : get a24 2 = .bool flex := by rw [ha24, put_none]; (repeat rw [nZ (by decide)]); rw [g14_2]
      have g24_3 : get a24 3 = .agg ([.int .i64 n, sv, .bool nl, lv, uv] : List Value).toArray := by rw [ha24, put_none]; (repeat rw [nZ (by decide)]); rw [g14_3]
      have g24_7 : get a24 7 = .pointer (some ⟨w.heap.size, 0, none⟩) := by rw [ha24, put_none]; (repeat rw [nZ (by decide)]); rw [g14_7]
      have g24_8 : get a24 8 = .slice none 0 0 := by rw [ha24, put_none]; (repeat rw [nZ (by decide)]); rw [g14_8]
      have g24_9 : get a24 9 = v9 := by rw [ha24, put_none]; (repeat rw [nZ (by decide)]); rw [g14_9]
      have g24_10 : get a24 10 = .slice none 0 0 := by rw [ha24, put_none]; (repeat rw [nZ (by decide)]); rw [g14_10]
      have g24_11 : get a24 11 = .int .i64 0 := by rw [ha24, put_none]; (repeat rw [nZ (by decide)]); rw [g14_11]
      have g24_12 : get a24 12 = .int .i64 (j : Int) := by rw [ha24, put_none, sZ (zZ (zZ (zZ (zZ hz14)))) (by decide)]
      have g24_13 : get a24 13 = .pointer (some ⟨w12.heap.size, 0, none⟩) := by rw [ha24, put_none, nZ (by decide), sZ (zZ (zZ (zZ hz14))) (by decide)]
      have g24_21 : get a24 21 = .slice q fs.length cap := by rw [ha24, put_none]; (repeat rw [nZ (by decide)]); rw [g14_21]
      have g24_22 : get a24 22 = .int .i64 ((fs.length : Nat) : Int) := by rw [ha24, put_none]; (repeat rw [nZ (by decide)]); rw [g14_22]
      have g24_23 : get a24 23 = .int .i64 (j : Int) := by rw [ha24, put_none]; (repeat rw [nZ (by decide)]); rw [g14_23]
      clear ha24
      refine hK18 a24 w22 ?_
      refine wp_seq_k fun K25 hK25 => ?_
      refine wp_regG ?_
      refine wg_cons ?_
      refine wp_fieldAddr (b := w12.heap.size) (i := 0) (hFlT45.fld (by decide)) (by rw [eval_tmp, g24_13]) ?_
      rw [show (0 + 4 : Nat) = 4 from rfl]
      refine wg_cons ?_
      refine wp_load0 (j := 4) (v := .int .i64 fd.tag) hcT3 (by rw [eval_tmp, sZ hz24 (by decide)]) r22 rfl ?_
      refine wg_cons ?_
      refine wp_lssT (k1 := .i64) (i := fd.tag) (j := 0) hft (by rw [eval_tmp, sZ (zZ hz24) (by decide)]) rfl ?_
      refine wg_cons ?_
      refine wp_mv (v := .bool true) (by rw [eval_tmp, sZ (zZ (zZ hz24)) (by decide)]) ?_
      refine wg_yes (dj := 31) rfl (lt_sz (zZ (zZ (zZ (zZ hz24)))) (by decide)) (by rw [sZ (zZ (zZ (zZ hz24))) (by decide)]) ?_
      refine wp_loadFlat (cs := [.int .i64 fd.kind, .int .i64 fd.fr, .int .i64 fd.to, .int .i64 fd.nul, .int .i64 fd.tag, .int .i64 fd.df, .int .i64 fd.of, fsv]) (b := w12.heap.size) (o := 0) hFlT45 rfl (by rw [eval_tmp, nZ (by decide), nZ (by decide), nZ (by decide), nZ (by decide), g24_13]) r22 ?_
      refine wg_yes (dj := 31) rfl (lt_sz (zZ (zZ (zZ (zZ (zZ hz24))))) (by decide)) (by rw [nZ (by decide), sZ (zZ (zZ (zZ hz24))) (by decide)]) ?_
      refine wp_mv (v := .int .i64 ver) (by rw [eval_tmp, nZ (by decide), nZ (by decide), nZ (by decide), nZ (by decide), nZ (by decide), g24_1]) ?_
      refine wg_yes (dj := 31) rfl (lt_sz (zZ (zZ (zZ (zZ (zZ (zZ hz24)))))) (by decide)) (by rw [nZ (by decide), nZ (by decide), sZ (zZ (zZ (zZ hz24))) (by decide)]) ?_
      refine wp_callR (R := fun x wz => x = .bool (fd.has ver) ∧ Fr [] w22 wz) (vs := #[.agg ([.int .i64 fd.kind, .int .i64 fd.fr, .int .i64 fd.to, .int .i64 fd.nul, .int .i64 fd.tag, .int .i64 fd.df, .int .i64 fd.of, fsv] : List Value).toArray, .int .i64 ver]) hHa.enters (by simp only [List.map_toArray, List.map_cons, List.map_nil]; rw [show ((((((a24.put (some 28) (.pointer (some ⟨w12.heap.size, 4, none⟩))).put (some 29) (.int .i64 fd.tag)).put (some 30) (.bool true)).put (some 31) (.bool true)).put (some 32) (.agg ([.int .i64 fd.kind, .int .i64 fd.fr, .int .i64 fd.to, .int .i64 fd.nul, .int .i64 fd.tag, .int .i64 fd.df, .int .i64 fd.of, fsv] : List Value).toArray)).put (some 33) (.int .i64 ver)).eval (.tmp 32) = Value.agg ([.int .i64 fd.kind, .int .i64 fd.fr, .int .i64 fd.to, .int .i64 fd.nul, .int .i64 fd.tag, .int .i64 fd.df, .int .i64 fd.of, fsv] : List Value).toArray from (by rw [eval_tmp, nZ (by decide), sZ (zZ (zZ (zZ (zZ hz24)))) (by decide)]), show ((((((a24.put (some 28) (.pointer (some ⟨w12.heap.size, 4, none⟩))).put (some 29) (.int .i64 fd.tag)).put (some 30) (.bool true)).put (some 31) (.bool true)).put (some 32) (.agg ([.int .i64 fd.kind, .int .i64 fd.fr, .int .i64 fd.to, .int .i64 fd.nul, .int .i64 fd.tag, .int .i64 fd.df, .int .i64 fd.of, fsv] : List Value).toArray)).put (some 33) (.int .i64 ver)).eval (.tmp 33) = Value.int .i64 ver from (by rw [eval_tmp, sZ (zZ (zZ (zZ (zZ (zZ hz24))))) (by decide)])]) ((hHa.call w22 A _ fd ver (hrep.kept hF22 (by simp) (fun _ h => h))).mono (by rintro e w' ⟨rfl, hf⟩; exact ⟨_, rfl, rfl, hf⟩)) ?_
      rintro x26 w26 ⟨rfl, fr26⟩
      have hF27 : Fr [] w w26 := hF22.tr fr26
      have hL27_w12 : Fr [] w12 w26 := hL22_w12.tr fr26
      have rb28 := fr26.range rb23 .nil
      have rb29 := fr26.range r22 .nil
      refine wg_cons ?_
      refine wp_pickYes (v := .bool (fd.has ver)) (by rw [eval_tmp, nZ (by decide), nZ (by decide), nZ (by decide), sZ (zZ (zZ (zZ hz24))) (by decide)]) (by rw [eval_tmp, sZ (zZ (zZ (zZ (zZ (zZ (zZ hz24)))))) (by decide)]) ?_
      refine wg_end fun a30 ha30 => ?_
      have hz30 : a30.tmps.size = 132 := by rw [ha30]; exact (zZ (zZ (zZ (zZ (zZ (zZ (zZ (zZ hz24))))))))
      have hd30 : a30.defers = [] := by rw [ha30]; exact (dZ (dZ (dZ (dZ (dZ (dZ (dZ (dZ hd24))))))))
      have g30_0 : get a30 0 = .slice q fs.length cap := by rw [ha30]; (repeat rw [nZ (by decide)]); rw [g24_0]
      have g30_1 : get a30 1 = .int .i64 ver := by rw [ha30]; (repeat rw [nZ (by decide)]); rw [g24_1]
      have g30_2 : get a30 2 = .bool flex := by rw [ha30]; (repeat rw [nZ (by decide)]); rw [g24_2]
      have g30_3 : get a30 3 = .agg ([.int .i64 n, sv, .bool nl, lv, uv] : List Value).toArray := by rw [ha30]; (repeat rw [nZ (by decide)]); rw [g24_3]
      have g30_7 : get a30 7 = .pointer (some ⟨w.heap.size, 0, none⟩) := by rw [ha30]; (repeat rw [nZ (by decide)]); rw [g24_7]
      have g30_8 : get a30 8 = .slice none 0 0 := by rw [ha30]; (repeat rw [nZ (by decide)]); rw [g24_8]
      have g30_9 : get a30 9 = v9 := by rw [ha30]; (repeat rw [nZ (by decide)]); rw [g24_9]
      have g30_10 : get a30 10 = .slice none 0 0 := by rw [ha30]; (repeat rw [nZ (by decide)]); rw [g24_10]
      have g30_11 : get a30 11 = .int .i64 0 := by rw [ha30]; (repeat rw [nZ (by decide)]); rw [g24_11]
      have g30_12 : get a30 12 = .int .i64 (j : Int) := by rw [ha30]; (repeat rw [nZ (by decide)]); rw [g24_12]
      have g30_13 : get a30 13 = .pointer (some ⟨w12.heap.size, 0, none⟩) := by rw [ha30]; (repeat rw [nZ (by decide)]); rw [g24_13]
      have g30_21 : get a30 21 = .slice q fs.length cap := by rw [ha30]; (repeat rw [nZ (by decide)]); rw [g24_21]
      have g30_22 : get a30 22 = .int .i64 ((fs.length : Nat) : Int) := by rw [ha30]; (repeat rw [nZ (by decide)]); rw [g24_22]
      have g30_23 : get a30 23 = .int .i64 (j : Int) := by rw [ha30]; (repeat rw [nZ (by decide)]); rw [g24_23]
      have g30_35 : get a30 35 = .bool (fd.has ver) := by rw [ha30, sZ (zZ (zZ (zZ (zZ (zZ (zZ (zZ hz24))))))) (by decide)]
      clear ha30
      refine hK25 a30 w26 ?_
      refine wp_cond_split (t := (fd.has ver)) (by rw [eval_tmp, g30_35]) (fun hc31 => ?_) (fun hc31 => ?_)
      · have hhas : fd.has ver = true := hc31
        refine wp_drawR (os := [⟨some 36, .move (.tmp 9), t23, p23, e23, none⟩, ⟨some 37, .load T45 (.tmp 13), t24, p24, e24, none⟩, ⟨some 38, .move (.tmp 1), t25, p25, e25, none⟩, ⟨some 39, .move (.tmp 2), t26, p26, e26, none⟩, ⟨some 40, .load T26 (.tmp 7), t27, p27, e27, none⟩, ⟨some 41, .move (.tmp 12), t28, p28, e28, none⟩, ⟨some 42, .call ⟨.value (.func f49), #[(.tmp 40), (.tmp 41)], a1⟩, t29, p29, e29, none⟩, ⟨some 43, .call ⟨.value (.func f48), #[(.tmp 37), (.tmp 38), (.tmp 39), (.tmp 42)], a2⟩, t30, p30, e30, none⟩]) (rest := [⟨some 44, .call ⟨.builtin .append, #[(.tmp 36), (.tmp 43)], #[T22, T22]⟩, t31, p31, e31, none⟩, ⟨some 9, .assign (.tmp 44), t32, p32, e32, none⟩]) [spC [] (v9), spC [] (.agg ([.int .i64 fd.kind, .int .i64 fd.fr, .int .i64 fd.to, .int .i64 fd.nul, .int .i64 fd.tag, .int .i64 fd.df, .int .i64 fd.of, fsv] : List Value).toArray), spC [] (.int .i64 ver), spC [] (.bool flex), spC [] (.agg ([.int .i64 n, sv, .bool nl, lv, uv] : List Value).toArray), spC [] (.int .i64 (j : Int)), spR [4, 5] (fun x w' => ∃ cs : List Value, x = .agg cs.toArray ∧ RepT w' B cs (atT l j)), spR [1, 2, 3, 6] (fun x w' => Own w' (From w26.heap.size w') 1 x (fieldW fd ver flex (atT l j)).length (octets (fieldW fd ver flex (atT l j))))] 36 [] hmx he7 (by simp [shape]) (by simp [plainO]) (by simp [spC, spR]) (by simp; omega) ⟨lasts_c _ _ _, lasts_c _ _ _, lasts_c _ _ _, lasts_c _ _ _, lasts_c _ _ _, lasts_c _ _ _, (fun v w1 w2 f h => by obtain ⟨cs, h1, h2⟩ := h; exact ⟨cs, h1, h2.kept f (by simp) (fun _ h => h)⟩), (fun v w1 w2 f h => h.upTo f (From.mono f.size)), trivial⟩ ?_ ?_
        · refine opsOk_cons ?_ ?_
          · refine op_c fun a' w' hk' hf' hd' K' hK' => ?_
            refine wp_mv (v := v9) (by rw [eval_tmp, hk'.get 9 (by omega), g30_9]) ?_
            exact hK'
          refine opsOk_cons ?_ ?_
          · refine op_c fun a' w' hk' hf' hd' K' hK' => ?_
            refine wp_loadFlat (cs := [.int .i64 fd.kind, .int .i64 fd.fr, .int .i64 fd.to, .int .i64 fd.nul, .int .i64 fd.tag, .int .i64 fd.df, .int .i64 fd.of, fsv]) (b := w12.heap.size) (o := 0) hFlT45 rfl (by rw [eval_tmp, hk'.get 13 (by omega), g30_13]) (hf'.range rb29 .nil) ?_
            exact hK'
          refine opsOk_cons ?_ ?_
          · refine op_c fun a' w' hk' hf' hd' K' hK' => ?_
            refine wp_mv (v := .int .i64 ver) (by rw [eval_tmp, hk'.get 1 (by omega), g30_1]) ?_
            exact hK'
          refine opsOk_cons ?_ ?_
          · refine op_c fun a' w' hk' hf' hd' K' hK' => ?_
            refine wp_mv (v := .bool flex) (by rw [eval_tmp, hk'.get 2 (by omega), g30_2]) ?_
            exact hK'
          refine opsOk_cons ?_ ?_
          · refine op_c fun a' w' hk' hf' hd' K' hK' => ?_
            refine wp_loadFlat (cs := [.int .i64 n, sv, .bool nl, lv, uv]) (b := w.heap.size) (o := 0) hFlT26 rfl (by rw [eval_tmp, hk'.get 7 (by omega), g30_7]) (hf'.range rb28 .nil) ?_
            exact hK'
          refine opsOk_cons ?_ ?_
          · refine op_c fun a' w' hk' hf' hd' K' hK' => ?_
            refine wp_mv (v := .int .i64 (j : Int)) (by rw [eval_tmp, hk'.get 12 (by omega), g30_12]) ?_
            exact hK'
          refine opsOk_cons ?_ ?_
          · refine op_r fun a' w' hk' hf' hd' K' hK' => ?_
            refine wp_callR (R := fun x wz => ∃ cs : List Value, x = .agg cs.toArray ∧ Fr [] w' wz ∧ ((∀ b, B b → b < w'.heap.size) → RepT wz B cs (atT l j))) (vs := #[.agg ([.int .i64 n, sv, .bool nl, lv, uv] : List Value).toArray, .int .i64 (j : Int)]) hAt.enters (by simp only [List.map_toArray, List.map_cons, List.map_nil]; rw [show a'.eval (.tmp 40) = Value.agg ([.int .i64 n, sv, .bool nl, lv, uv] : List Value).toArray from (by rw [eval_tmp]; exact hd'.c (nd' := []) 4 (by simp) rfl), show a'.eval (.tmp 41) = Value.int .i64 (j : Int) from (by rw [eval_tmp]; exact hd'.c (nd' := []) 5 (by simp) rfl)]) ((hAt.call w' B _ (.mk n s nl l u) j (ht0.kept (hF27.tr hf') (by simp) (fun _ h => h))).mono (by rintro e wz ⟨cs, rfl, h1, h2⟩; exact ⟨_, rfl, cs, rfl, h1, h2⟩)) ?_
            rintro _ w32 ⟨cs32, rfl, fr32, hr32⟩
            exact hK' _ w32 ⟨cs32, rfl, hr32 (fun b hb => Nat.lt_of_lt_of_le (hB b hb) (hF27.tr hf').size)⟩ fr32
          refine opsOk_cons ?_ ?_
          · refine op_r fun a' w' hk' hf' hd' K' hK' => ?_
            obtain ⟨ct', hct, hrt'⟩ : ∃ cs : List Value, get a' 42 = .agg cs.toArray ∧ RepT w' B cs (atT l j) := hd'.at (d := 6) (by simp) rfl
            refine wp_callR (R := fun vz wz => Fr [] w' wz ∧ Own wz (From w'.heap.size wz) 1 vz (fieldW fd ver flex (atT l j)).length (octets (fieldW fd ver flex (atT l j)))) (vs := #[.agg ([.int .i64 fd.kind, .int .i64 fd.fr, .int .i64 fd.to, .int .i64 fd.nul, .int .i64 fd.tag, .int .i64 fd.df, .int .i64 fd.of, fsv] : List Value).toArray, .int .i64 ver, .bool flex, .agg ct'.toArray]) hFm.enters (by simp only [List.map_toArray, List.map_cons, List.map_nil]; rw [show a'.eval (.tmp 37) = Value.agg ([.int .i64 fd.kind, .int .i64 fd.fr, .int .i64 fd.to, .int .i64 fd.nul, .int .i64 fd.tag, .int .i64 fd.df, .int .i64 fd.of, fsv] : List Value).toArray from (by rw [eval_tmp]; exact hd'.c (nd' := []) 1 (by simp) rfl), show a'.eval (.tmp 38) = Value.int .i64 ver from (by rw [eval_tmp]; exact hd'.c (nd' := []) 2 (by simp) rfl), show a'.eval (.tmp 39) = Value.bool flex from (by rw [eval_tmp]; exact hd'.c (nd' := []) 3 (by simp) rfl), show a'.eval (.tmp 42) = Value.agg ct'.toArray from (by rw [eval_tmp]; exact hct)]) (calls_fresh (hFm.call w' A B ver flex _ ct' (atT l j) (hrep.kept (hF27.tr hf') (by simp) (fun _ h => h)) hrt' (fun b hb => Nat.lt_of_lt_of_le (hA b hb) (hF27.tr hf').size) (fun b hb => Nat.lt_of_lt_of_le (hB b hb) (hF27.tr hf').size) (by rw [hbs, if_pos hhas, List.length_append] at hble; omega))) ?_
            rintro x33 w33 ⟨fr33, ow33⟩
            exact hK' x33 w33 (ow33.from hf'.size) fr33
          exact opsOk_nil
        intro a34 w34 k34 f34 hd_34
        have g34_0 : get a34 0 = .slice q fs.length cap := by rw [k34.get 0 (by omega), g30_0]
        have g34_1 : get a34 1 = .int .i64 ver := by rw [k34.get 1 (by omega), g30_1]
        have g34_2 : get a34 2 = .bool flex := by rw [k34.get 2 (by omega), g30_2]
        have g34_3 : get a34 3 = .agg ([.int .i64 n, sv, .bool nl, lv, uv] : List Value).toArray := by rw [k34.get 3 (by omega), g30_3]
        have g34_7 : get a34 7 = .pointer (some ⟨w.heap.size, 0, none⟩) := by rw [k34.get 7 (by omega), g30_7]
        have g34_8 : get a34 8 = .slice none 0 0 := by rw [k34.get 8 (by omega), g30_8]
        have g34_10 : get a34 10 = .slice none 0 0 := by rw [k34.get 10 (by omega), g30_10]
        have g34_11 : get a34 11 = .int .i64 0 := by rw [k34.get 11 (by omega), g30_11]
        have g34_21 : get a34 21 = .slice q fs.length cap := by rw [k34.get 21 (by omega), g30_21]
        have g34_22 : get a34 22 = .int .i64 ((fs.length : Nat) : Int) := by rw [k34.get 22 (by omega), g30_22]
        have g34_23 : get a34 23 = .int .i64 (j : Int) := by rw [k34.get 23 (by omega), g30_23]
        have hz34 : a34.tmps.size = 132 := k34.size.trans hz30
        have hd34 : a34.defers = [] := k34.defers.trans hd30
        have g34_36 : get a34 36 = v9 := hd_34.c (nd' := []) 0 (by simp) rfl
        have hF35 : Fr [] w w34 := hF27.tr f34
        have hL35_w12 : Fr [] w12 w34 := hL27_w12.tr f34
        have rb36 := f34.range rb28 .nil
        have rb37 := f34.range rb29 .nil
        have hv : Own w34 (From w26.heap.size w34) 1 (get a34 43) (fieldW fd ver flex (atT l j)).length (octets (fieldW fd ver flex (atT l j))) := hd_34.at (d := 7) (by simp) rfl
        rw [wpl_cons]
        have ob38 := ho.upTo hL35_w12 (From.mono hL35_w12.size)
        have hSl38 : w2.heap.size ≤ w34.heap.size := Nat.le_trans hSl hL35_w12.size
        refine wp_appO hs_T22 hz_T22 (by rw [eval_tmp, g34_36]) rfl ob38 (hv.octE (by rw [hbs, if_pos hhas, List.length_append] at hble; omega)) (by rw [hbs, if_pos hhas, List.length_append] at hble; omega) ?_
        rintro v38 w38 fa38 oa38 sp38 bk38
        have ho38 := oa38.imp_A (new_or hSl38 fa38.size)
        have hF38 : Fr [] w w38 := fr_own hF35 fa38 (ob38.from (s0 := w.heap.size) (by omega)) (fun b hb => hb.1)
        have rb39 := fa38.range rb36 (fun r hr => .inl fun e => by have := (ob38.spare_in r hr).1; have := hS0; omega)
        rw [wpl_cons]
        refine wp_as (v := v38) (by rw [eval_tmp, sZ hz34 (by decide)]) ?_
        refine wpl_end fun a40 ha40 => ?_
        have hz40 : a40.tmps.size = 132 := by rw [ha40]; exact (zZ (zZ hz34))
        have hd40 : a40.defers = [] := by rw [ha40]; exact (dZ (dZ hd34))
        have g40_0 : get a40 0 = .slice q fs.length cap := by rw [ha40, nZ (by decide), nZ (by decide), g34_0]
        have g40_1 : get a40 1 = .int .i64 ver := by rw [ha40, nZ (by decide), nZ (by decide), g34_1]
        have g40_2 : get a40 2 = .bool flex := by rw [ha40, nZ (by decide), nZ (by decide), g34_2]
        have g40_3 : get a40 3 = .agg ([.int .i64 n, sv, .bool nl, lv, uv] : List Value).toArray := by rw [ha40, nZ (by decide), nZ (by decide), g34_3]
        have g40_7 : get a40 7 = .pointer (some ⟨w.heap.size, 0, none⟩) := by rw [ha40, nZ (by decide), nZ (by decide), g34_7]
        have g40_8 : get a40 8 = .slice none 0 0 := by rw [ha40, nZ (by decide), nZ (by decide), g34_8]
        have g40_9 : get a40 9 = v38 := by rw [ha40, sZ (zZ hz34) (by decide)]
        have g40_10 : get a40 10 = .slice none 0 0 := by rw [ha40, nZ (by decide), nZ (by decide), g34_10]
        have g40_11 : get a40 11 = .int .i64 0 := by rw [ha40, nZ (by decide), nZ (by decide), g34_11]
        have g40_21 : get a40 21 = .slice q fs.length cap := by rw [ha40, nZ (by decide), nZ (by decide), g34_21]
        have g40_22 : get a40 22 = .int .i64 ((fs.length : Nat) : Int) := by rw [ha40, nZ (by decide), nZ (by decide), g34_22]
        have g40_23 : get a40 23 = .int .i64 (j : Int) := by rw [ha40, nZ (by decide), nZ (by decide), g34_23]
        clear ha40
        have hSN := Nat.le_trans hSl38 fa38.size
        refine hK17 a40 w38 ?_
        refine wp_reg ?_
        rw [wpl_cons]
        refine wp_add (k1 := .i64) (i := (j : Int)) (j := 1) (by rw [eval_tmp, g40_23]) rfl ?_
        rw [show (IntKind.i64.wrap (((j : Int) : Int) + (1 : Int)) : Int) = (((j + 1 : Nat) : Int) : Int) from by simp only [IntKind.wrap, IntKind.bits, IntKind.signed]; simp; omega]
        rw [wpl_cons]
        refine wp_mv (v := .int .i64 ((j + 1 : Nat) : Int)) (by rw [eval_tmp, sZ hz40 (by decide)]) ?_
        refine wpl_end fun a41 ha41 => ?_
        have hz41 : a41.tmps.size = 132 := by rw [ha41]; exact (zZ (zZ hz40))
        have hd41 : a41.defers = [] := by rw [ha41]; exact (dZ (dZ hd40))
        have g41_0 : get a41 0 = .slice q fs.length cap := by rw [ha41, nZ (by decide), nZ (by decide), g40_0]
        have g41_1 : get a41 1 = .int .i64 ver := by rw [ha41, nZ (by decide), nZ (by decide), g40_1]
        have g41_2 : get a41 2 = .bool flex := by rw [ha41, nZ (by decide), nZ (by decide), g40_2]
        have g41_3 : get a41 3 = .agg ([.int .i64 n, sv, .bool nl, lv, uv] : List Value).toArray := by rw [ha41, nZ (by decide), nZ (by decide), g40_3]
        have g41_7 : get a41 7 = .pointer (some ⟨w.heap.size, 0, none⟩) := by rw [ha41, nZ (by decide), nZ (by decide), g40_7]
        have g41_8 : get a41 8 = .slice none 0 0 := by rw [ha41, nZ (by decide), nZ (by decide), g40_8]
        have g41_9 : get a41 9 = v38 := by rw [ha41, nZ (by decide), nZ (by decide), g40_9]
        have g41_10 : get a41 10 = .slice none 0 0 := by rw [ha41, nZ (by decide), nZ (by decide), g40_10]
        have g41_11 : get a41 11 = .int .i64 0 := by rw [ha41, nZ (by decide), nZ (by decide), g40_11]
        have g41_21 : get a41 21 = .slice q fs.length cap := by rw [ha41, nZ (by decide), nZ (by decide), g40_21]
        have g41_22 : get a41 22 = .int .i64 ((fs.length : Nat) : Int) := by rw [ha41, nZ (by decide), nZ (by decide), g40_22]
        have g41_23 : get a41 23 = .int .i64 ((j + 1 : Nat) : Int) := by rw [ha41, sZ (zZ hz40) (by decide)]
        clear ha41
        refine ⟨m - 1, by omega, j + 1, _, hz41, hd41, g41_0, g41_1, g41_2, g41_3, g41_7, g41_8, g41_9, g41_10, g41_11, g41_21, g41_22, g41_23, by omega, ?_, rb39, hF38, ?_⟩
        · rw [hbs, if_pos hhas]; exact ho38
        · exact hSN
      · have hhas : fd.has ver = false := hc31
        refine wp_skip ?_
        refine hK17 a30 w26 ?_
        refine wp_reg ?_
        rw [wpl_cons]
        refine wp_add (k1 := .i64) (i := (j : Int)) (j := 1) (by rw [eval_tmp, g30_23]) rfl ?_
        rw [show (IntKind.i64.wrap (((j : Int) : Int) + (1 : Int)) : Int) = (((j + 1 : Nat) : Int) : Int) from by simp only [IntKind.wrap, IntKind.bits, IntKind.signed]; simp; omega]
        rw [wpl_cons]
        refine wp_mv (v := .int .i64 ((j + 1 : Nat) : Int)) (by rw [eval_tmp, sZ hz30 (by decide)]) ?_
        refine wpl_end fun a42 ha42 => ?_
        have hz42 : a42.tmps.size = 132 := by rw [ha42]; exact (zZ (zZ hz30))
        have hd42 : a42.defers = [] := by rw [ha42]; exact (dZ (dZ hd30))
        have g42_0 : get a42 0 = .slice q fs.length cap := by rw [ha42, nZ (by decide), nZ (by decide), g30_0]
        have g42_1 : get a42 1 = .int .i64 ver := by rw [ha42, nZ (by decide), nZ (by decide), g30_1]
        have g42_2 : get a42 2 = .bool flex := by rw [ha42, nZ (by decide), nZ (by decide), g30_2]
        have g42_3 : get a42 3 = .agg ([.int .i64 n, sv, .bool nl, lv, uv] : List Value).toArray := by rw [ha42, nZ (by decide), nZ (by decide), g30_3]
        have g42_7 : get a42 7 = .pointer (some ⟨w.heap.size, 0, none⟩) := by rw [ha42, nZ (by decide), nZ (by decide), g30_7]
        have g42_8 : get a42 8 = .slice none 0 0 := by rw [ha42, nZ (by decide), nZ (by decide), g30_8]
        have g42_9 : get a42 9 = v9 := by rw [ha42, nZ (by decide), nZ (by decide), g30_9]
        have g42_10 : get a42 10 = .slice none 0 0 := by rw [ha42, nZ (by decide), nZ (by decide), g30_10]
        have g42_11 : get a42 11 = .int .i64 0 := by rw [ha42, nZ (by decide), nZ (by decide), g30_11]
        have g42_21 : get a42 21 = .slice q fs.length cap := by rw [ha42, nZ (by decide), nZ (by decide), g30_21]
        have g42_22 : get a42 22 = .int .i64 ((fs.length : Nat) : Int) := by rw [ha42, nZ (by decide), nZ (by decide), g30_22]
        have g42_23 : get a42 23 = .int .i64 ((j + 1 : Nat) : Int) := by rw [ha42, sZ (zZ hz30) (by decide)]
        clear ha42
        refine ⟨m - 1, by omega, j + 1, _, hz42, hd42, g42_0, g42_1, g42_2, g42_3, g42_7, g42_8, g42_9, g42_10, g42_11, g42_21, g42_22, g42_23, by omega, ?_, rb28, hF27, ?_⟩
        · rw [hbs, hhas, if_neg (by simp), List.append_nil]; exact ho.upTo hL27_w12 (From.mono hL27_w12.size)
        · exact Nat.le_trans hSl hL27_w12.size
    · have hj0 : j = fs.length := by simp at hc16; omega
      rw [hj0] at ho
      refine wp_exit ?_
      show K9 a14 w12
      refine hK9 a14 w12 (then_up ?_)
      refine then_id (wp_seq_k fun K43 hK43 => ?_)
      refine wp_seq_k fun K44 hK44 => ?_
      refine wp_reg ?_
      rw [wpl_cons]
      refine wp_mv (v := .bool flex) (by rw [eval_tmp, g14_2]) ?_
      rw [wpl_cons]
      refine wp_not (b := flex) (by rw [eval_tmp, sZ hz14 (by decide)]) ?_
      refine wpl_end fun a45 ha45 => ?_
      have hz45 : a45.tmps.size = 132 := by rw [ha45]; exact (zZ (zZ hz14))
      have hd45 : a45.defers = [] := by rw [ha45]; exact (dZ (dZ hd14))
      have g45_0 : get a45 0 = .slice q fs.length cap := by rw [ha45, nZ (by decide), nZ (by decide), g14_0]
      have g45_1 : get a45 1 = .int .i64 ver := by rw [ha45, nZ (by decide), nZ (by decide), g14_1]
      have g45_2 : get a45 2 = .bool flex := by rw [ha45, nZ (by decide), nZ (by decide), g14_2]
      have g45_3 : get a45 3 = .agg ([.int .i64 n, sv, .bool nl, lv, uv] : List Value).toArray := by rw [ha45, nZ (by decide), nZ (by decide), g14_3]
      have g45_7 : get a45 7 = .pointer (some ⟨w.heap.size, 0, none⟩) := by rw [ha45, nZ (by decide), nZ (by decide), g14_7]
      have g45_8 : get a45 8 = .slice none 0 0 := by rw [ha45, nZ (by decide), nZ (by decide), g14_8]
      have g45_9 : get a45 9 = v9 := by rw [ha45, nZ (by decide), nZ (by decide), g14_9]
      have g45_10 : get a45 10 = .slice none 0 0 := by rw [ha45, nZ (by decide), nZ (by decide), g14_10]
      have g45_11 : get a45 11 = .int .i64 0 := by rw [ha45, nZ (by decide), nZ (by decide), g14_11]
      have g45_21 : get a45 21 = .slice q fs.length cap := by rw [ha45, nZ (by decide), nZ (by decide), g14_21]
      have g45_22 : get a45 22 = .int .i64 ((fs.length : Nat) : Int) := by rw [ha45, nZ (by decide), nZ (by decide), g14_22]
      have g45_23 : get a45 23 = .int .i64 (j : Int) := by rw [ha45, nZ (by decide), nZ (by decide), g14_23]
      have g45_47 : get a45 47 = .bool (!flex) := by rw [ha45, sZ (zZ hz14) (by decide)]
      clear ha45
      refine hK44 a45 w12 ?_
      refine wp_cond_split (t := !flex) (by rw [eval_tmp, g45_47]) (fun hc46 => ?_) (fun hc46 => ?_)
      · have hfx : flex = false := by simpa using hc46
        refine wp_seq_k fun K47 hK47 => ?_
        refine wp_reg ?_
        rw [wpl_cons]
        refine wp_mv (v := v9) (by rw [eval_tmp, g45_9]) ?_
        rw [wpl_cons]
        refine wp_as (v := v9) (by rw [eval_tmp, sZ hz45 (by decide)]) ?_
        refine wpl_end fun a48 ha48 => ?_
        have hz48 : a48.tmps.size = 132 := by rw [ha48]; exact (zZ (zZ hz45))
        have hd48 : a48.defers = [] := by rw [ha48]; exact (dZ (dZ hd45))
        have g48_8 : get a48 8 = v9 := by rw [ha48, sZ (zZ hz45) (by decide)]
        clear ha48
        refine hK47 a48 w12 ?_
        refine wp_ret ?_
        rw [hPW, hfx, if_neg (by simp)]
        exact ⟨hd48, _, results_is hres g48_8, _, rfl, hfl, ho.from (by omega)⟩
      · have hfx : flex = true := by simpa using hc46
        refine wp_skip ?_
        refine hK43 a45 w12 (then_up ?_)
        refine then_id (wp_seq_k fun K49 hK49 => ?_)
        refine wp_seq_k fun K50 hK50 => ?_
        refine wp_reg ?_
        rw [wpl_cons]
        refine wp_mv (v := .slice q fs.length cap) (by rw [eval_tmp, g45_0]) ?_
        rw [wpl_cons]
        refine wp_callR (R := fun x wz => x = .int .u32 0 ∧ Fr [] w12 wz) (vs := #[.slice q fs.length cap]) hKn.enters (by simp only [List.map_toArray, List.map_cons, List.map_nil]; rw [show (a45.put (some 49) (.slice q fs.length cap)).eval (.tmp 49) = Value.slice q fs.length cap from (by rw [eval_tmp, sZ hz45 (by decide)])]) ((hKn.call w12 A _ fs (hfs.kept hfl (by simp) (fun _ h => h)) htg).mono (by rintro e w' ⟨rfl, hf⟩; exact ⟨_, rfl, by rw [hkn0]; rfl, hf⟩)) ?_
        rintro x51 w51 ⟨rfl, fr51⟩
        have hF52 : Fr [] w w51 := hfl.tr fr51
        have hL52_w12 : Fr [] w12 w51 := (Fr.refl [] w12).tr fr51
        have rb53 := fr51.range hbl .nil
        rw [wpl_cons]
        refine wp_convert (k1 := .u32) (i := 0) hT58_u32 hT3_i64 (by rw [eval_tmp, sZ (zZ hz45) (by decide)]) ?_
        rw [show (IntKind.i64.wrap (0 : Int)) = (0 : Int) from by decide]
        rw [wpl_cons]
        refine wp_mv (v := .int .i64 0) rfl ?_
        refine wpl_end fun a54 ha54 => ?_
        have hz54 : a54.tmps.size = 132 := by rw [ha54]; exact (zZ (zZ (zZ (zZ hz45))))
        have hd54 : a54.defers = [] := by rw [ha54]; exact (dZ (dZ (dZ (dZ hd45))))
        have g54_0 : get a54 0 = .slice q fs.length cap := by rw [ha54]; (repeat rw [nZ (by decide)]); rw [g45_0]
        have g54_1 : get a54 1 = .int .i64 ver := by rw [ha54]; (repeat rw [nZ (by decide)]); rw [g45_1]
        have g54_2 : get a54 2 = .bool flex := by rw [ha54]; (repeat rw [nZ (by decide)]); rw [g45_2]
        have g54_3 : get a54 3 = .agg ([.int .i64 n, sv, .bool nl, lv, uv] : List Value).toArray := by rw [ha54]; (repeat rw [nZ (by decide)]); rw [g45_3]
        have g54_7 : get a54 7 = .pointer (some ⟨w.heap.size, 0, none⟩) := by rw [ha54]; (repeat rw [nZ (by decide)]); rw [g45_7]
        have g54_8 : get a54 8 = .slice none 0 0 := by rw [ha54]; (repeat rw [nZ (by decide)]); rw [g45_8]
        have g54_9 : get a54 9 = v9 := by rw [ha54]; (repeat rw [nZ (by decide)]); rw [g45_9]
        have g54_10 : get a54 10 = .slice none 0 0 := by rw [ha54]; (repeat rw [nZ (by decide)]); rw [g45_10]
        have g54_11 : get a54 11 = .int .i64 0 := by rw [ha54]; (repeat rw [nZ (by decide)]); rw [g45_11]
        have g54_21 : get a54 21 = .slice q fs.length cap := by rw [ha54]; (repeat rw [nZ (by decide)]); rw [g45_21]
        have g54_22 : get a54 22 = .int .i64 ((fs.length : Nat) : Int) := by rw [ha54]; (repeat rw [nZ (by decide)]); rw [g45_22]
        have g54_23 : get a54 23 = .int .i64 (j : Int) := by rw [ha54]; (repeat rw [nZ (by decide)]); rw [g45_23]
        have g54_51 : get a54 51 = .int .i64 0 := by rw [ha54, nZ (by decide), sZ (zZ (zZ hz45)) (by decide)]
        have g54_52 : get a54 52 = .int .i64 0 := by rw [ha54, sZ (zZ (zZ (zZ hz45))) (by decide)]
        clear ha54
        refine hK50 a54 w51 ?_
        refine wp_block (wp_loop_ghost (fun (m2 : Nat) a' w' => a'.tmps.size = 132 ∧ a'.defers = [] ∧ get a' 0 = .slice q fs.length cap ∧ get a' 1 = .int .i64 ver ∧ get a' 2 = .bool flex ∧ get a' 3 = .agg ([.int .i64 n, sv, .bool nl, lv, uv] : List Value).toArray ∧ get a' 7 = .pointer (some ⟨w.heap.size, 0, none⟩) ∧ get a' 8 = .slice none 0 0 ∧ get a' 9 = v9 ∧ get a' 10 = .slice none 0 0 ∧ get a' 11 = .int .i64 0 ∧ get a' 21 = .slice q fs.length cap ∧ get a' 22 = .int .i64 ((fs.length : Nat) : Int) ∧ get a' 23 = .int .i64 (j : Int) ∧ get a' 51 = .int .i64 0 ∧ get a' 52 = .int .i64 0 ∧ Own w' (From w2.heap.size w') 1 v9 (bodyW fs ver encs fs.length).length (octets (bodyW fs ver encs fs.length)) ∧ w'.rangeAt w.heap.size 0 [.int .i64 n, sv, .bool nl, lv, uv] ∧ Fr [] w w' ∧ w2.heap.size ≤ w'.heap.size) 0 ?_ ?_)
        · exact ⟨hz54, hd54, g54_0, g54_1, g54_2, g54_3, g54_7, g54_8, g54_9, g54_10, g54_11, g54_21, g54_22, g54_23, g54_51, g54_52, ho.upTo hL52_w12 (From.mono hL52_w12.size), rb53, hF52, Nat.le_trans hSl hL52_w12.size⟩
        · rintro m2 a55 w55 ⟨hz55, hd55, g55_0, g55_1, g55_2, g55_3, g55_7, g55_8, g55_9, g55_10, g55_11, g55_21, g55_22, g55_23, g55_51, g55_52, ho2, hbl3, hfl2, hSl2⟩
          refine wp_seq_k fun K56 hK56 => ?_
          refine wp_reg ?_
          rw [wpl_cons]
          refine wp_lssF (k1 := .i64) (i := 0) (j := 0) (by decide) (by rw [eval_tmp, g55_52]) (by rw [eval_tmp, g55_51]) ?_
          refine wpl_end fun a57 ha57 => ?_
          have hz57 : a57.tmps.size = 132 := by rw [ha57]; exact (zZ hz55)
          have hd57 : a57.defers = [] := by rw [ha57]; exact (dZ hd55)
          have g57_0 : get a57 0 = .slice q fs.length cap := by rw [ha57, nZ (by decide), g55_0]
          have g57_7 : get a57 7 = .pointer (some ⟨w.heap.size, 0, none⟩) := by rw [ha57, nZ (by decide), g55_7]
          have g57_9 : get a57 9 = v9 := by rw [ha57, nZ (by decide), g55_9]
          have g57_10 : get a57 10 = .slice none 0 0 := by rw [ha57, nZ (by decide), g55_10]
          have g57_11 : get a57 11 = .int .i64 0 := by rw [ha57, nZ (by decide), g55_11]
          have g57_53 : get a57 53 = .bool false := by rw [ha57, sZ hz55 (by decide)]
          clear ha57
          refine hK56 a57 w55 ?_
          refine wp_seq_k fun K58 hK58 => ?_
          refine wp_cond_split (t := false) (by rw [eval_tmp, g57_53]) (fun h => by cases h) (fun _ => ?_)
          refine wp_exit ?_
          show K49 a57 w55
          refine hK49 a57 w55 (then_up ?_)
          refine then_id (wp_seq_k fun K60 hK60 => ?_)
          refine wp_seq_k fun K61 hK61 => ?_
          refine wp_reg ?_
          rw [wpl_cons]
          refine wp_mv (v := .slice q fs.length cap) (by rw [eval_tmp, g57_0]) ?_
          rw [wpl_cons]
          refine wp_fieldAddr (b := w.heap.size) (i := 0) (hFlT26.fld (by decide)) (by rw [eval_tmp, nZ (by decide), g57_7]) ?_
          rw [show (0 + 4 : Nat) = 4 from rfl]
          rw [wpl_cons]
          refine wp_load0 (j := 4) (v := uv) hcT24 (by rw [eval_tmp, sZ (zZ hz57) (by decide)]) hbl3 rfl ?_
          rw [wpl_cons]
          refine wp_callR (R := fun x wz => Fr [] w55 wz ∧ TagsR wz (fun b => B b ∨ From w55.heap.size wz b) x (unknownW fs u)) (vs := #[.slice q fs.length cap, uv]) hUn.enters (by simp only [List.map_toArray, List.map_cons, List.map_nil]; rw [show (((a57.put (some 97) (.slice q fs.length cap)).put (some 98) (.pointer (some ⟨w.heap.size, 4, none⟩))).put (some 99) uv).eval (.tmp 97) = Value.slice q fs.length cap from (by rw [eval_tmp, nZ (by decide), nZ (by decide), sZ hz57 (by decide)]), show (((a57.put (some 97) (.slice q fs.length cap)).put (some 98) (.pointer (some ⟨w.heap.size, 4, none⟩))).put (some 99) uv).eval (.tmp 99) = uv from (by rw [eval_tmp, sZ (zZ (zZ hz57)) (by decide)])]) ((hUn.call w55 A B _ fs uv u (hfs.kept hfl2 (by simp) (fun _ h => h)) htg (hu.kept hfl2 (by simp) (fun _ h => h)) (fun b hb => Nat.lt_of_lt_of_le (hB b hb) hfl2.size)).mono (by rintro e wz ⟨x, rfl, h1, h2⟩; exact ⟨x, rfl, h1, h2⟩)) ?_
          rintro x62 w62 ⟨fr62, hus62⟩
          have hus := hus62.kept (A' := fun b => b < w62.heap.size) (Fr.refl [] _) (by simp) (by rintro b (hb | hb); exact Nat.lt_of_lt_of_le (hB b hb) (Nat.le_trans hfl2.size fr62.size); exact hb.2)
          obtain ⟨qu, cu, rfl, -, hub, -⟩ := hus.sl2
          have hF63 : Fr [] w w62 := hfl2.tr fr62
          have hL63_w55 : Fr [] w55 w62 := (Fr.refl [] w55).tr fr62
          have rb64 := fr62.range hbl3 .nil
          rw [wpl_cons]
          refine wp_lenS (n := (unknownW fs u).length) hsT24 (by rw [eval_tmp, sZ (zZ (zZ (zZ hz57))) (by decide)]) ?_
          rw [wpl_cons]
          refine wp_mv (v := .int .i64 0) rfl ?_
          refine wpl_end fun a65 ha65 => ?_
          have hz65 : a65.tmps.size = 132 := by rw [ha65]; exact (zZ (zZ (zZ (zZ (zZ (zZ hz57))))))
          have hd65 : a65.defers = [] := by rw [ha65]; exact (dZ (dZ (dZ (dZ (dZ (dZ hd57))))))
          have g65_9 : get a65 9 = v9 := by rw [ha65]; (repeat rw [nZ (by decide)]); rw [g57_9]
          have g65_10 : get a65 10 = .slice none 0 0 := by rw [ha65]; (repeat rw [nZ (by decide)]); rw [g57_10]
          have g65_11 : get a65 11 = .int .i64 0 := by rw [ha65]; (repeat rw [nZ (by decide)]); rw [g57_11]
          have g65_100 : get a65 100 = .slice qu ((unknownW fs u).length) cu := by rw [ha65, nZ (by decide), nZ (by decide), sZ (zZ (zZ (zZ hz57))) (by decide)]
          have g65_101 : get a65 101 = .int .i64 (((unknownW fs u).length : Nat) : Int) := by rw [ha65, nZ (by decide), sZ (zZ (zZ (zZ (zZ hz57)))) (by decide)]
          have g65_102 : get a65 102 = .int .i64 0 := by rw [ha65, sZ (zZ (zZ (zZ (zZ (zZ hz57))))) (by decide)]
          clear ha65
          have ho4 := ho2.upTo hL63_w55 (From.mono hL63_w55.size)
          have hb4 : ∀ b, blk v9 = some b → b < w62.heap.size := fun b hb => (ho4.blk_lt hb).2
          have hS2 : w2.heap.size ≤ w62.heap.size := Nat.le_trans hSl2 hL63_w55.size
          refine hK61 a65 w62 ?_
          have hul : (unksW fs (.mk n s nl l u)).length = (unknownW fs u).length := by simp [unksW, T.u]
          have hlenF : (bodyW fs ver encs fs.length).length + (uvW (unksW fs (.mk n s nl l u)).length).length + ((unksW fs (.mk n s nl l u)).flatMap pairW).length ≤ 4294967296 := by rw [hfx, if_pos rfl] at hlen; simp only [List.length_append] at hlen; omega
          refine wp_block (wp_loop_ghost (fun (m3 : Nat) a' w' => ∃ (j : Nat) (v10 : Value), a'.tmps.size = 132 ∧ a'.defers = [] ∧ get a' 9 = v9 ∧ get a' 10 = v10 ∧ get a' 11 = .int .i64 (j : Int) ∧ get a' 100 = .slice qu ((unknownW fs u).length) cu ∧ get a' 101 = .int .i64 (((unknownW fs u).length : Nat) : Int) ∧ get a' 102 = .int .i64 (j : Int) ∧ j + m3 = (unknownW fs u).length ∧ Own w' (From w2.heap.size w') 1 v9 (bodyW fs ver encs fs.length).length (octets (bodyW fs ver encs fs.length)) ∧ Own w' (From w62.heap.size w') 1 v10 (((unksW fs (.mk n s nl l u)).take j).flatMap pairW).length (octets (((unksW fs (.mk n s nl l u)).take j).flatMap pairW)) ∧ TagsR w' (fun b => b < w62.heap.size) (.slice qu (unknownW fs u).length cu) (unknownW fs u) ∧ Fr [] w w' ∧ w62.heap.size ≤ w'.heap.size) ((unknownW fs u).length) ?_ ?_)
          · exact ⟨0, .slice none 0 0, hz65, hd65, g65_9, g65_10, g65_11, g65_100, g65_101, g65_102, by omega, ho4, Own.nil, hus, hF63, Nat.le_refl _⟩
          · rintro m3 a66 w66 ⟨j, v10, hz66, hd66, g66_9, g66_10, g66_11, g66_100, g66_101, g66_102, hjm6, ho9, ho10, hus6, hfl6, hSl6⟩
            refine wp_seq_k fun K67 hK67 => ?_
            refine wp_reg ?_
            rw [wpl_cons]
            refine wp_lss (k1 := .i64) (i := (j : Int)) (j := (((unknownW fs u).length : Nat) : Int)) (by rw [eval_tmp, g66_102]) (by rw [eval_tmp, g66_101]) ?_
            refine wpl_end fun a68 ha68 => ?_
            have hz68 : a68.tmps.size = 132 := by rw [ha68]; exact (zZ hz66)
            have hd68 : a68.defers = [] := by rw [ha68]; exact (dZ hd66)
            have g68_9 : get a68 9 = v9 := by rw [ha68, nZ (by decide), g66_9]
            have g68_10 : get a68 10 = v10 := by rw [ha68, nZ (by decide), g66_10]
            have g68_11 : get a68 11 = .int .i64 (j : Int) := by rw [ha68, nZ (by decide), g66_11]
            have g68_100 : get a68 100 = .slice qu ((unknownW fs u).length) cu := by rw [ha68, nZ (by decide), g66_100]
            have g68_101 : get a68 101 = .int .i64 (((unknownW fs u).length : Nat) : Int) := by rw [ha68, nZ (by decide), g66_101]
            have g68_102 : get a68 102 = .int .i64 (j : Int) := by rw [ha68, nZ (by decide), g66_102]
            have g68_103 : get a68 103 = .bool (decide (((j : Int) : Int) < ((((unknownW fs u).length : Nat) : Int) : Int))) := by rw [ha68, sZ hz66 (by decide)]
            clear ha68
            refine hK67 a68 w66 ?_
            refine wp_seq_k fun K69 hK69 => ?_
            refine wp_cond_split (t := decide (((j : Int) : Int) < ((((unknownW fs u).length : Nat) : Int) : Int))) (by rw [eval_tmp, g68_103]) (fun hc70 => ?_) (fun hc70 => ?_)
            · have hjl : j < (unknownW fs u).length := by simpa using hc70
              obtain ⟨⟨kk, x⟩, hp⟩ : ∃ p, (unknownW fs u)[j]? = some p := ⟨(unknownW fs u)[j], by simp [hjl]⟩
              obtain ⟨qu', cu', hqe, -, -, hku⟩ := hus6.sl2
              obtain ⟨bl, ol, xv, hq, hbl7, hkk, hrl, hox⟩ := hku j kk x hp
              cases hqe
              have htk := take_pair (t := (.mk n s nl l u)) (j := j) (show (unksW fs (.mk n s nl l u))[j]? = some (kk, wholeS x) from by simp only [unksW, List.getElem?_map, T.u, hp]; rfl)
              have hpl := take_pair_le (fs := fs) (t := (.mk n s nl l u)) (j + 1)
              rw [htk, List.length_append] at hpl
              have hpw : (pairW (kk, wholeS x)).length = (uvW kk).length + ((uvW (wholeS x).length).length + (wholeS x).length) := by simp [pairW]
              refine wp_skip ?_
              refine hK69 a68 w66 ?_
              refine wp_seq_k fun K71 hK71 => ?_
              refine wp_blockT ?_
              refine wp_seq_k fun K72 hK72 => ?_
              refine wp_reg ?_
              rw [wpl_cons]
              refine wp_ixN (b := bl) (o := ol) (i := j) hs_T24 (by rw [eval_tmp, g68_100, hq]) (by rw [eval_tmp, g68_102]) hjl ?_
              rw [wpl_cons]
              refine wp_loadFlat (cs := [.int .u32 ((kk : Nat) : Int), xv]) (b := bl) (o := ol + j * 2) hFlT60 rfl (by rw [eval_tmp, sZ hz68 (by decide)]) ((Fr.refl [] w66).range hrl .nil) ?_
              rw [wpl_cons]
              refine wp_allocL hFlT60 ?_
              rintro w73 f73 sz73 r73 th73
              have hF74 : Fr [] w w73 := hfl6.tr f73
              have hL74_w66 : Fr [] w66 w73 := (Fr.refl [] w66).tr f73
              rw [wpl_cons]
              refine wp_storeL (cs := [.int .u32 ((kk : Nat) : Int), xv]) (o := 0) hFlT60 rfl (by rw [eval_tmp, sZ (zZ (zZ hz68)) (by decide)]) (by rw [eval_tmp, nZ (by decide), sZ (zZ hz68) (by decide)]) (by intro u hu; simp at hu; rcases hu with rfl | rfl <;> first | rfl | exact hox.one) th73 ?_
              rintro w75 f75 sz75 r75 th75
              have hF75 : Fr [] w w75 := hF74.trans f75 (fun r hr => .inl (by simp at hr; subst hr; have := hfl6.size; simp only; omega))
              have hL75_w66 : Fr [] w66 w75 := hL74_w66.trans f75 (fun r hr => .inl (by simp at hr; subst hr; have := (Fr.refl [] w66).size; simp only; omega))
              refine wpl_end fun a76 ha76 => ?_
              have hz76 : a76.tmps.size = 132 := by rw [ha76, put_none]; exact (zZ (zZ (zZ hz68)))
              have hd76 : a76.defers = [] := by rw [ha76, put_none]; exact (dZ (dZ (dZ hd68)))
              have g76_9 : get a76 9 = v9 := by rw [ha76, put_none]; (repeat rw [nZ (by decide)]); rw [g68_9]
              have g76_10 : get a76 10 = v10 := by rw [ha76, put_none]; (repeat rw [nZ (by decide)]); rw [g68_10]
              have g76_11 : get a76 11 = .int .i64 (j : Int) := by rw [ha76, put_none]; (repeat rw [nZ (by decide)]); rw [g68_11]
              have g76_19 : get a76 19 = .pointer (some ⟨w66.heap.size, 0, none⟩) := by rw [ha76, put_none, sZ (zZ (zZ hz68)) (by decide)]
              have g76_100 : get a76 100 = .slice qu ((unknownW fs u).length) cu := by rw [ha76, put_none]; (repeat rw [nZ (by decide)]); rw [g68_100]
              have g76_101 : get a76 101 = .int .i64 (((unknownW fs u).length : Nat) : Int) := by rw [ha76, put_none]; (repeat rw [nZ (by decide)]); rw [g68_101]
              have g76_102 : get a76 102 = .int .i64 (j : Int) := by rw [ha76, put_none]; (repeat rw [nZ (by decide)]); rw [g68_102]
              clear ha76
              refine hK72 a76 w75 ?_
              refine wp_seq_k fun K77 hK77 => ?_
              refine wp_reg ?_
              rw [wpl_cons]
              refine wp_fieldAddr (b := w66.heap.size) (i := 0) (hFlT60.fld (by decide)) (by rw [eval_tmp, g76_19]) ?_
              rw [show (0 + 1 : Nat) = 1 from rfl]
              rw [wpl_cons]
              refine wp_load0 (j := 1) (v := xv) hcT22 (by rw [eval_tmp, sZ hz76 (by decide)]) r75 rfl ?_
              rw [wpl_cons]
              refine wp_callR (R := fun y wz => OctE wz (fun b => b < w62.heap.size) y (wholeS x) ∧ w75 = wz) (vs := #[xv]) hWh.enters (by simp only [List.map_toArray, List.map_cons, List.map_nil]; rw [show ((a76.put (some 106) (.pointer (some ⟨w66.heap.size, 1, none⟩))).put (some 107) xv).eval (.tmp 107) = xv from (by rw [eval_tmp, sZ (zZ hz76) (by decide)])]) ((hWh.call w75 _ xv x (hox.kept hL75_w66 (by simp) (fun _ h => h))).mono (by rintro e wz ⟨y, rfl, h1, rfl⟩; exact ⟨y, rfl, h1, rfl⟩)) ?_
              rintro x78 _ ⟨hy, rfl⟩
              obtain ⟨q78, c78, rfl, -, -, -⟩ := hy.slice2
              rw [wpl_cons]
              refine wp_as (v := .slice q78 ((wholeS x).length) c78) (by rw [eval_tmp, sZ (zZ (zZ hz76)) (by decide)]) ?_
              refine wpl_end fun a79 ha79 => ?_
              have hz79 : a79.tmps.size = 132 := by rw [ha79]; exact (zZ (zZ (zZ (zZ hz76))))
              have hd79 : a79.defers = [] := by rw [ha79]; exact (dZ (dZ (dZ (dZ hd76))))
              have g79_9 : get a79 9 = v9 := by rw [ha79]; (repeat rw [nZ (by decide)]); rw [g76_9]
              have g79_10 : get a79 10 = v10 := by rw [ha79]; (repeat rw [nZ (by decide)]); rw [g76_10]
              have g79_11 : get a79 11 = .int .i64 (j : Int) := by rw [ha79]; (repeat rw [nZ (by decide)]); rw [g76_11]
              have g79_19 : get a79 19 = .pointer (some ⟨w66.heap.size, 0, none⟩) := by rw [ha79]; (repeat rw [nZ (by decide)]); rw [g76_19]
              have g79_20 : get a79 20 = .slice q78 ((wholeS x).length) c78 := by rw [ha79, sZ (zZ (zZ (zZ hz76))) (by decide)]
              have g79_100 : get a79 100 = .slice qu ((unknownW fs u).length) cu := by rw [ha79]; (repeat rw [nZ (by decide)]); rw [g76_100]
              have g79_101 : get a79 101 = .int .i64 (((unknownW fs u).length : Nat) : Int) := by rw [ha79]; (repeat rw [nZ (by decide)]); rw [g76_101]
              have g79_102 : get a79 102 = .int .i64 (j : Int) := by rw [ha79]; (repeat rw [nZ (by decide)]); rw [g76_102]
              clear ha79
              refine hK77 a79 w75 ?_
              refine wp_seq_k fun K80 hK80 => ?_
              have hoA := ho10.upTo hL75_w66 (From.mono hL75_w66.size)
              have hSA := Nat.le_trans hSl6 hL75_w66.size
              have hx9A := ho9.upTo hL75_w66 (From.mono hL75_w66.size)
              have hyA := hy.kept (Fr.refl [] w75) (by simp) (fun _ h => h)
              have husA := hus6.kept hL75_w66 (by simp) (fun _ h => h)
              refine wp_reg ?_
              rw [wpl_cons]
              refine wp_mv (v := v10) (by rw [eval_tmp, g79_10]) ?_
              rw [wpl_cons]
              refine wp_fieldAddr (b := w66.heap.size) (i := 0) (hFlT60.fld (by decide)) (by rw [eval_tmp, nZ (by decide), g79_19]) ?_
              rw [show (0 + 0 : Nat) = 0 from rfl]
              rw [wpl_cons]
              refine wp_load0 (j := 0) (v := .int .u32 ((kk : Nat) : Int)) hcT58 (by rw [eval_tmp, sZ (zZ hz79) (by decide)]) r75 rfl ?_
              rw [wpl_cons]
              refine wp_convert (k1 := .u32) (i := ((kk : Nat) : Int)) hT58_u32 hT73_u64 (by rw [eval_tmp, sZ (zZ (zZ hz79)) (by decide)]) ?_
              rw [show (IntKind.u64.wrap (((kk : Nat) : Int) : Int)) = (((kk : Nat) : Int) : Int) from by simp only [IntKind.wrap, IntKind.bits, IntKind.signed]; simp; omega]
              rw [wpl_cons]
              refine wp_callR (R := fun vz wz => Fr [] w75 wz ∧ Own wz (From w75.heap.size wz) 1 vz (uvW kk).length (octets (uvW kk))) (vs := #[.int .u64 ((kk : Nat) : Int)]) hUv.enters (by simp only [List.map_toArray, List.map_cons, List.map_nil]; rw [show ((((a79.put (some 109) v10).put (some 110) (.pointer (some ⟨w66.heap.size, 0, none⟩))).put (some 111) (.int .u32 ((kk : Nat) : Int))).put (some 112) (.int .u64 ((kk : Nat) : Int))).eval (.tmp 112) = Value.int .u64 ((kk : Nat) : Int) from (by rw [eval_tmp, sZ (zZ (zZ (zZ hz79))) (by decide)])]) (calls_fresh (hUv.call w75 kk (by omega))) ?_
              rintro x81 w81 ⟨fr81, ow81⟩
              have hF82 : Fr [] w w81 := hF75.tr fr81
              have rb83 := fr81.range r75 .nil
              have hy84 := hyA.kept fr81 (by simp) (fun _ h => h)
              have hu84 := husA.kept fr81 (by simp) (fun _ h => h)
              have hx84 := hx9A.upTo fr81 (From.mono fr81.size)
              have hS84 := Nat.le_trans hSA fr81.size
              have hoo84 := hoA.upTo fr81 (From.mono fr81.size)
              rw [wpl_cons]
              have ob85 := hoo84
              have hSl85 : w62.heap.size ≤ w81.heap.size := hS84
              refine wp_appO hs_T22 hz_T22 (by rw [eval_tmp, nZ (by decide), nZ (by decide), nZ (by decide), nZ (by decide), sZ hz79 (by decide)]) (by rw [eval_tmp, sZ (zZ (zZ (zZ (zZ hz79)))) (by decide)]) ob85 (ow81.octE (by omega)) (by omega) ?_
              rintro v85 w85 fa85 oa85 sp85 bk85
              have ho85 := oa85.imp_A (new_or hSl85 fa85.size)
              have hF85 : Fr [] w w85 := fr_own hF82 fa85 (ob85.from (s0 := w.heap.size) (by omega)) (fun b hb => hb.1)
              have hy86 := hy84.kept fa85 (A' := fun b => b < w62.heap.size) (fun r hr hb => by have := (ob85.spare_in r hr).1; omega) (fun _ h => h)
              have hu86 := hu84.kept fa85 (A' := fun b => b < w62.heap.size) (fun r hr hb => by have := (ob85.spare_in r hr).1; omega) (fun _ h => h)
              have hx86 := hx84.kept fa85 (A' := From w2.heap.size w85) (by intro r hr hb g o cap hv e; exfalso; have h1 := (ob85.spare_in r hr).1; have h2 := hb4 g (by rw [hv]; rfl); omega) (From.mono fa85.size)
              have hS86 := Nat.le_trans hS84 fa85.size
              rw [wpl_cons]
              refine wp_mv (v := .slice q78 ((wholeS x).length) c78) (by rw [eval_tmp, nZ (by decide), nZ (by decide), nZ (by decide), nZ (by decide), nZ (by decide), nZ (by decide), g79_20]) ?_
              rw [wpl_cons]
              refine wp_lenS (n := (wholeS x).length) hsT22 (by rw [eval_tmp, sZ (zZ (zZ (zZ (zZ (zZ (zZ hz79)))))) (by decide)]) ?_
              rw [wpl_cons]
              refine wp_convert (k1 := .i64) (i := (((wholeS x).length : Nat) : Int)) hT3_i64 hT73_u64 (by rw [eval_tmp, sZ (zZ (zZ (zZ (zZ (zZ (zZ (zZ hz79))))))) (by decide)]) ?_
              rw [show (IntKind.u64.wrap ((((wholeS x).length : Nat) : Int) : Int)) = ((((wholeS x).length : Nat) : Int) : Int) from wrap_u64n (by simp [wholeS]; omega)]
              rw [wpl_cons]
              refine wp_callR (R := fun vz wz => Fr [] w85 wz ∧ Own wz (From w85.heap.size wz) 1 vz (uvW ((wholeS x).length)).length (octets (uvW ((wholeS x).length)))) (vs := #[.int .u64 (((wholeS x).length : Nat) : Int)]) hUv.enters (by simp only [List.map_toArray, List.map_cons, List.map_nil]; rw [show (((((((((a79.put (some 109) v10).put (some 110) (.pointer (some ⟨w66.heap.size, 0, none⟩))).put (some 111) (.int .u32 ((kk : Nat) : Int))).put (some 112) (.int .u64 ((kk : Nat) : Int))).put (some 113) x81).put (some 114) v85).put (some 115) (.slice q78 ((wholeS x).length) c78)).put (some 116) (.int .i64 (((wholeS x).length : Nat) : Int))).put (some 117) (.int .u64 (((wholeS x).length : Nat) : Int))).eval (.tmp 117) = Value.int .u64 (((wholeS x).length : Nat) : Int) from (by rw [eval_tmp, sZ (zZ (zZ (zZ (zZ (zZ (zZ (zZ (zZ hz79)))))))) (by decide)])]) (calls_fresh (hUv.call w85 ((wholeS x).length) (by simp [wholeS]; omega))) ?_
              rintro x87 w87 ⟨fr87, ow87⟩
              have hF88 : Fr [] w w87 := hF85.tr fr87
              have hy89 := hy86.kept fr87 (by simp) (fun _ h => h)
              have hu89 := hu86.kept fr87 (by simp) (fun _ h => h)
              have hx89 := hx86.upTo fr87 (From.mono fr87.size)
              have hS89 := Nat.le_trans hS86 fr87.size
              have hoo89 := ho85.upTo fr87 (From.mono fr87.size)
              rw [wpl_cons]
              have ob90 := hoo89
              have hSl90 : w62.heap.size ≤ w87.heap.size := hS89
              refine wp_appO hs_T22 hz_T22 (by rw [eval_tmp, nZ (by decide), nZ (by decide), nZ (by decide), nZ (by decide), sZ (zZ (zZ (zZ (zZ (zZ hz79))))) (by decide)]) (by rw [eval_tmp, sZ (zZ (zZ (zZ (zZ (zZ (zZ (zZ (zZ (zZ hz79))))))))) (by decide)]) ob90 (ow87.octE (by omega)) (by simp only [List.length_append]; omega) ?_
              rintro v90 w90 fa90 oa90 sp90 bk90
              have ho90 := oa90.imp_A (new_or hSl90 fa90.size)
              have hF90 : Fr [] w w90 := fr_own hF88 fa90 (ob90.from (s0 := w.heap.size) (by omega)) (fun b hb => hb.1)
              have hy91 := hy89.kept fa90 (A' := fun b => b < w62.heap.size) (fun r hr hb => by have := (ob90.spare_in r hr).1; omega) (fun _ h => h)
              have hu91 := hu89.kept fa90 (A' := fun b => b < w62.heap.size) (fun r hr hb => by have := (ob90.spare_in r hr).1; omega) (fun _ h => h)
              have hx91 := hx89.kept fa90 (A' := From w2.heap.size w90) (by intro r hr hb g o cap hv e; exfalso; have h1 := (ob90.spare_in r hr).1; have h2 := hb4 g (by rw [hv]; rfl); omega) (From.mono fa90.size)
              have hS91 := Nat.le_trans hS89 fa90.size
              rw [wpl_cons]
              refine wp_mv (v := .slice q78 ((wholeS x).length) c78) (by rw [eval_tmp, nZ (by decide), nZ (by decide), nZ (by decide), nZ (by decide), nZ (by decide), nZ (by decide), nZ (by decide), nZ (by decide), nZ (by decide), nZ (by decide), nZ (by decide), g79_20]) ?_
              rw [wpl_cons]
              have ob92 := ho90
              have hSl92 : w62.heap.size ≤ w90.heap.size := hS91
              refine wp_appO hs_T22 hz_T22 (by rw [eval_tmp, nZ (by decide), sZ (zZ (zZ (zZ (zZ (zZ (zZ (zZ (zZ (zZ (zZ hz79)))))))))) (by decide)]) (by rw [eval_tmp, sZ (zZ (zZ (zZ (zZ (zZ (zZ (zZ (zZ (zZ (zZ (zZ hz79))))))))))) (by decide)]) ob92 hy91 (by simp only [List.length_append]; omega) ?_
              rintro v92 w92 fa92 oa92 sp92 bk92
              have ho92 := oa92.imp_A (new_or hSl92 fa92.size)
              have hF92 : Fr [] w w92 := fr_own hF90 fa92 (ob92.from (s0 := w.heap.size) (by omega)) (fun b hb => hb.1)
              have hy93 := hy91.kept fa92 (A' := fun b => b < w62.heap.size) (fun r hr hb => by have := (ob92.spare_in r hr).1; omega) (fun _ h => h)
              have hu93 := hu91.kept fa92 (A' := fun b => b < w62.heap.size) (fun r hr hb => by have := (ob92.spare_in r hr).1; omega) (fun _ h => h)
              have hx93 := hx91.kept fa92 (A' := From w2.heap.size w92) (by intro r hr hb g o cap hv e; exfalso; have h1 := (ob92.spare_in r hr).1; have h2 := hb4 g (by rw [hv]; rfl); omega) (From.mono fa92.size)
              have hS93 := Nat.le_trans hS91 fa92.size
              rw [wpl_cons]
              refine wp_as (v := v92) (by rw [eval_tmp, sZ (zZ (zZ (zZ (zZ (zZ (zZ (zZ (zZ (zZ (zZ (zZ (zZ hz79)))))))))))) (by decide)]) ?_
              refine wpl_end fun a94 ha94 => ?_
              have hz94 : a94.tmps.size = 132 := by rw [ha94]; exact (zZ (zZ (zZ (zZ (zZ (zZ (zZ (zZ (zZ (zZ (zZ (zZ (zZ (zZ hz79))))))))))))))
              have hd94 : a94.defers = [] := by rw [ha94]; exact (dZ (dZ (dZ (dZ (dZ (dZ (dZ (dZ (dZ (dZ (dZ (dZ (dZ (dZ hd79))))))))))))))
              have g94_9 : get a94 9 = v9 := by rw [ha94]; (repeat rw [nZ (by decide)]); rw [g79_9]
              have g94_10 : get a94 10 = v92 := by rw [ha94, sZ (zZ (zZ (zZ (zZ (zZ (zZ (zZ (zZ (zZ (zZ (zZ (zZ (zZ hz79))))))))))))) (by decide)]
              have g94_11 : get a94 11 = .int .i64 (j : Int) := by rw [ha94]; (repeat rw [nZ (by decide)]); rw [g79_11]
              have g94_100 : get a94 100 = .slice qu ((unknownW fs u).length) cu := by rw [ha94]; (repeat rw [nZ (by decide)]); rw [g79_100]
              have g94_101 : get a94 101 = .int .i64 (((unknownW fs u).length : Nat) : Int) := by rw [ha94]; (repeat rw [nZ (by decide)]); rw [g79_101]
              have g94_102 : get a94 102 = .int .i64 (j : Int) := by rw [ha94]; (repeat rw [nZ (by decide)]); rw [g79_102]
              clear ha94
              refine hK80 a94 w92 ?_
              refine wp_reg ?_
              rw [wpl_cons]
              refine wp_mv (v := .int .i64 (j : Int)) (by rw [eval_tmp, g94_11]) ?_
              rw [wpl_cons]
              refine wp_add (k1 := .i64) (i := (j : Int)) (j := 1) (by rw [eval_tmp, sZ hz94 (by decide)]) rfl ?_
              rw [show (IntKind.i64.wrap (((j : Int) : Int) + (1 : Int)) : Int) = (((j + 1 : Nat) : Int) : Int) from by simp only [IntKind.wrap, IntKind.bits, IntKind.signed]; simp; omega]
              rw [wpl_cons]
              refine wp_as (v := .int .i64 ((j + 1 : Nat) : Int)) (by rw [eval_tmp, sZ (zZ hz94) (by decide)]) ?_
              refine wpl_end fun a95 ha95 => ?_
              have hz95 : a95.tmps.size = 132 := by rw [ha95]; exact (zZ (zZ (zZ hz94)))
              have hd95 : a95.defers = [] := by rw [ha95]; exact (dZ (dZ (dZ hd94)))
              have g95_9 : get a95 9 = v9 := by rw [ha95]; (repeat rw [nZ (by decide)]); rw [g94_9]
              have g95_10 : get a95 10 = v92 := by rw [ha95]; (repeat rw [nZ (by decide)]); rw [g94_10]
              have g95_11 : get a95 11 = .int .i64 ((j + 1 : Nat) : Int) := by rw [ha95, sZ (zZ (zZ hz94)) (by decide)]
              have g95_100 : get a95 100 = .slice qu ((unknownW fs u).length) cu := by rw [ha95]; (repeat rw [nZ (by decide)]); rw [g94_100]
              have g95_101 : get a95 101 = .int .i64 (((unknownW fs u).length : Nat) : Int) := by rw [ha95]; (repeat rw [nZ (by decide)]); rw [g94_101]
              have g95_102 : get a95 102 = .int .i64 (j : Int) := by rw [ha95]; (repeat rw [nZ (by decide)]); rw [g94_102]
              clear ha95
              refine hK71 a95 w92 ?_
              refine wp_reg ?_
              rw [wpl_cons]
              refine wp_add (k1 := .i64) (i := (j : Int)) (j := 1) (by rw [eval_tmp, g95_102]) rfl ?_
              rw [show (IntKind.i64.wrap (((j : Int) : Int) + (1 : Int)) : Int) = (((j + 1 : Nat) : Int) : Int) from by simp only [IntKind.wrap, IntKind.bits, IntKind.signed]; simp; omega]
              rw [wpl_cons]
              refine wp_mv (v := .int .i64 ((j + 1 : Nat) : Int)) (by rw [eval_tmp, sZ hz95 (by decide)]) ?_
              refine wpl_end fun a96 ha96 => ?_
              have hz96 : a96.tmps.size = 132 := by rw [ha96]; exact (zZ (zZ hz95))
              have hd96 : a96.defers = [] := by rw [ha96]; exact (dZ (dZ hd95))
              have g96_9 : get a96 9 = v9 := by rw [ha96, nZ (by decide), nZ (by decide), g95_9]
              have g96_10 : get a96 10 = v92 := by rw [ha96, nZ (by decide), nZ (by decide), g95_10]
              have g96_11 : get a96 11 = .int .i64 ((j + 1 : Nat) : Int) := by rw [ha96, nZ (by decide), nZ (by decide), g95_11]
              have g96_100 : get a96 100 = .slice qu ((unknownW fs u).length) cu := by rw [ha96, nZ (by decide), nZ (by decide), g95_100]
              have g96_101 : get a96 101 = .int .i64 (((unknownW fs u).length : Nat) : Int) := by rw [ha96, nZ (by decide), nZ (by decide), g95_101]
              have g96_102 : get a96 102 = .int .i64 ((j + 1 : Nat) : Int) := by rw [ha96, sZ (zZ hz95) (by decide)]
              clear ha96
              refine ⟨m3 - 1, by omega, j + 1, _, hz96, hd96, g96_9, g96_10, g96_11, g96_100, g96_101, g96_102, by omega, hx93, ?_, hu93, hF92, hS93⟩
              rw [htk, show ((unksW fs (.mk n s nl l u)).take j).flatMap pairW ++ pairW (kk, wholeS x) = ((((unksW fs (.mk n s nl l u)).take j).flatMap pairW ++ uvW kk) ++ uvW (wholeS x).length) ++ wholeS x from by simp [pairW]]; exact ho92
            · have hj0 : j = (unknownW fs u).length := by simp at hc70; omega
              rw [hj0, ← hul, List.take_length] at ho10
              refine wp_exit ?_
              show K60 a68 w66
              refine hK60 a68 w66 (then_up ?_)
              refine then_id (wp_seq_k fun K97 hK97 => ?_)
              have hx9 := ho9.upTo (Fr.refl [] w66) (From.mono (Fr.refl [] w66).size)
              have hx10 := ho10.upTo (Fr.refl [] w66) (From.mono (Fr.refl [] w66).size)
              have hSx := Nat.le_trans hSl6 (Fr.refl [] w66).size
              have hunl : (unknownW fs u).length ≤ 4294967296 := hub
              refine wp_reg ?_
              rw [wpl_cons]
              refine wp_mv (v := v9) (by rw [eval_tmp, g68_9]) ?_
              rw [wpl_cons]
              refine wp_mv (v := .int .i64 (j : Int)) (by rw [eval_tmp, nZ (by decide), g68_11]) ?_
              rw [wpl_cons]
              refine wp_convert (k1 := .i64) (i := (j : Int)) hT3_i64 hT73_u64 (by rw [eval_tmp, sZ (zZ hz68) (by decide)]) ?_
              rw [show (IntKind.u64.wrap ((j : Int) : Int)) = (((unknownW fs u).length : Int) : Int) from by simp only [IntKind.wrap, IntKind.bits, IntKind.signed]; simp; omega]
              rw [wpl_cons]
              refine wp_callR (R := fun vz wz => Fr [] w66 wz ∧ Own wz (From w66.heap.size wz) 1 vz (uvW (unksW fs (.mk n s nl l u)).length).length (octets (uvW (unksW fs (.mk n s nl l u)).length))) (vs := #[.int .u64 ((unknownW fs u).length : Int)]) hUv.enters (by simp only [List.map_toArray, List.map_cons, List.map_nil]; rw [show (((a68.put (some 125) v9).put (some 126) (.int .i64 (j : Int))).put (some 127) (.int .u64 ((unknownW fs u).length : Int))).eval (.tmp 127) = Value.int .u64 ((unknownW fs u).length : Int) from (by rw [eval_tmp, sZ (zZ (zZ hz68)) (by decide)])]) (calls_fresh (by rw [hul]; exact hUv.call w66 (unknownW fs u).length (by omega))) ?_
              rintro x98 w98 ⟨fr98, ow98⟩
              have hF99 : Fr [] w w98 := hfl6.tr fr98
              have hy9 := hx9.upTo fr98 (From.mono fr98.size)
              have hy10 := hx10.upTo fr98 (From.mono fr98.size)
              have hSy := Nat.le_trans hSx fr98.size
              rw [wpl_cons]
              have ob100 := hy9
              have hSl100 : w2.heap.size ≤ w98.heap.size := Nat.le_trans hS2 hSy
              refine wp_appO hs_T22 hz_T22 (by rw [eval_tmp, nZ (by decide), nZ (by decide), nZ (by decide), sZ hz68 (by decide)]) (by rw [eval_tmp, sZ (zZ (zZ (zZ hz68))) (by decide)]) ob100 (ow98.octE (by omega)) (by omega) ?_
              rintro v100 w100 fa100 oa100 sp100 bk100
              have ho100 := oa100.imp_A (new_or hSl100 fa100.size)
              have hF100 : Fr [] w w100 := fr_own hF99 fa100 (ob100.from (s0 := w.heap.size) (by omega)) (fun b hb => hb.1)
              have hz10 : Own w100 (From w62.heap.size w100) 1 v10 _ _ := hy10.kept fa100 (by intro r hr hb g o cap hv e; exfalso; have h1 := hb4 r.b (spare_blk' r hr); have h2 := hb.1; omega) (From.mono fa100.size)
              have ha1 := ho100
              have hSz := Nat.le_trans (Nat.le_trans hS2 hSy) fa100.size
              rw [wpl_cons]
              refine wp_mv (v := v10) (by rw [eval_tmp, nZ (by decide), nZ (by decide), nZ (by decide), nZ (by decide), nZ (by decide), g68_10]) ?_
              rw [wpl_cons]
              have ob101 := ha1
              have hSl101 : w2.heap.size ≤ w100.heap.size := hSz
              refine wp_appO hs_T22 hz_T22 (by rw [eval_tmp, nZ (by decide), sZ (zZ (zZ (zZ (zZ hz68)))) (by decide)]) (by rw [eval_tmp, sZ (zZ (zZ (zZ (zZ (zZ hz68))))) (by decide)]) ob101 (hz10.octE (by omega)) (by simp only [List.length_append]; omega) ?_
              rintro v101 w101 fa101 oa101 sp101 bk101
              have ho101 := oa101.imp_A (new_or hSl101 fa101.size)
              have hF101 : Fr [] w w101 := fr_own hF100 fa101 (ob101.from (s0 := w.heap.size) (by omega)) (fun b hb => hb.1)
              rw [wpl_cons]
              refine wp_as (v := v101) (by rw [eval_tmp, sZ (zZ (zZ (zZ (zZ (zZ (zZ hz68)))))) (by decide)]) ?_
              refine wpl_end fun a102 ha102 => ?_
              have hz102 : a102.tmps.size = 132 := by rw [ha102]; exact (zZ (zZ (zZ (zZ (zZ (zZ (zZ (zZ hz68))))))))
              have hd102 : a102.defers = [] := by rw [ha102]; exact (dZ (dZ (dZ (dZ (dZ (dZ (dZ (dZ hd68))))))))
              have g102_8 : get a102 8 = v101 := by rw [ha102, sZ (zZ (zZ (zZ (zZ (zZ (zZ (zZ hz68))))))) (by decide)]
              clear ha102
              refine hK97 a102 w101 (then_up ?_)
              refine wp_ret ?_
              rw [hPW, hfx, if_pos rfl, ← List.append_assoc]
              exact ⟨hd102, _, results_is hres g102_8, _, rfl, hF101, ho101.from (by omega)⟩
end Go.Kq

namespace Go.Kq
open Go Go.Proofs
def zM : List Value := [.slice none 0 0, .int .i64 0]
mutual
/-- No field, and none within, has a tag of its own. -/
def Fd.free : Fd → Bool | .mk _ _ _ _ tag _ _ sub => decide (tag < 0) && freeAll sub
def freeAll : List Fd → Bool
  | [] => true
  | f :: fs => f.free && freeAll fs
end
theorem freeAll_mem : ∀ {fs : List Fd}, freeAll fs = true → ∀ f ∈ fs, f.free = true
  | [], _, _, h => by simp at h
  | g :: fs, h, f, hf => by
    rw [freeAll, Bool.and_eq_true] at h
    rcases List.mem_cons.1 hf with rfl | hf
    · exact h.1
    · exact freeAll_mem h.2 f hf
theorem free_tag {f : Fd} (h : f.free = true) : f.tag < 0 ∧ freeAll f.sub = true := by
  cases f with
  | mk kind fr to nul tag df of sub => rw [Fd.free, Bool.and_eq_true] at h; exact ⟨of_decide_eq_true h.1, h.2⟩
theorem FieldM.congr {P : Program} {f : FuncId} {fd : Fd} {e1 e2 : Int → Bool → T → List UInt8} (h : FieldM P f fd e1) (he : ∀ ver flex t, e1 ver flex t = e2 ver flex t) : FieldM P f fd e2 := by
  have : e1 = e2 := by funext a b c; exact he a b c
  rw [← this]; exact h
mutual
/-- Every part is written as the reference writes it: the functions call one another. -/
theorem parts_all {P : Program} {fp fv ff : FuncId} (hp : ∀ fs : List Fd, (∀ f ∈ fs, f.tag < 0) → (∀ fd ∈ fs, FieldM P ff fd (fieldW fd)) → PartM P fp fs (partW fs))
    (hv : ∀ (fs : List Fd) (sub : Int → Bool → T → List UInt8), PartM P fp fs sub → ValueM P fv fs sub)
    (hf : ∀ (fd : Fd) (sub : Int → Bool → T → List UInt8), ValueM P fv fd.sub sub → PartM P fp fd.sub sub → FieldM P ff fd (fun ver flex t => fieldV fd.kind fd.nul fd.of (sub ver flex) ver flex t)) :
    ∀ fs : List Fd, freeAll fs = true → ∀ fd ∈ fs, FieldM P ff fd (fieldW fd)
  | [], _, _, h => by simp at h
  | g :: fs, h, fd, hm => by
    rw [freeAll, Bool.and_eq_true] at h
    rcases List.mem_cons.1 hm with e | hm
    · rw [e]; exact field_all hp hv hf g h.1
    · exact parts_all hp hv hf fs h.2 fd hm
theorem field_all {P : Program} {fp fv ff : FuncId} (hp : ∀ fs : List Fd, (∀ f ∈ fs, f.tag < 0) → (∀ fd ∈ fs, FieldM P ff fd (fieldW fd)) → PartM P fp fs (partW fs))
    (hv : ∀ (fs : List Fd) (sub : Int → Bool → T → List UInt8), PartM P fp fs sub → ValueM P fv fs sub)
    (hf : ∀ (fd : Fd) (sub : Int → Bool → T → List UInt8), ValueM P fv fd.sub sub → PartM P fp fd.sub sub → FieldM P ff fd (fun ver flex t => fieldV fd.kind fd.nul fd.of (sub ver flex) ver flex t)) :
    ∀ fd : Fd, fd.free = true → FieldM P ff fd (fieldW fd)
  | .mk kind fr to nul tag df of sub, h => by
    have h1 := (free_tag h).2
    have hP : PartM P fp sub (partW sub) := hp sub (fun f hf => (free_tag (freeAll_mem h1 f hf)).1) (parts_all hp hv hf sub h1)
    exact (hf (.mk kind fr to nul tag df of sub) (partW sub) (hv sub _ hP) hP).congr fun ver flex t => (fieldW_eq _ ver flex t).symm
end
/-- A message at a version. -/
structure WriteM (P : Program) (f : FuncId) (fs : List Fd) (enc : Int → Bool → T → List UInt8) : Prop where
  enters : Enters P f
  call : ∀ (w : World) (A B : Nat → Prop) (ver fx : Int) (fsv : Value) (ct : List Value) (t : T), FdsR w A fsv fs → RepT w B ct t → (∀ b, A b → b < w.heap.size) → (∀ b, B b → b < w.heap.size) → (enc ver (decide (fx ≥ 0) && decide (ver ≥ fx)) t).length ≤ 4294967296 →
    Calls P f #[.agg ([fsv, .int .i64 fx] : List Value).toArray, .int .i64 ver, .agg ct.toArray] w (Fresh w (enc ver (decide (fx ≥ 0) && decide (ver ≥ fx)) t))
inductive RepFL (w : World) (A : Nat → Prop) : List (List Value) → List Fd → Prop where
  | nil : RepFL w A [] []
  | cons {c : List Value} {f : Fd} {cs : List (List Value)} {fs : List Fd} (h : RepF w A c f) (t : RepFL w A cs fs) : RepFL w A (c :: cs) (f :: fs)
theorem RepFL.len {w : World} {A : Nat → Prop} {cs : List (List Value)} {fs : List Fd} (h : RepFL w A cs fs) : cs.length = fs.length := by
  induction h with
  | nil => rfl
  | cons _ _ ih => simp [ih]
theorem RepFL.kept {w w' : World} {A A' : Nat → Prop} {cs : List (List Value)} {fs : List Fd} (h : RepFL w A cs fs) (f : Fr [] w w') (hA : ∀ b, A b → A' b) : RepFL w' A' cs fs := by
  induction h with
  | nil => exact .nil
  | cons h _ ih => exact .cons (h.kept f (by simp) hA) ih
theorem RepFL.at {w : World} {A : Nat → Prop} {cs : List (List Value)} {fs : List Fd} (h : RepFL w A cs fs) : ∀ {b o : Nat}, w.rangeAt b o cs.flatten → ∀ (i : Nat) (f : Fd), fs[i]? = some f → w.rangeAt b (o + i * 8) (cs.getD i []) ∧ RepF w A (cs.getD i []) f := by
  induction h with
  | nil => intro b o _ i f hi; simp at hi
  | @cons c g cs fs hc _ ih =>
    intro b o hr i f hi
    rw [List.flatten_cons, range_append, hc.length] at hr
    cases i with
    | zero => simp at hi; subst hi; exact ⟨by simpa using hr.1, hc⟩
    | succ i =>
      have := ih hr.2 i f (by simpa using hi)
      rw [show o + 8 + i * 8 = o + (i + 1) * 8 from by omega] at this
      simpa using this
theorem FdsR.laid {w : World} {A : Nat → Prop} {cs : List (List Value)} {fs : List Fd} {b : Nat} (h : RepFL w A cs fs) (hr : w.rangeAt b 0 cs.flatten) (hb : A b) (hl : fs.length ≤ 4294967296) : FdsR w A (.slice (some ⟨b, 0, none⟩) fs.length fs.length) fs :=
  .inr ⟨b, 0, fs.length, hb, rfl, ⟨Nat.le_refl _, hl⟩, fun i => cs.getD i [], fun i f hi => (h.at hr i f hi).1, fun i f hi => (h.at hr i f hi).2⟩
/-- '[]Field{..}' -/
theorem wp_fields {P : Program} {a : Act} {w : World} {K : Act → World → Prop} {Q : Exit → Act → World → Prop} {d : Option Tmp} {t : TypeId} {p : String} {af : Array Edge} {g : Option (Nat × Bool)} {T e bs n s0 : Nat} {A : Nat → Prop} {xs : List Operand} {css : List (List Value)} {fs : List Fd}
    (hT : sliceOf P T e 8 bs = true) (hx : xs.map a.eval = css.map fun c => .agg c.toArray) (h : RepFL w A css fs) (hn : n = fs.length) (hn0 : 0 < n) (hn1 : n ≤ 2000000) (hA : ∀ b, A b → s0 ≤ b ∧ b < w.heap.size) (hs : s0 ≤ w.heap.size)
    (k : ∀ w' v, Fr [] w w' → FdsR w' (From s0 w') v fs → K (a.put d v) w') :
    OW P ⟨d, .buildSlice T n ((xs.zipIdx 0).map fun x => (x.2, x.1)).toArray, t, p, af, g⟩ a w K Q := by
  have hl := h.len
  have hr := range_new w css.flatten.toArray e (0, 0)
  have hl8 : ∀ (cs : List (List Value)) (fs : List Fd), RepFL w A cs fs → ∀ c ∈ cs, c.length = 8 := by
    intro cs fs h
    induction h with
    | nil => simp
    | cons h _ ih => intro c hc; rcases List.mem_cons.1 hc with rfl | hc
                     · exact h.length
                     · exact ih c hc
  refine wp_sliceL (css := css) hT (by omega) hn0 (by omega) (by rw [hx]; simp only [List.map_map]; congr 1) (hl8 _ _ h) (k _ _ (Fr.alloc _ _ _) ?_)
  have hf := Fr.alloc [] w (.cells css.flatten.toArray e)
  have hsz := size_alloc w (.cells css.flatten.toArray e)
  rw [hn]
  exact FdsR.laid (h.kept hf fun b hb => ⟨(hA b hb).1, by have := (hA b hb).2; omega⟩) (by simpa using hr) ⟨hs, by omega⟩ (by omega)
theorem wp_buildC {P : Program} {a : Act} {w : World} {K : Act → World → Prop} {Q : Exit → Act → World → Prop} {d : Option Tmp} {t : TypeId} {p : String} {af : Array Edge} {g : Option (Nat × Bool)} {s : TypeId} {z cs : List Value} {ps : List (Nat × Operand)} {vs : List (Nat × Value)} (h : Flat P s z) (hv : ps.map (fun p => (p.1, a.eval p.2)) = vs) (h1 : ∀ p ∈ vs, p.1 < z.length ∧ p.2.oneCell' = true) (hc : laid z vs = cs)
    (k : K (a.put d (.agg cs.toArray)) w) : OW P ⟨d, .build s ps.toArray, t, p, af, g⟩ a w K Q := wp_buildL h hv h1 (by rw [hc]; exact k)
/-- A function that lays a part's fields; one that lays a message's. -/
structure SubM (P : Program) (f : FuncId) (fs : List Fd) : Prop where
  enters : Enters P f
  call : ∀ (w : World), Calls P f #[] w fun e w' => ∃ v, e = .returned v ∧ Fr [] w w' ∧ FdsR w' (From w.heap.size w') v fs
structure SchM (P : Program) (f : FuncId) (fs : List Fd) (fx : Int) : Prop where
  enters : Enters P f
  call : ∀ (w : World), Calls P f #[] w fun e w' => ∃ v, e = .returned (.agg ([v, .int .i64 fx] : List Value).toArray) ∧ Fr [] w w' ∧ FdsR w' (From w.heap.size w') v fs
theorem write_m {P : Program} {f : FuncId} {fn : Func} {T3 T26 T29 T31 : TypeId} {f26 : FuncId} {a0 : Array TypeId} {i0 i1 : Nat} {t0 t1 t2 t3 t4 t5 t6 t7 t8 t9 t10 t11 t12 t13 t14 t15 t16 t17 : TypeId} {p0 p1 p2 p3 p4 p5 p6 p7 p8 p9 p10 p11 p12 p13 p14 p15 p16 p17 : String} {e0 e1 e2 e3 e4 e5 e6 e7 e8 e9 e10 e11 e12 e13 e14 e15 e16 e17 : Array Edge} {fs : List Fd} {enc : Int → Bool → T → List UInt8}
    (hf : P.funcs[f]? = some fn) (hname : (fn.name == "runtime.NumGoroutine") = false) (hres : fn.results = #[.tmp 6]) (hN : fn.ntmps = 21)
    (hbody : fn.body = some (.seq (Code.region i0 ⟨[⟨some 3, .box T31 (.tmp 0), t0, p0, e0, none⟩,
    ⟨some 5, .box T26 (.tmp 2), t1, p1, e1, none⟩,
    ⟨some 6, .assign (.const (.slice none 0 0)), t2, p2, e2, none⟩]⟩ false)
  (.seq (Code.region i1 ⟨[⟨some 7, .fieldAddr T31 (.tmp 3) 0, t3, p3, e3, none⟩,
    ⟨some 8, .load T29 (.tmp 7), t4, p4, e4, none⟩,
    ⟨some 9, .move (.tmp 1), t5, p5, e5, none⟩,
    ⟨some 10, .fieldAddr T31 (.tmp 3) 1, t6, p6, e6, none⟩,
    ⟨some 11, .load T3 (.tmp 10), t7, p7, e7, none⟩,
    ⟨some 12, .binOp .geq T3 (.tmp 11) (.const (.int .i64 0)) T3, t8, p8, e8, none⟩,
    ⟨some 13, .move (.tmp 12), t9, p9, e9, none⟩,
    ⟨some 14, .move (.tmp 1), t10, p10, e10, some (6, true)⟩,
    ⟨some 15, .fieldAddr T31 (.tmp 3) 1, t11, p11, e11, some (6, true)⟩,
    ⟨some 16, .load T3 (.tmp 15), t12, p12, e12, some (6, true)⟩,
    ⟨some 17, .binOp .geq T3 (.tmp 14) (.tmp 16) T3, t13, p13, e13, some (6, true)⟩,
    ⟨some 18, .pick (.tmp 13) (.tmp 17) (.const (.bool false)), t14, p14, e14, none⟩,
    ⟨some 19, .load T26 (.tmp 5), t15, p15, e15, none⟩,
    ⟨some 20, .call ⟨.value (.func f26), #[(.tmp 8), (.tmp 9), (.tmp 18), (.tmp 19)], a0⟩, t16, p16, e16, none⟩,
    ⟨some 6, .assign (.tmp 20), t17, p17, e17, none⟩]⟩ false)
  .ret)))
    (hFlT31 : Flat P T31 zM) (hcT29 : scal P T29 = true) (hcT3 : scal P T3 = true) (hFlT26 : Flat P T26 zT) (hPa : PartM P f26 fs enc) : WriteM P f fs enc := by
  refine ⟨enters_of hf hname hbody, ?_⟩
  intro w A B ver fx fsv ct t hfs ht hA hB hlen
  cases t with
  | mk n s nl l u =>
  have ht0 := ht
  obtain ⟨sv, lv, uv, rfl, hn, hs, hl, hu⟩ := repT_iff.1 ht
  by_cases h1 : fx ≥ 0; by_cases h2 : ver ≥ fx
  · have hfl : (decide (fx ≥ 0) && decide (ver ≥ fx)) = true := by simp [h1, h2]
    rw [hfl] at hlen ⊢
    refine calls_of_wp hf hbody ?_
    generalize ha0 : ({ tmps := #[Value.agg ([fsv, .int .i64 fx] : List Value).toArray, Value.int .i64 ver, Value.agg ([.int .i64 n, sv, .bool nl, lv, uv] : List Value).toArray] ++ Array.replicate (fn.ntmps - (#[Value.agg ([fsv, .int .i64 fx] : List Value).toArray, Value.int .i64 ver, Value.agg ([.int .i64 n, sv, .bool nl, lv, uv] : List Value).toArray] : Array Value).size) undef, defers := [] } : Act) = a0
    have hz0 : a0.tmps.size = 21 := by subst ha0; simp [hN]
    have hd0 : a0.defers = [] := by subst ha0; rfl
    have g0_0 : get a0 0 = .agg ([fsv, .int .i64 fx] : List Value).toArray := by subst ha0; exact get_args rfl
    have g0_1 : get a0 1 = .int .i64 ver := by subst ha0; exact get_args rfl
    have g0_2 : get a0 2 = .agg ([.int .i64 n, sv, .bool nl, lv, uv] : List Value).toArray := by subst ha0; exact get_args rfl
    clear ha0
    refine then_id (wp_seq_k fun K1 hK1 => ?_)
    refine wp_reg ?_
    rw [wpl_cons]
    refine wp_boxL (cs := [fsv, .int .i64 fx]) (by rw [eval_tmp, g0_0]) ?_
    rintro w2 f2 sz2 r2 th2
    have hF3 : Fr [] w w2 := f2
    rw [wpl_cons]
    refine wp_boxL (cs := [.int .i64 n, sv, .bool nl, lv, uv]) (by rw [eval_tmp, nZ (by decide), g0_2]) ?_
    rintro w4 f4 sz4 r4 th4
    have hF5 : Fr [] w w4 := hF3.tr f4
    have rb6 := f4.range r2 .nil
    rw [wpl_cons]
    refine wp_as (v := .slice none 0 0) rfl ?_
    refine wpl_end fun a7 ha7 => ?_
    have hz7 : a7.tmps.size = 21 := by rw [ha7]; exact (zZ (zZ (zZ hz0)))
    have hd7 : a7.defers = [] := by rw [ha7]; exact (dZ (dZ (dZ hd0)))
    have g7_1 : get a7 1 = .int .i64 ver := by rw [ha7]; (repeat rw [nZ (by decide)]); rw [g0_1]
    have g7_3 : get a7 3 = .pointer (some ⟨w.heap.size, 0, none⟩) := by rw [ha7, nZ (by decide), nZ (by decide), sZ hz0 (by decide)]
    have g7_5 : get a7 5 = .pointer (some ⟨w2.heap.size, 0, none⟩) := by rw [ha7, nZ (by decide), sZ (zZ hz0) (by decide)]
    clear ha7
    refine hK1 a7 w4 (then_up ?_)
    refine then_id (wp_seq_k fun K8 hK8 => ?_)
    refine wp_regG ?_
    refine wg_cons ?_
    refine wp_fieldAddr (b := w.heap.size) (i := 0) (hFlT31.fld (by decide)) (by rw [eval_tmp, g7_3]) ?_
    rw [show (0 + 0 : Nat) = 0 from rfl]
    refine wg_cons ?_
    refine wp_load0 (j := 0) (v := fsv) hcT29 (by rw [eval_tmp, sZ hz7 (by decide)]) rb6 rfl ?_
    refine wg_cons ?_
    refine wp_mv (v := .int .i64 ver) (by rw [eval_tmp, nZ (by decide), nZ (by decide), g7_1]) ?_
    refine wg_cons ?_
    refine wp_fieldAddr (b := w.heap.size) (i := 0) (hFlT31.fld (by decide)) (by rw [eval_tmp, nZ (by decide), nZ (by decide), nZ (by decide), g7_3]) ?_
    rw [show (0 + 1 : Nat) = 1 from rfl]
    refine wg_cons ?_
    refine wp_load0 (j := 1) (v := .int .i64 fx) hcT3 (by rw [eval_tmp, sZ (zZ (zZ (zZ hz7))) (by decide)]) rb6 rfl ?_
    refine wg_cons ?_
    refine wp_geqT (k1 := .i64) (i := fx) (j := 0) h1 (by rw [eval_tmp, sZ (zZ (zZ (zZ (zZ hz7)))) (by decide)]) rfl ?_
    refine wg_cons ?_
    refine wp_mv (v := .bool true) (by rw [eval_tmp, sZ (zZ (zZ (zZ (zZ (zZ hz7))))) (by decide)]) ?_
    refine wg_yes (dj := 13) rfl (lt_sz (zZ (zZ (zZ (zZ (zZ (zZ (zZ hz7))))))) (by decide)) (by rw [sZ (zZ (zZ (zZ (zZ (zZ (zZ hz7)))))) (by decide)]) ?_
    refine wp_mv (v := .int .i64 ver) (by rw [eval_tmp, nZ (by decide), nZ (by decide), nZ (by decide), nZ (by decide), nZ (by decide), nZ (by decide), nZ (by decide), g7_1]) ?_
    refine wg_yes (dj := 13) rfl (lt_sz (zZ (zZ (zZ (zZ (zZ (zZ (zZ (zZ hz7)))))))) (by decide)) (by rw [nZ (by decide), sZ (zZ (zZ (zZ (zZ (zZ (zZ hz7)))))) (by decide)]) ?_
    refine wp_fieldAddr (b := w.heap.size) (i := 0) (hFlT31.fld (by decide)) (by rw [eval_tmp, nZ (by decide), nZ (by decide), nZ (by decide), nZ (by decide), nZ (by decide), nZ (by decide), nZ (by decide), nZ (by decide), g7_3]) ?_
    rw [show (0 + 1 : Nat) = 1 from rfl]
    refine wg_yes (dj := 13) rfl (lt_sz (zZ (zZ (zZ (zZ (zZ (zZ (zZ (zZ (zZ hz7))))))))) (by decide)) (by rw [nZ (by decide), nZ (by decide), sZ (zZ (zZ (zZ (zZ (zZ (zZ hz7)))))) (by decide)]) ?_
    refine wp_load0 (j := 1) (v := .int .i64 fx) hcT3 (by rw [eval_tmp, sZ (zZ (zZ (zZ (zZ (zZ (zZ (zZ (zZ hz7)))))))) (by decide)]) rb6 rfl ?_
    refine wg_yes (dj := 13) rfl (lt_sz (zZ (zZ (zZ (zZ (zZ (zZ (zZ (zZ (zZ (zZ hz7)))))))))) (by decide)) (by rw [nZ (by decide), nZ (by decide), nZ (by decide), sZ (zZ (zZ (zZ (zZ (zZ (zZ hz7)))))) (by decide)]) ?_
    refine wp_geqT (k1 := .i64) (i := ver) (j := fx) h2 (by rw [eval_tmp, nZ (by decide), nZ (by decide), sZ (zZ (zZ (zZ (zZ (zZ (zZ (zZ hz7))))))) (by decide)]) (by rw [eval_tmp, sZ (zZ (zZ (zZ (zZ (zZ (zZ (zZ (zZ (zZ hz7))))))))) (by decide)]) ?_
    refine wg_cons ?_
    refine wp_pickYes (v := .bool true) (by rw [eval_tmp, nZ (by decide), nZ (by decide), nZ (by decide), nZ (by decide), sZ (zZ (zZ (zZ (zZ (zZ (zZ hz7)))))) (by decide)]) (by rw [eval_tmp, sZ (zZ (zZ (zZ (zZ (zZ (zZ (zZ (zZ (zZ (zZ hz7)))))))))) (by decide)]) ?_
    refine wg_cons ?_
    refine wp_loadFlat (cs := [.int .i64 n, sv, .bool nl, lv, uv]) (b := w2.heap.size) (o := 0) hFlT26 rfl (by rw [eval_tmp, nZ (by decide), nZ (by decide), nZ (by decide), nZ (by decide), nZ (by decide), nZ (by decide), nZ (by decide), nZ (by decide), nZ (by decide), nZ (by decide), nZ (by decide), nZ (by decide), g7_5]) r4 ?_
    refine wg_cons ?_
    refine wp_callR (R := fun vz wz => Fr [] w4 wz ∧ Own wz (From w4.heap.size wz) 1 vz (enc ver true (.mk n s nl l u)).length (octets (enc ver true (.mk n s nl l u)))) (vs := #[fsv, .int .i64 ver, .bool true, .agg ([.int .i64 n, sv, .bool nl, lv, uv] : List Value).toArray]) hPa.enters (by simp only [List.map_toArray, List.map_cons, List.map_nil]; rw [show (((((((((((((a7.put (some 7) (.pointer (some ⟨w.heap.size, 0, none⟩))).put (some 8) fsv).put (some 9) (.int .i64 ver)).put (some 10) (.pointer (some ⟨w.heap.size, 1, none⟩))).put (some 11) (.int .i64 fx)).put (some 12) (.bool true)).put (some 13) (.bool true)).put (some 14) (.int .i64 ver)).put (some 15) (.pointer (some ⟨w.heap.size, 1, none⟩))).put (some 16) (.int .i64 fx)).put (some 17) (.bool true)).put (some 18) (.bool true)).put (some 19) (.agg ([.int .i64 n, sv, .bool nl, lv, uv] : List Value).toArray)).eval (.tmp 8) = fsv from (by rw [eval_tmp, nZ (by decide), nZ (by decide), nZ (by decide), nZ (by decide), nZ (by decide), nZ (by decide), nZ (by decide), nZ (by decide), nZ (by decide), nZ (by decide), nZ (by decide), sZ (zZ hz7) (by decide)]), show (((((((((((((a7.put (some 7) (.pointer (some ⟨w.heap.size, 0, none⟩))).put (some 8) fsv).put (some 9) (.int .i64 ver)).put (some 10) (.pointer (some ⟨w.heap.size, 1, none⟩))).put (some 11) (.int .i64 fx)).put (some 12) (.bool true)).put (some 13) (.bool true)).put (some 14) (.int .i64 ver)).put (some 15) (.pointer (some ⟨w.heap.size, 1, none⟩))).put (some 16) (.int .i64 fx)).put (some 17) (.bool true)).put (some 18) (.bool true)).put (some 19) (.agg ([.int .i64 n, sv, .bool nl, lv, uv] : List Value).toArray)).eval (.tmp 9) = Value.int .i64 ver from (by rw [eval_tmp, nZ (by decide), nZ (by decide), nZ (by decide), nZ (by decide), nZ (by decide), nZ (by decide), nZ (by decide), nZ (by decide), nZ (by decide), nZ (by decide), sZ (zZ (zZ hz7)) (by decide)]), show (((((((((((((a7.put (some 7) (.pointer (some ⟨w.heap.size, 0, none⟩))).put (some 8) fsv).put (some 9) (.int .i64 ver)).put (some 10) (.pointer (some ⟨w.heap.size, 1, none⟩))).put (some 11) (.int .i64 fx)).put (some 12) (.bool true)).put (some 13) (.bool true)).put (some 14) (.int .i64 ver)).put (some 15) (.pointer (some ⟨w.heap.size, 1, none⟩))).put (some 16) (.int .i64 fx)).put (some 17) (.bool true)).put (some 18) (.bool true)).put (some 19) (.agg ([.int .i64 n, sv, .bool nl, lv, uv] : List Value).toArray)).eval (.tmp 18) = Value.bool true from (by rw [eval_tmp, nZ (by decide), sZ (zZ (zZ (zZ (zZ (zZ (zZ (zZ (zZ (zZ (zZ (zZ hz7))))))))))) (by decide)]), show (((((((((((((a7.put (some 7) (.pointer (some ⟨w.heap.size, 0, none⟩))).put (some 8) fsv).put (some 9) (.int .i64 ver)).put (some 10) (.pointer (some ⟨w.heap.size, 1, none⟩))).put (some 11) (.int .i64 fx)).put (some 12) (.bool true)).put (some 13) (.bool true)).put (some 14) (.int .i64 ver)).put (some 15) (.pointer (some ⟨w.heap.size, 1, none⟩))).put (some 16) (.int .i64 fx)).put (some 17) (.bool true)).put (some 18) (.bool true)).put (some 19) (.agg ([.int .i64 n, sv, .bool nl, lv, uv] : List Value).toArray)).eval (.tmp 19) = Value.agg ([.int .i64 n, sv, .bool nl, lv, uv] : List Value).toArray from (by rw [eval_tmp, sZ (zZ (zZ (zZ (zZ (zZ (zZ (zZ (zZ (zZ (zZ (zZ (zZ hz7)))))))))))) (by decide)])]) (calls_fresh (hPa.call w4 A B fsv ver true _ (.mk n s nl l u) (hfs.kept hF5 (by simp) (fun _ h => h)) (ht0.kept hF5 (by simp) (fun _ h => h)) (fun b hb => Nat.lt_of_lt_of_le (hA b hb) hF5.size) (fun b hb => Nat.lt_of_lt_of_le (hB b hb) hF5.size) hlen)) ?_
    rintro x9 w9 ⟨fr9, ow9⟩
    have hF10 : Fr [] w w9 := hF5.tr fr9
    have rb11 := fr9.range rb6 .nil
    have rb12 := fr9.range r4 .nil
    refine wg_cons ?_
    refine wp_as (v := x9) (by rw [eval_tmp, sZ (zZ (zZ (zZ (zZ (zZ (zZ (zZ (zZ (zZ (zZ (zZ (zZ (zZ hz7))))))))))))) (by decide)]) ?_
    refine wg_end fun a13 ha13 => ?_
    have hz13 : a13.tmps.size = 21 := by rw [ha13]; exact (zZ (zZ (zZ (zZ (zZ (zZ (zZ (zZ (zZ (zZ (zZ (zZ (zZ (zZ (zZ hz7)))))))))))))))
    have hd13 : a13.defers = [] := by rw [ha13]; exact (dZ (dZ (dZ (dZ (dZ (dZ (dZ (dZ (dZ (dZ (dZ (dZ (dZ (dZ (dZ hd7)))))))))))))))
    have g13_6 : get a13 6 = x9 := by rw [ha13, sZ (zZ (zZ (zZ (zZ (zZ (zZ (zZ (zZ (zZ (zZ (zZ (zZ (zZ (zZ hz7)))))))))))))) (by decide)]
    clear ha13
    refine hK8 a13 w9 (then_up ?_)
    refine wp_ret ?_
    exact ⟨hd13, _, results_is hres g13_6, _, rfl, hF10, ow9.from (by have := hF5.size; omega)⟩
  · have hfl : (decide (fx ≥ 0) && decide (ver ≥ fx)) = false := by simp [h1, h2]
    rw [hfl] at hlen ⊢
    refine calls_of_wp hf hbody ?_
    generalize ha0 : ({ tmps := #[Value.agg ([fsv, .int .i64 fx] : List Value).toArray, Value.int .i64 ver, Value.agg ([.int .i64 n, sv, .bool nl, lv, uv] : List Value).toArray] ++ Array.replicate (fn.ntmps - (#[Value.agg ([fsv, .int .i64 fx] : List Value).toArray, Value.int .i64 ver, Value.agg ([.int .i64 n, sv, .bool nl, lv, uv] : List Value).toArray] : Array Value).size) undef, defers := [] } : Act) = a0
    have hz0 : a0.tmps.size = 21 := by subst ha0; simp [hN]
    have hd0 : a0.defers = [] := by subst ha0; rfl
    have g0_0 : get a0 0 = .agg ([fsv, .int .i64 fx] : List Value).toArray := by subst ha0; exact get_args rfl
    have g0_1 : get a0 1 = .int .i64 ver := by subst ha0; exact get_args rfl
    have g0_2 : get a0 2 = .agg ([.int .i64 n, sv, .bool nl, lv, uv] : List Value).toArray := by subst ha0; exact get_args rfl
    clear ha0
    refine then_id (wp_seq_k fun K1 hK1 => ?_)
    refine wp_reg ?_
    rw [wpl_cons]
    refine wp_boxL (cs := [fsv, .int .i64 fx]) (by rw [eval_tmp, g0_0]) ?_
    rintro w2 f2 sz2 r2 th2
    have hF3 : Fr [] w w2 := f2
    rw [wpl_cons]
    refine wp_boxL (cs := [.int .i64 n, sv, .bool nl, lv, uv]) (by rw [eval_tmp, nZ (by decide), g0_2]) ?_
    rintro w4 f4 sz4 r4 th4
    have hF5 : Fr [] w w4 := hF3.tr f4
    have rb6 := f4.range r2 .nil
    rw [wpl_cons]
    refine wp_as (v := .slice none 0 0) rfl ?_
    refine wpl_end fun a7 ha7 => ?_
    have hz7 : a7.tmps.size = 21 := by rw [ha7]; exact (zZ (zZ (zZ hz0)))
    have hd7 : a7.defers = [] := by rw [ha7]; exact (dZ (dZ (dZ hd0)))
    have g7_1 : get a7 1 = .int .i64 ver := by rw [ha7]; (repeat rw [nZ (by decide)]); rw [g0_1]
    have g7_3 : get a7 3 = .pointer (some ⟨w.heap.size, 0, none⟩) := by rw [ha7, nZ (by decide), nZ (by decide), sZ hz0 (by decide)]
    have g7_5 : get a7 5 = .pointer (some ⟨w2.heap.size, 0, none⟩) := by rw [ha7, nZ (by decide), sZ (zZ hz0) (by decide)]
    clear ha7
    refine hK1 a7 w4 (then_up ?_)
    refine then_id (wp_seq_k fun K8 hK8 => ?_)
    refine wp_regG ?_
    refine wg_cons ?_
    refine wp_fieldAddr (b := w.heap.size) (i := 0) (hFlT31.fld (by decide)) (by rw [eval_tmp, g7_3]) ?_
    rw [show (0 + 0 : Nat) = 0 from rfl]
    refine wg_cons ?_
    refine wp_load0 (j := 0) (v := fsv) hcT29 (by rw [eval_tmp, sZ hz7 (by decide)]) rb6 rfl ?_
    refine wg_cons ?_
    refine wp_mv (v := .int .i64 ver) (by rw [eval_tmp, nZ (by decide), nZ (by decide), g7_1]) ?_
    refine wg_cons ?_
    refine wp_fieldAddr (b := w.heap.size) (i := 0) (hFlT31.fld (by decide)) (by rw [eval_tmp, nZ (by decide), nZ (by decide), nZ (by decide), g7_3]) ?_
    rw [show (0 + 1 : Nat) = 1 from rfl]
    refine wg_cons ?_
    refine wp_load0 (j := 1) (v := .int .i64 fx) hcT3 (by rw [eval_tmp, sZ (zZ (zZ (zZ hz7))) (by decide)]) rb6 rfl ?_
    refine wg_cons ?_
    refine wp_geqT (k1 := .i64) (i := fx) (j := 0) h1 (by rw [eval_tmp, sZ (zZ (zZ (zZ (zZ hz7)))) (by decide)]) rfl ?_
    refine wg_cons ?_
    refine wp_mv (v := .bool true) (by rw [eval_tmp, sZ (zZ (zZ (zZ (zZ (zZ hz7))))) (by decide)]) ?_
    refine wg_yes (dj := 13) rfl (lt_sz (zZ (zZ (zZ (zZ (zZ (zZ (zZ hz7))))))) (by decide)) (by rw [sZ (zZ (zZ (zZ (zZ (zZ (zZ hz7)))))) (by decide)]) ?_
    refine wp_mv (v := .int .i64 ver) (by rw [eval_tmp, nZ (by decide), nZ (by decide), nZ (by decide), nZ (by decide), nZ (by decide), nZ (by decide), nZ (by decide), g7_1]) ?_
    refine wg_yes (dj := 13) rfl (lt_sz (zZ (zZ (zZ (zZ (zZ (zZ (zZ (zZ hz7)))))))) (by decide)) (by rw [nZ (by decide), sZ (zZ (zZ (zZ (zZ (zZ (zZ hz7)))))) (by decide)]) ?_
    refine wp_fieldAddr (b := w.heap.size) (i := 0) (hFlT31.fld (by decide)) (by rw [eval_tmp, nZ (by decide), nZ (by decide), nZ (by decide), nZ (by decide), nZ (by decide), nZ (by decide), nZ (by decide), nZ (by decide), g7_3]) ?_
    rw [show (0 + 1 : Nat) = 1 from rfl]
    refine wg_yes (dj := 13) rfl (lt_sz (zZ (zZ (zZ (zZ (zZ (zZ (zZ (zZ (zZ hz7))))))))) (by decide)) (by rw [nZ (by decide), nZ (by decide), sZ (zZ (zZ (zZ (zZ (zZ (zZ hz7)))))) (by decide)]) ?_
    refine wp_load0 (j := 1) (v := .int .i64 fx) hcT3 (by rw [eval_tmp, sZ (zZ (zZ (zZ (zZ (zZ (zZ (zZ (zZ hz7)))))))) (by decide)]) rb6 rfl ?_
    refine wg_yes (dj := 13) rfl (lt_sz (zZ (zZ (zZ (zZ (zZ (zZ (zZ (zZ (zZ (zZ hz7)))))))))) (by decide)) (by rw [nZ (by decide), nZ (by decide), nZ (by decide), sZ (zZ (zZ (zZ (zZ (zZ (zZ hz7)))))) (by decide)]) ?_
    refine wp_geqF (k1 := .i64) (i := ver) (j := fx) h2 (by rw [eval_tmp, nZ (by decide), nZ (by decide), sZ (zZ (zZ (zZ (zZ (zZ (zZ (zZ hz7))))))) (by decide)]) (by rw [eval_tmp, sZ (zZ (zZ (zZ (zZ (zZ (zZ (zZ (zZ (zZ hz7))))))))) (by decide)]) ?_
    refine wg_cons ?_
    refine wp_pickYes (v := .bool false) (by rw [eval_tmp, nZ (by decide), nZ (by decide), nZ (by decide), nZ (by decide), sZ (zZ (zZ (zZ (zZ (zZ (zZ hz7)))))) (by decide)]) (by rw [eval_tmp, sZ (zZ (zZ (zZ (zZ (zZ (zZ (zZ (zZ (zZ (zZ hz7)))))))))) (by decide)]) ?_
    refine wg_cons ?_
    refine wp_loadFlat (cs := [.int .i64 n, sv, .bool nl, lv, uv]) (b := w2.heap.size) (o := 0) hFlT26 rfl (by rw [eval_tmp, nZ (by decide), nZ (by decide), nZ (by decide), nZ (by decide), nZ (by decide), nZ (by decide), nZ (by decide), nZ (by decide), nZ (by decide), nZ (by decide), nZ (by decide), nZ (by decide), g7_5]) r4 ?_
    refine wg_cons ?_
    refine wp_callR (R := fun vz wz => Fr [] w4 wz ∧ Own wz (From w4.heap.size wz) 1 vz (enc ver false (.mk n s nl l u)).length (octets (enc ver false (.mk n s nl l u)))) (vs := #[fsv, .int .i64 ver, .bool false, .agg ([.int .i64 n, sv, .bool nl, lv, uv] : List Value).toArray]) hPa.enters (by simp only [List.map_toArray, List.map_cons, List.map_nil]; rw [show (((((((((((((a7.put (some 7) (.pointer (some ⟨w.heap.size, 0, none⟩))).put (some 8) fsv).put (some 9) (.int .i64 ver)).put (some 10) (.pointer (some ⟨w.heap.size, 1, none⟩))).put (some 11) (.int .i64 fx)).put (some 12) (.bool true)).put (some 13) (.bool true)).put (some 14) (.int .i64 ver)).put (some 15) (.pointer (some ⟨w.heap.size, 1, none⟩))).put (some 16) (.int .i64 fx)).put (some 17) (.bool false)).put (some 18) (.bool false)).put (some 19) (.agg ([.int .i64 n, sv, .bool nl, lv, uv] : List Value).toArray)).eval (.tmp 8) = fsv from (by rw [eval_tmp, nZ (by decide), nZ (by decide), nZ (by decide), nZ (by decide), nZ (by decide), nZ (by decide), nZ (by decide), nZ (by decide), nZ (by decide), nZ (by decide), nZ (by decide), sZ (zZ hz7) (by decide)]), show (((((((((((((a7.put (some 7) (.pointer (some ⟨w.heap.size, 0, none⟩))).put (some 8) fsv).put (some 9) (.int .i64 ver)).put (some 10) (.pointer (some ⟨w.heap.size, 1, none⟩))).put (some 11) (.int .i64 fx)).put (some 12) (.bool true)).put (some 13) (.bool true)).put (some 14) (.int .i64 ver)).put (some 15) (.pointer (some ⟨w.heap.size, 1, none⟩))).put (some 16) (.int .i64 fx)).put (some 17) (.bool false)).put (some 18) (.bool false)).put (some 19) (.agg ([.int .i64 n, sv, .bool nl, lv, uv] : List Value).toArray)).eval (.tmp 9) = Value.int .i64 ver from (by rw [eval_tmp, nZ (by decide), nZ (by decide), nZ (by decide), nZ (by decide), nZ (by decide), nZ (by decide), nZ (by decide), nZ (by decide), nZ (by decide), nZ (by decide), sZ (zZ (zZ hz7)) (by decide)]), show (((((((((((((a7.put (some 7) (.pointer (some ⟨w.heap.size, 0, none⟩))).put (some 8) fsv).put (some 9) (.int .i64 ver)).put (some 10) (.pointer (some ⟨w.heap.size, 1, none⟩))).put (some 11) (.int .i64 fx)).put (some 12) (.bool true)).put (some 13) (.bool true)).put (some 14) (.int .i64 ver)).put (some 15) (.pointer (some ⟨w.heap.size, 1, none⟩))).put (some 16) (.int .i64 fx)).put (some 17) (.bool false)).put (some 18) (.bool false)).put (some 19) (.agg ([.int .i64 n, sv, .bool nl, lv, uv] : List Value).toArray)).eval (.tmp 18) = Value.bool false from (by rw [eval_tmp, nZ (by decide), sZ (zZ (zZ (zZ (zZ (zZ (zZ (zZ (zZ (zZ (zZ (zZ hz7))))))))))) (by decide)]), show (((((((((((((a7.put (some 7) (.pointer (some ⟨w.heap.size, 0, none⟩))).put (some 8) fsv).put (some 9) (.int .i64 ver)).put (some 10) (.pointer (some ⟨w.heap.size, 1, none⟩))).put (some 11) (.int .i64 fx)).put (some 12) (.bool true)).put (some 13) (.bool true)).put (some 14) (.int .i64 ver)).put (some 15) (.pointer (some ⟨w.heap.size, 1, none⟩))).put (some 16) (.int .i64 fx)).put (some 17) (.bool false)).put (some 18) (.bool false)).put (some 19) (.agg ([.int .i64 n, sv, .bool nl, lv, uv] : List Value).toArray)).eval (.tmp 19) = Value.agg ([.int .i64 n, sv, .bool nl, lv, uv] : List Value).toArray from (by rw [eval_tmp, sZ (zZ (zZ (zZ (zZ (zZ (zZ (zZ (zZ (zZ (zZ (zZ (zZ hz7)))))))))))) (by decide)])]) (calls_fresh (hPa.call w4 A B fsv ver false _ (.mk n s nl l u) (hfs.kept hF5 (by simp) (fun _ h => h)) (ht0.kept hF5 (by simp) (fun _ h => h)) (fun b hb => Nat.lt_of_lt_of_le (hA b hb) hF5.size) (fun b hb => Nat.lt_of_lt_of_le (hB b hb) hF5.size) hlen)) ?_
    rintro x9 w9 ⟨fr9, ow9⟩
    have hF10 : Fr [] w w9 := hF5.tr fr9
    have rb11 := fr9.range rb6 .nil
    have rb12 := fr9.range r4 .nil
    refine wg_cons ?_
    refine wp_as (v := x9) (by rw [eval_tmp, sZ (zZ (zZ (zZ (zZ (zZ (zZ (zZ (zZ (zZ (zZ (zZ (zZ (zZ hz7))))))))))))) (by decide)]) ?_
    refine wg_end fun a13 ha13 => ?_
    have hz13 : a13.tmps.size = 21 := by rw [ha13]; exact (zZ (zZ (zZ (zZ (zZ (zZ (zZ (zZ (zZ (zZ (zZ (zZ (zZ (zZ (zZ hz7)))))))))))))))
    have hd13 : a13.defers = [] := by rw [ha13]; exact (dZ (dZ (dZ (dZ (dZ (dZ (dZ (dZ (dZ (dZ (dZ (dZ (dZ (dZ (dZ hd7)))))))))))))))
    have g13_6 : get a13 6 = x9 := by rw [ha13, sZ (zZ (zZ (zZ (zZ (zZ (zZ (zZ (zZ (zZ (zZ (zZ (zZ (zZ (zZ hz7)))))))))))))) (by decide)]
    clear ha13
    refine hK8 a13 w9 (then_up ?_)
    refine wp_ret ?_
    exact ⟨hd13, _, results_is hres g13_6, _, rfl, hF10, ow9.from (by have := hF5.size; omega)⟩
  · have hfl : (decide (fx ≥ 0) && decide (ver ≥ fx)) = false := by simp [h1]
    rw [hfl] at hlen ⊢
    refine calls_of_wp hf hbody ?_
    generalize ha0 : ({ tmps := #[Value.agg ([fsv, .int .i64 fx] : List Value).toArray, Value.int .i64 ver, Value.agg ([.int .i64 n, sv, .bool nl, lv, uv] : List Value).toArray] ++ Array.replicate (fn.ntmps - (#[Value.agg ([fsv, .int .i64 fx] : List Value).toArray, Value.int .i64 ver, Value.agg ([.int .i64 n, sv, .bool nl, lv, uv] : List Value).toArray] : Array Value).size) undef, defers := [] } : Act) = a0
    have hz0 : a0.tmps.size = 21 := by subst ha0; simp [hN]
    have hd0 : a0.defers = [] := by subst ha0; rfl
    have g0_0 : get a0 0 = .agg ([fsv, .int .i64 fx] : List Value).toArray := by subst ha0; exact get_args rfl
    have g0_1 : get a0 1 = .int .i64 ver := by subst ha0; exact get_args rfl
    have g0_2 : get a0 2 = .agg ([.int .i64 n, sv, .bool nl, lv, uv] : List Value).toArray := by subst ha0; exact get_args rfl
    clear ha0
    refine then_id (wp_seq_k fun K1 hK1 => ?_)
    refine wp_reg ?_
    rw [wpl_cons]
    refine wp_boxL (cs := [fsv, .int .i64 fx]) (by rw [eval_tmp, g0_0]) ?_
    rintro w2 f2 sz2 r2 th2
    have hF3 : Fr [] w w2 := f2
    rw [wpl_cons]
    refine wp_boxL (cs := [.int .i64 n, sv, .bool nl, lv, uv]) (by rw [eval_tmp, nZ (by decide), g0_2]) ?_
    rintro w4 f4 sz4 r4 th4
    have hF5 : Fr [] w w4 := hF3.tr f4
    have rb6 := f4.range r2 .nil
    rw [wpl_cons]
    refine wp_as (v := .slice none 0 0) rfl ?_
    refine wpl_end fun a7 ha7 => ?_
    have hz7 : a7.tmps.size = 21 := by rw [ha7]; exact (zZ (zZ (zZ hz0)))
    have hd7 : a7.defers = [] := by rw [ha7]; exact (dZ (dZ (dZ hd0)))
    have g7_1 : get a7 1 = .int .i64 ver := by rw [ha7]; (repeat rw [nZ (by decide)]); rw [g0_1]
    have g7_3 : get a7 3 = .pointer (some ⟨w.heap.size, 0, none⟩) := by rw [ha7, nZ (by decide), nZ (by decide), sZ hz0 (by decide)]
    have g7_5 : get a7 5 = .pointer (some ⟨w2.heap.size, 0, none⟩) := by rw [ha7, nZ (by decide), sZ (zZ hz0) (by decide)]
    clear ha7
    refine hK1 a7 w4 (then_up ?_)
    refine then_id (wp_seq_k fun K8 hK8 => ?_)
    refine wp_regG ?_
    refine wg_cons ?_
    refine wp_fieldAddr (b := w.heap.size) (i := 0) (hFlT31.fld (by decide)) (by rw [eval_tmp, g7_3]) ?_
    rw [show (0 + 0 : Nat) = 0 from rfl]
    refine wg_cons ?_
    refine wp_load0 (j := 0) (v := fsv) hcT29 (by rw [eval_tmp, sZ hz7 (by decide)]) rb6 rfl ?_
    refine wg_cons ?_
    refine wp_mv (v := .int .i64 ver) (by rw [eval_tmp, nZ (by decide), nZ (by decide), g7_1]) ?_
    refine wg_cons ?_
    refine wp_fieldAddr (b := w.heap.size) (i := 0) (hFlT31.fld (by decide)) (by rw [eval_tmp, nZ (by decide), nZ (by decide), nZ (by decide), g7_3]) ?_
    rw [show (0 + 1 : Nat) = 1 from rfl]
    refine wg_cons ?_
    refine wp_load0 (j := 1) (v := .int .i64 fx) hcT3 (by rw [eval_tmp, sZ (zZ (zZ (zZ hz7))) (by decide)]) rb6 rfl ?_
    refine wg_cons ?_
    refine wp_geqF (k1 := .i64) (i := fx) (j := 0) h1 (by rw [eval_tmp, sZ (zZ (zZ (zZ (zZ hz7)))) (by decide)]) rfl ?_
    refine wg_cons ?_
    refine wp_mv (v := .bool false) (by rw [eval_tmp, sZ (zZ (zZ (zZ (zZ (zZ hz7))))) (by decide)]) ?_
    refine wg_noT (dj := 13) rfl (lt_sz (zZ (zZ (zZ (zZ (zZ (zZ (zZ hz7))))))) (by decide)) (by rw [sZ (zZ (zZ (zZ (zZ (zZ (zZ hz7)))))) (by decide)]) ?_
    refine wg_noT (dj := 13) rfl (lt_sz (zZ (zZ (zZ (zZ (zZ (zZ (zZ (zZ hz7)))))))) (by decide)) (by rw [nZ (by decide), sZ (zZ (zZ (zZ (zZ (zZ (zZ hz7)))))) (by decide)]) ?_
    refine wg_noT (dj := 13) rfl (lt_sz (zZ (zZ (zZ (zZ (zZ (zZ (zZ (zZ (zZ hz7))))))))) (by decide)) (by rw [nZ (by decide), nZ (by decide), sZ (zZ (zZ (zZ (zZ (zZ (zZ hz7)))))) (by decide)]) ?_
    refine wg_noT (dj := 13) rfl (lt_sz (zZ (zZ (zZ (zZ (zZ (zZ (zZ (zZ (zZ (zZ hz7)))))))))) (by decide)) (by rw [nZ (by decide), nZ (by decide), nZ (by decide), sZ (zZ (zZ (zZ (zZ (zZ (zZ hz7)))))) (by decide)]) ?_
    refine wg_cons ?_
    refine wp_pickNo (v := .bool false) (by rw [eval_tmp, nZ (by decide), nZ (by decide), nZ (by decide), nZ (by decide), sZ (zZ (zZ (zZ (zZ (zZ (zZ hz7)))))) (by decide)]) rfl ?_
    refine wg_cons ?_
    refine wp_loadFlat (cs := [.int .i64 n, sv, .bool nl, lv, uv]) (b := w2.heap.size) (o := 0) hFlT26 rfl (by rw [eval_tmp, nZ (by decide), nZ (by decide), nZ (by decide), nZ (by decide), nZ (by decide), nZ (by decide), nZ (by decide), nZ (by decide), nZ (by decide), nZ (by decide), nZ (by decide), nZ (by decide), g7_5]) r4 ?_
    refine wg_cons ?_
    refine wp_callR (R := fun vz wz => Fr [] w4 wz ∧ Own wz (From w4.heap.size wz) 1 vz (enc ver false (.mk n s nl l u)).length (octets (enc ver false (.mk n s nl l u)))) (vs := #[fsv, .int .i64 ver, .bool false, .agg ([.int .i64 n, sv, .bool nl, lv, uv] : List Value).toArray]) hPa.enters (by simp only [List.map_toArray, List.map_cons, List.map_nil]; rw [show (((((((((((((a7.put (some 7) (.pointer (some ⟨w.heap.size, 0, none⟩))).put (some 8) fsv).put (some 9) (.int .i64 ver)).put (some 10) (.pointer (some ⟨w.heap.size, 1, none⟩))).put (some 11) (.int .i64 fx)).put (some 12) (.bool false)).put (some 13) (.bool false)).put (some 14) undef).put (some 15) undef).put (some 16) undef).put (some 17) undef).put (some 18) (.bool false)).put (some 19) (.agg ([.int .i64 n, sv, .bool nl, lv, uv] : List Value).toArray)).eval (.tmp 8) = fsv from (by rw [eval_tmp, nZ (by decide), nZ (by decide), nZ (by decide), nZ (by decide), nZ (by decide), nZ (by decide), nZ (by decide), nZ (by decide), nZ (by decide), nZ (by decide), nZ (by decide), sZ (zZ hz7) (by decide)]), show (((((((((((((a7.put (some 7) (.pointer (some ⟨w.heap.size, 0, none⟩))).put (some 8) fsv).put (some 9) (.int .i64 ver)).put (some 10) (.pointer (some ⟨w.heap.size, 1, none⟩))).put (some 11) (.int .i64 fx)).put (some 12) (.bool false)).put (some 13) (.bool false)).put (some 14) undef).put (some 15) undef).put (some 16) undef).put (some 17) undef).put (some 18) (.bool false)).put (some 19) (.agg ([.int .i64 n, sv, .bool nl, lv, uv] : List Value).toArray)).eval (.tmp 9) = Value.int .i64 ver from (by rw [eval_tmp, nZ (by decide), nZ (by decide), nZ (by decide), nZ (by decide), nZ (by decide), nZ (by decide), nZ (by decide), nZ (by decide), nZ (by decide), nZ (by decide), sZ (zZ (zZ hz7)) (by decide)]), show (((((((((((((a7.put (some 7) (.pointer (some ⟨w.heap.size, 0, none⟩))).put (some 8) fsv).put (some 9) (.int .i64 ver)).put (some 10) (.pointer (some ⟨w.heap.size, 1, none⟩))).put (some 11) (.int .i64 fx)).put (some 12) (.bool false)).put (some 13) (.bool false)).put (some 14) undef).put (some 15) undef).put (some 16) undef).put (some 17) undef).put (some 18) (.bool false)).put (some 19) (.agg ([.int .i64 n, sv, .bool nl, lv, uv] : List Value).toArray)).eval (.tmp 18) = Value.bool false from (by rw [eval_tmp, nZ (by decide), sZ (zZ (zZ (zZ (zZ (zZ (zZ (zZ (zZ (zZ (zZ (zZ hz7))))))))))) (by decide)]), show (((((((((((((a7.put (some 7) (.pointer (some ⟨w.heap.size, 0, none⟩))).put (some 8) fsv).put (some 9) (.int .i64 ver)).put (some 10) (.pointer (some ⟨w.heap.size, 1, none⟩))).put (some 11) (.int .i64 fx)).put (some 12) (.bool false)).put (some 13) (.bool false)).put (some 14) undef).put (some 15) undef).put (some 16) undef).put (some 17) undef).put (some 18) (.bool false)).put (some 19) (.agg ([.int .i64 n, sv, .bool nl, lv, uv] : List Value).toArray)).eval (.tmp 19) = Value.agg ([.int .i64 n, sv, .bool nl, lv, uv] : List Value).toArray from (by rw [eval_tmp, sZ (zZ (zZ (zZ (zZ (zZ (zZ (zZ (zZ (zZ (zZ (zZ (zZ hz7)))))))))))) (by decide)])]) (calls_fresh (hPa.call w4 A B fsv ver false _ (.mk n s nl l u) (hfs.kept hF5 (by simp) (fun _ h => h)) (ht0.kept hF5 (by simp) (fun _ h => h)) (fun b hb => Nat.lt_of_lt_of_le (hA b hb) hF5.size) (fun b hb => Nat.lt_of_lt_of_le (hB b hb) hF5.size) hlen)) ?_
    rintro x9 w9 ⟨fr9, ow9⟩
    have hF10 : Fr [] w w9 := hF5.tr fr9
    have rb11 := fr9.range rb6 .nil
    have rb12 := fr9.range r4 .nil
    refine wg_cons ?_
    refine wp_as (v := x9) (by rw [eval_tmp, sZ (zZ (zZ (zZ (zZ (zZ (zZ (zZ (zZ (zZ (zZ (zZ (zZ (zZ hz7))))))))))))) (by decide)]) ?_
    refine wg_end fun a13 ha13 => ?_
    have hz13 : a13.tmps.size = 21 := by rw [ha13]; exact (zZ (zZ (zZ (zZ (zZ (zZ (zZ (zZ (zZ (zZ (zZ (zZ (zZ (zZ (zZ hz7)))))))))))))))
    have hd13 : a13.defers = [] := by rw [ha13]; exact (dZ (dZ (dZ (dZ (dZ (dZ (dZ (dZ (dZ (dZ (dZ (dZ (dZ (dZ (dZ hd7)))))))))))))))
    have g13_6 : get a13 6 = x9 := by rw [ha13, sZ (zZ (zZ (zZ (zZ (zZ (zZ (zZ (zZ (zZ (zZ (zZ (zZ (zZ (zZ hz7)))))))))))))) (by decide)]
    clear ha13
    refine hK8 a13 w9 (then_up ?_)
    refine wp_ret ?_
    exact ⟨hd13, _, results_is hres g13_6, _, rfl, hF10, ow9.from (by have := hF5.size; omega)⟩
end Go.Kq
