/- A part of the library: rules of reasoning about the program's operations and what its shared functions do. -/
import Derived.Test.YtdigpekcblpedaaKqP02
import Derived.Test.YtdigpekcblpedaaKqP01
set_option linter.unusedVariables false
set_option linter.unusedSimpArgs false
namespace Go.Kq
open Go Go.Proofs
theorem take_flatMap {f : T → List UInt8} : ∀ {l : List T} {j : Nat} {t : T}, l[j]? = some t → (l.take (j + 1)).flatMap f = (l.take j).flatMap f ++ f t
  | [], _, _, h => by simp at h
  | x :: l, 0, t, h => by simp at h; subst h; simp
  | x :: l, j + 1, t, h => by
    have := take_flatMap (f := f) (l := l) (j := j) (t := t) (by simpa using h)
    simp only [List.take_succ_cons, List.flatMap_cons, this, List.append_assoc]
theorem take_flatMap_le {f : T → List UInt8} : ∀ {l : List T} (j : Nat), ((l.take j).flatMap f).length ≤ (l.flatMap f).length
  | [], _ => by simp
  | x :: l, 0 => by simp
  | x :: l, j + 1 => by
    have := take_flatMap_le (f := f) (l := l) j
    simp only [List.take_succ_cons, List.flatMap_cons, List.length_append]; omega
theorem flatMap_part {f : T → List UInt8} {l : List T} {j : Nat} {t : T} (h : l[j]? = some t) : (f t).length ≤ (l.flatMap f).length := by
  have h1 := take_flatMap (f := f) h
  have h2 := take_flatMap_le (f := f) (l := l) (j + 1)
  rw [h1, List.length_append] at h2; omega
structure FieldM (P : Program) (f : FuncId) (fd : Fd) (enc : Int → Bool → T → List UInt8) : Prop where
  enters : Enters P f
  call : ∀ (w : World) (A B : Nat → Prop) (ver : Int) (flex : Bool) (cs ct : List Value) (t : T), RepF w A cs fd → RepT w B ct t → (∀ b, A b → b < w.heap.size) → (∀ b, B b → b < w.heap.size) → (enc ver flex t).length ≤ 4294967296 →
    Calls P f #[.agg cs.toArray, .int .i64 ver, .bool flex, .agg ct.toArray] w (Fresh w (enc ver flex t))
set_option maxHeartbeats 4000000 in
theorem field_m {P : Program} {f : FuncId} {fn : Func} {T3 T22 T23 T26 T29 T45 : TypeId} {f26 f72 f73 f74 f75 f76 : FuncId} {a0 : Array TypeId} {a1 : Array TypeId} {a2 : Array TypeId} {a3 : Array TypeId} {a4 : Array TypeId} {a5 : Array TypeId} {a6 : Array TypeId} {a7 : Array TypeId} {i0 i1 i2 i3 i4 i5 i6 i7 i8 i9 i10 i11 i12 i13 i14 i15 i16 i17 : Nat} {t0 t1 t2 t3 t4 t5 t6 t7 t8 t9 t10 t11 t12 t13 t14 t15 t16 t17 t18 t19 t20 t21 t22 t23 t24 t25 t26 t27 t28 t29 t30 t31 t32 t33 t34 t35 t36 t37 t38 t39 t40 t41 t42 t43 t44 t45 t46 t47 t48 t49 t50 t51 t52 t53 t54 t55 t56 t57 t58 t59 t60 t61 t62 t63 t64 t65 t66 t67 t68 t69 t70 t71 t72 t73 t74 t75 t76 : TypeId} {p0 p1 p2 p3 p4 p5 p6 p7 p8 p9 p10 p11 p12 p13 p14 p15 p16 p17 p18 p19 p20 p21 p22 p23 p24 p25 p26 p27 p28 p29 p30 p31 p32 p33 p34 p35 p36 p37 p38 p39 p40 p41 p42 p43 p44 p45 p46 p47 p48 p49 p50 p51 p52 p53 p54 p55 p56 p57 p58 p59 p60 p61 p62 p63 p64 p65 p66 p67 p68 p69 p70 p71 p72 p73 p74 p75 p76 : String} {e0 e1 e2 e3 e4 e5 e6 e7 e8 e9 e10 e11 e12 e13 e14 e15 e16 e17 e18 e19 e20 e21 e22 e23 e24 e25 e26 e27 e28 e29 e30 e31 e32 e33 e34 e35 e36 e37 e38 e39 e40 e41 e42 e43 e44 e45 e46 e47 e48 e49 e50 e51 e52 e53 e54 e55 e56 e57 e58 e59 e60 e61 e62 e63 e64 e65 e66 e67 e68 e69 e70 e71 e72 e73 e74 e75 e76 : Array Edge} {te te5 : TypeId} {tb : Nat} {fd : Fd} {sub : Int → Bool → T → List UInt8}
    (hf : P.funcs[f]? = some fn) (hname : (fn.name == "runtime.NumGoroutine") = false) (hres : fn.results = #[.tmp 8]) (hN : fn.ntmps = 76)
    (hbody : fn.body = some (.seq (Code.region i0 ⟨[⟨some 4, .box T45 (.tmp 0), t0, p0, e0, none⟩,
    ⟨some 7, .box T26 (.tmp 3), t1, p1, e1, none⟩,
    ⟨some 8, .assign (.const (.slice none 0 0)), t2, p2, e2, none⟩]⟩ false)
  (.seq (Code.region i1 ⟨[⟨some 13, .load T45 (.tmp 4), t3, p3, e3, none⟩,
    ⟨some 14, .move (.tmp 1), t4, p4, e4, none⟩,
    ⟨some 15, .load T26 (.tmp 7), t5, p5, e5, none⟩,
    ⟨some 16, .call ⟨.value (.func f72), #[(.tmp 13), (.tmp 14), (.tmp 15)], a0⟩, t6, p6, e6, none⟩,
    ⟨some 9, .assign (.tmp 16), t7, p7, e7, none⟩]⟩ false)
  (.seq (.seq (Code.region i2 ⟨[⟨some 17, .fieldAddr T45 (.tmp 4) 0, t8, p8, e8, none⟩,
    ⟨some 18, .load T3 (.tmp 17), t9, p9, e9, none⟩,
    ⟨some 19, .binOp .eql T3 (.tmp 18) (.const (.int .i64 11)) T3, t10, p10, e10, none⟩]⟩ false)
  (.cond (.tmp 19) (.seq (Code.region i3 ⟨[⟨some 20, .fieldAddr T26 (.tmp 7) 3, t11, p11, e11, none⟩,
    ⟨some 21, .load T23 (.tmp 20), t12, p12, e12, none⟩,
    ⟨some 22, .call ⟨.value (.func f73), #[(.tmp 21)], a1⟩, t13, p13, e13, none⟩,
    ⟨some 10, .assign (.tmp 22), t14, p14, e14, none⟩]⟩ false)
  (.seq (.seq (Code.region i4 ⟨[⟨some 23, .move (.tmp 9), t15, p15, e15, none⟩]⟩ false)
  (.cond (.tmp 23) (Code.region i5 ⟨[⟨some 10, .assign (.const (.slice none 0 0)), t16, p16, e16, none⟩]⟩ false)
  .skip))
  (.seq (Code.region i6 ⟨[⟨some 24, .move (.tmp 2), t17, p17, e17, none⟩,
    ⟨some 25, .move (.tmp 9), t18, p18, e18, none⟩,
    ⟨some 26, .move (.tmp 10), t19, p19, e19, none⟩,
    ⟨some 27, .call ⟨.builtin .len, #[(.tmp 26)], #[T23]⟩, t20, p20, e20, none⟩,
    ⟨some 28, .call ⟨.value (.func f74), #[(.tmp 24), (.tmp 25), (.tmp 27), (.const (.int .i64 4))], a2⟩, t21, p21, e21, none⟩,
    ⟨some 11, .assign (.tmp 28), t22, p22, e22, none⟩]⟩ false)
  (.seq (.seq (Code.region i7 ⟨[⟨some 29, .move (.tmp 10), t23, p23, e23, none⟩,
    ⟨some 30, .call ⟨.builtin .len, #[(.tmp 29)], #[T23]⟩, t24, p24, e24, none⟩,
    ⟨some 31, .move (.const (.int .i64 0)), t25, p25, e25, none⟩]⟩ false)
  (.block 0 (.loop (.seq (Code.region i8 ⟨[⟨some 32, .binOp .lss T3 (.tmp 31) (.tmp 30) T3, t26, p26, e26, none⟩]⟩ false)
  (.seq (.cond (.tmp 32) .skip
  (.exit 0))
  (.seq (.block 1 (.seq (Code.region i9 ⟨[⟨some 33, .move (.tmp 31), t27, p27, e27, none⟩,
    ⟨some 12, .assign (.tmp 33), t28, p28, e28, none⟩]⟩ false)
  (Code.region i10 ⟨[⟨some 34, .move (.tmp 11), t29, p29, e29, none⟩,
    ⟨some 35, .fieldAddr T45 (.tmp 4) 6, t30, p30, e30, none⟩,
    ⟨some 36, .load T3 (.tmp 35), t31, p31, e31, none⟩,
    ⟨some 37, .fieldAddr T45 (.tmp 4) 7, t32, p32, e32, none⟩,
    ⟨some 38, .load T29 (.tmp 37), t33, p33, e33, none⟩,
    ⟨some 39, .move (.tmp 1), t34, p34, e34, none⟩,
    ⟨some 40, .move (.tmp 2), t35, p35, e35, none⟩,
    ⟨some 41, .move (.tmp 10), t36, p36, e36, none⟩,
    ⟨some 42, .move (.tmp 12), t37, p37, e37, none⟩,
    ⟨some 43, .indexAddr T23 (.tmp 41) (.tmp 42), t38, p38, e38, none⟩,
    ⟨some 44, .load T26 (.tmp 43), t39, p39, e39, none⟩,
    ⟨some 45, .call ⟨.value (.func f75), #[(.tmp 36), (.tmp 38), (.const (.bool false)), (.tmp 39), (.tmp 40), (.tmp 44)], a3⟩, t40, p40, e40, none⟩,
    ⟨some 46, .call ⟨.builtin .append, #[(.tmp 34), (.tmp 45)], #[T22, T22]⟩, t41, p41, e41, none⟩,
    ⟨some 11, .assign (.tmp 46), t42, p42, e42, none⟩]⟩ true)))
  (Code.region i11 ⟨[⟨some 47, .binOp .add T3 (.tmp 31) (.const (.int .i64 1)) T3, t43, p43, e43, none⟩,
    ⟨some 31, .move (.tmp 47), t44, p44, e44, none⟩]⟩ false)))))))
  (.seq (Code.region i12 ⟨[⟨some 48, .move (.tmp 11), t45, p45, e45, none⟩,
    ⟨some 8, .assign (.tmp 48), t46, p46, e46, none⟩]⟩ false)
  .ret)))))
  .skip))
  (.seq (.seq (Code.region i13 ⟨[⟨some 49, .fieldAddr T45 (.tmp 4) 0, t47, p47, e47, none⟩,
    ⟨some 50, .load T3 (.tmp 49), t48, p48, e48, none⟩,
    ⟨some 51, .binOp .eql T3 (.tmp 50) (.const (.int .i64 10)) T3, t49, p49, e49, none⟩,
    ⟨some 52, .move (.tmp 51), t50, p50, e50, none⟩,
    ⟨some 53, .fieldAddr T45 (.tmp 4) 3, t51, p51, e51, some (3, true)⟩,
    ⟨some 54, .load T3 (.tmp 53), t52, p52, e52, some (3, true)⟩,
    ⟨some 55, .binOp .geq T3 (.tmp 54) (.const (.int .i64 0)) T3, t53, p53, e53, some (3, true)⟩,
    ⟨some 56, .pick (.tmp 52) (.tmp 55) (.const (.bool false)), t54, p54, e54, none⟩]⟩ false)
  (.cond (.tmp 56) (.seq (.seq (Code.region i14 ⟨[⟨some 57, .move (.tmp 9), t55, p55, e55, none⟩]⟩ false)
  (.cond (.tmp 57) (.seq (Code.region i15 ⟨[⟨some 58, .call ⟨.value (.func f76), #[(.const (.int .i64 (-1))), (.const (.int .i64 1))], a4⟩, t56, p56, e56, none⟩,
    ⟨some 8, .assign (.tmp 58), t57, p57, e57, none⟩]⟩ false)
  .ret)
  .skip))
  (.seq (Code.region i16 ⟨[⟨some 59, .call ⟨.value (.func f76), #[(.const (.int .i64 1)), (.const (.int .i64 1))], a5⟩, t58, p58, e58, none⟩,
    ⟨some 60, .fieldAddr T45 (.tmp 4) 7, t59, p59, e59, none⟩,
    ⟨some 61, .load T29 (.tmp 60), t60, p60, e60, none⟩,
    ⟨some 62, .move (.tmp 1), t61, p61, e61, none⟩,
    ⟨some 63, .move (.tmp 2), t62, p62, e62, none⟩,
    ⟨some 64, .load T26 (.tmp 7), t63, p63, e63, none⟩,
    ⟨some 65, .call ⟨.value (.func f26), #[(.tmp 61), (.tmp 62), (.tmp 63), (.tmp 64)], a6⟩, t64, p64, e64, none⟩,
    ⟨some 66, .call ⟨.builtin .append, #[(.tmp 59), (.tmp 65)], #[T22, T22]⟩, t65, p65, e65, none⟩,
    ⟨some 8, .assign (.tmp 66), t66, p66, e66, none⟩]⟩ true)
  .ret))
  .skip))
  (.seq (Code.region i17 ⟨[⟨some 67, .fieldAddr T45 (.tmp 4) 0, t67, p67, e67, none⟩,
    ⟨some 68, .load T3 (.tmp 67), t68, p68, e68, none⟩,
    ⟨some 69, .fieldAddr T45 (.tmp 4) 7, t69, p69, e69, none⟩,
    ⟨some 70, .load T29 (.tmp 69), t70, p70, e70, none⟩,
    ⟨some 71, .move (.tmp 9), t71, p71, e71, none⟩,
    ⟨some 72, .move (.tmp 1), t72, p72, e72, none⟩,
    ⟨some 73, .move (.tmp 2), t73, p73, e73, none⟩,
    ⟨some 74, .load T26 (.tmp 7), t74, p74, e74, none⟩,
    ⟨some 75, .call ⟨.value (.func f75), #[(.tmp 68), (.tmp 70), (.tmp 71), (.tmp 72), (.tmp 73), (.tmp 74)], a7⟩, t75, p75, e75, none⟩,
    ⟨some 8, .assign (.tmp 75), t76, p76, e76, none⟩]⟩ false)
  .ret))))))
    (hs_T22 : sliceOf P T22 te 1 1 = true) (hz_T22 : zeroIs P te [.int .u8 0]) (hFlT45 : Flat P T45 zF) (hFlT26 : Flat P T26 zT) (hcT3 : scal P T3 = true) (hcT23 : scal P T23 = true) (hsT23 : slTy P T23 = true) (hcT29 : scal P T29 = true) (hs_T23 : sliceOf P T23 te5 5 tb = true) (he10 : edgeOk 0 [e29, e30, e31, e32, e33, e34, e35, e36, e37, e38, e39, e40, e41, e42] [[], [], [1], [], [3], [], [], [], [], [7, 8], [9], [2, 4, 5, 6, 10], [0, 1, 2, 3, 4, 5, 6, 7, 8, 9, 10, 11], [0, 1, 2, 3, 4, 5, 6, 7, 8, 9, 10, 11, 12]] = true) (hmx : P.follows .mixedOrders = true) (he16 : edgeOk 0 [e58, e59, e60, e61, e62, e63, e64, e65, e66] [[], [], [1], [], [], [], [2, 3, 4, 5], [0, 1, 2, 3, 4, 5, 6], [0, 1, 2, 3, 4, 5, 6, 7]] = true) (hNu : NullM P f72) (hTh : ThingsM P f73) (hCo : CountM P f74) (hVa : ValueM P f75 fd.sub sub) (hPa : PartM P f26 fd.sub sub) (hFx : FixM P f76) : FieldM P f fd (fun ver flex t => fieldV fd.kind fd.nul fd.of (sub ver flex) ver flex t) := by
  refine ⟨enters_of hf hname hbody, ?_⟩
  intro w A B ver flex cs ct t hr ht hA hB hlen
  cases t with
  | mk n s nl l u =>
  have ht0 := ht
  obtain ⟨sv, lv, uv, rfl, hn, hs, hl, hu⟩ := repT_iff.1 ht
  obtain ⟨fsv, rfl, hsub⟩ := repF_iff.1 hr
  obtain ⟨nu, hnu⟩ : ∃ b, b = nullW fd.nul ver (.mk n s nl l u) := ⟨_, rfl⟩
  obtain ⟨tl, htl⟩ : ∃ x, x = thingsW nu (.mk n s nl l u) := ⟨_, rfl⟩
  refine calls_of_wp hf hbody ?_
  generalize ha0 : ({ tmps := #[Value.agg ([.int .i64 fd.kind, .int .i64 fd.fr, .int .i64 fd.to, .int .i64 fd.nul, .int .i64 fd.tag, .int .i64 fd.df, .int .i64 fd.of, fsv] : List Value).toArray, Value.int .i64 ver, Value.bool flex, Value.agg ([.int .i64 n, sv, .bool nl, lv, uv] : List Value).toArray] ++ Array.replicate (fn.ntmps - (#[Value.agg ([.int .i64 fd.kind, .int .i64 fd.fr, .int .i64 fd.to, .int .i64 fd.nul, .int .i64 fd.tag, .int .i64 fd.df, .int .i64 fd.of, fsv] : List Value).toArray, Value.int .i64 ver, Value.bool flex, Value.agg ([.int .i64 n, sv, .bool nl, lv, uv] : List Value).toArray] : Array Value).size) undef, defers := [] } : Act) = a0
  have hz0 : a0.tmps.size = 76 := by subst ha0; simp [hN]
  have hd0 : a0.defers = [] := by subst ha0; rfl
  have g0_0 : get a0 0 = .agg ([.int .i64 fd.kind, .int .i64 fd.fr, .int .i64 fd.to, .int .i64 fd.nul, .int .i64 fd.tag, .int .i64 fd.df, .int .i64 fd.of, fsv] : List Value).toArray := by subst ha0; exact gAr rfl
  have g0_1 : get a0 1 = .int .i64 ver := by subst ha0; exact gAr rfl
  have g0_2 : get a0 2 = .bool flex := by subst ha0; exact gAr rfl
  have g0_3 : get a0 3 = .agg ([.int .i64 n, sv, .bool nl, lv, uv] : List Value).toArray := by subst ha0; exact gAr rfl
  refine wT fun K1 hK1 => ?_
  refine wC (wp_boxL (cs := [.int .i64 fd.kind, .int .i64 fd.fr, .int .i64 fd.to, .int .i64 fd.nul, .int .i64 fd.tag, .int .i64 fd.df, .int .i64 fd.of, fsv]) (eK g0_0) ?_)
  rintro w2 f2 sz2 r2 th2
  have hF3 : Fr [] w w2 := f2
  refine wC (wp_boxL (cs := [.int .i64 n, sv, .bool nl, lv, uv]) (eK g0_3) ?_)
  rintro w4 f4 sz4 r4 th4
  have hF5 : Fr [] w w4 := hF3.tr f4
  have rb6 := f4.range r2 .nil
  refine wC (wAs (v := .slice none 0 0) rfl ?_)
  refine wEn fun a7 ha7 => ?_
  have hz7 := kS ha7 hz0
  have hd7 := kD ha7 hd0
  have g7_0 := kP ha7 g0_0
  have g7_1 := kP ha7 g0_1
  have g7_2 := kP ha7 g0_2
  have g7_3 := kP ha7 g0_3
  have g7_4 : get a7 4 = .pointer (some ⟨w.heap.size, 0, none⟩) := kG ha7 hz0
  have g7_7 : get a7 7 = .pointer (some ⟨w2.heap.size, 0, none⟩) := kG ha7 hz0
  have g7_8 : get a7 8 = .slice none 0 0 := kG ha7 hz0
  refine hK1 a7 w4 (tUp ?_)
  refine tId (wp_seq_k fun K8 hK8 => ?_)
  have hS0 : w.heap.size + 2 ≤ w4.heap.size := by omega
  refine wp_reg ?_
  refine wC (wp_loadFlat (cs := [.int .i64 fd.kind, .int .i64 fd.fr, .int .i64 fd.to, .int .i64 fd.nul, .int .i64 fd.tag, .int .i64 fd.df, .int .i64 fd.of, fsv]) (b := w.heap.size) (o := 0) hFlT45 rfl (eK g7_4) rb6 ?_)
  refine wC (wMv (v := .int .i64 ver) (eK g7_1) ?_)
  refine wC (wp_loadFlat (cs := [.int .i64 n, sv, .bool nl, lv, uv]) (b := w2.heap.size) (o := 0) hFlT26 rfl (eK g7_7) r4 ?_)
  refine wC (wCr (R := fun x wz => x = .bool nu ∧ Fr [] w4 wz) (vs := #[.agg ([.int .i64 fd.kind, .int .i64 fd.fr, .int .i64 fd.to, .int .i64 fd.nul, .int .i64 fd.tag, .int .i64 fd.df, .int .i64 fd.of, fsv] : List Value).toArray, .int .i64 ver, .agg ([.int .i64 n, sv, .bool nl, lv, uv] : List Value).toArray]) hNu.enters (mX3 (eS hz7) (eS hz7) (eS hz7)) ((hNu.call w4 A B _ _ fd (.mk n s nl l u) ver (hr.kept hF5 (by simp) (fun _ h => h)) (ht0.kept hF5 (by simp) (fun _ h => h))).mono (by rintro e w' ⟨rfl, hf⟩; exact ⟨_, rfl, by rw [hnu], hf⟩)) ?_)
  rintro x9 w9 ⟨rfl, fr9⟩
  have hF10 : Fr [] w w9 := hF5.tr fr9
  have hL10_w4 : Fr [] w4 w9 := (Fr.refl [] w4).tr fr9
  have rb11 := fr9.range rb6 .nil
  have rb12 := fr9.range r4 .nil
  refine wC (wAs (v := .bool nu) (eS hz7) ?_)
  refine wEn fun a13 ha13 => ?_
  have hz13 := kS ha13 hz7
  have hd13 := kD ha13 hd7
  have g13_0 := kP ha13 g7_0
  have g13_1 := kP ha13 g7_1
  have g13_2 := kP ha13 g7_2
  have g13_3 := kP ha13 g7_3
  have g13_4 := kP ha13 g7_4
  have g13_7 := kP ha13 g7_7
  have g13_8 := kP ha13 g7_8
  have g13_9 : get a13 9 = .bool nu := kG ha13 hz7
  refine hK8 a13 w9 (tUp ?_)
  refine tId (wp_seq_k fun K14 hK14 => ?_)
  refine wS fun K15 hK15 => ?_
  refine wC (wFa (b := w.heap.size) (i := 0) (hFlT45.fld (by decide)) (eK g13_4) ?_)
  rw [show (0 + 0 : Nat) = 0 from rfl]
  refine wC (wL0 (j := 0) (v := .int .i64 fd.kind) hcT3 (eS hz13) rb11 rfl ?_)
  refine wC (wp_eql (k1 := .i64) (i := fd.kind) (j := 11) (eS hz13) rfl ?_)
  refine wEn fun a16 ha16 => ?_
  have hz16 := kS ha16 hz13
  have hd16 := kD ha16 hd13
  have g16_0 := kP ha16 g13_0
  have g16_1 := kP ha16 g13_1
  have g16_2 := kP ha16 g13_2
  have g16_3 := kP ha16 g13_3
  have g16_4 := kP ha16 g13_4
  have g16_7 := kP ha16 g13_7
  have g16_8 := kP ha16 g13_8
  have g16_9 := kP ha16 g13_9
  have g16_19 : get a16 19 = .bool ((fd.kind : Int) == (11 : Int)) := kG ha16 hz13
  refine hK15 a16 w9 ?_
  refine wp_cond_split (t := ((fd.kind : Int) == (11 : Int))) (eK g16_19) (fun hc17 => ?_) (fun hc17 => ?_)
  · have h11 : fd.kind = 11 := by simpa using hc17
    refine wS fun K18 hK18 => ?_
    refine wC (wFa (b := w2.heap.size) (i := 0) (hFlT26.fld (by decide)) (eK g16_7) ?_)
    rw [show (0 + 3 : Nat) = 3 from rfl]
    refine wC (wL0 (j := 3) (v := lv) hcT23 (eS hz16) rb12 rfl ?_)
    refine wC (wCr (R := fun x wz => Things wz B x (l.take 32767) ∧ w9 = wz) (vs := #[lv]) hTh.enters (mX1 (eS hz16)) ((hTh.call w9 B lv l (hl.kept hF10 (by simp) (fun _ h => h))).mono (by rintro e w' ⟨x, rfl, h1, rfl⟩; exact ⟨x, rfl, h1, rfl⟩)) ?_)
    rintro x19 _ ⟨hx19, rfl⟩
    obtain ⟨q19, c19, rfl, -, -, -⟩ := hx19.sl2
    have hxw19 := hx19
    refine wC (wAs (v := .slice q19 ((l.take 32767).length) c19) (eS hz16) ?_)
    refine wEn fun a20 ha20 => ?_
    have hz20 := kS ha20 hz16
    have hd20 := kD ha20 hd16
    have g20_0 := kP ha20 g16_0
    have g20_1 := kP ha20 g16_1
    have g20_2 := kP ha20 g16_2
    have g20_3 := kP ha20 g16_3
    have g20_4 := kP ha20 g16_4
    have g20_7 := kP ha20 g16_7
    have g20_8 := kP ha20 g16_8
    have g20_9 := kP ha20 g16_9
    have g20_10 : get a20 10 = .slice q19 ((l.take 32767).length) c19 := kG ha20 hz16
    refine hK18 a20 w9 ?_
    refine wp_seq_k fun K21 hK21 => ?_
    have hJ22 : ∀ (a' : Act) (w' : World), (∃ (q : Option Addr) (c : Nat), a'.tmps.size = 76 ∧ a'.defers = [] ∧ get a' 0 = .agg ([.int .i64 fd.kind, .int .i64 fd.fr, .int .i64 fd.to, .int .i64 fd.nul, .int .i64 fd.tag, .int .i64 fd.df, .int .i64 fd.of, fsv] : List Value).toArray ∧ get a' 1 = .int .i64 ver ∧ get a' 2 = .bool flex ∧ get a' 3 = .agg ([.int .i64 n, sv, .bool nl, lv, uv] : List Value).toArray ∧ get a' 4 = .pointer (some ⟨w.heap.size, 0, none⟩) ∧ get a' 7 = .pointer (some ⟨w2.heap.size, 0, none⟩) ∧ get a' 8 = .slice none 0 0 ∧ get a' 9 = .bool nu ∧ get a' 10 = .slice q tl.length c ∧ Things w' B (.slice q tl.length c) tl ∧ w'.rangeAt w.heap.size 0 [.int .i64 fd.kind, .int .i64 fd.fr, .int .i64 fd.to, .int .i64 fd.nul, .int .i64 fd.tag, .int .i64 fd.df, .int .i64 fd.of, fsv] ∧ Fr [] w w' ∧ w4.heap.size ≤ w'.heap.size) → K21 a' w' := by
      rintro a22 w22 ⟨q, c, hz22, hd22, g22_0, g22_1, g22_2, g22_3, g22_4, g22_7, g22_8, g22_9, g22_10, htj, hbj, hfj, hszj⟩
      have hfS : w4.heap.size ≤ w22.heap.size := by have := hszj; omega
      refine hK21 a22 w22 ?_
      refine wp_seq_k fun K23 hK23 => ?_
      have htlb : tl.length < 4294967296 := by rw [htl]; unfold thingsW; split <;> simp; omega
      have hW : fieldV fd.kind fd.nul fd.of (sub ver flex) ver flex (.mk n s nl l u) = countedW flex nu tl.length 4 ++ tl.flatMap (valueW fd.of (sub ver flex) false flex) := by rw [fieldV, if_pos h11, ← hnu, ← htl]
      rw [hW] at hlen
      rw [List.length_append] at hlen
      refine wp_reg ?_
      refine wC (wMv (v := .bool flex) (eK g22_2) ?_)
      refine wC (wMv (v := .bool nu) (eK g22_9) ?_)
      refine wC (wMv (v := .slice q tl.length c) (eK g22_10) ?_)
      refine wC (wp_lenS (n := tl.length) hsT23 (eS hz22) ?_)
      refine wC (wCr (R := fun x wz => Fr [] w22 wz ∧ Own wz (From w22.heap.size wz) 1 x (countedW flex nu tl.length 4).length (octets (countedW flex nu tl.length 4))) (vs := #[.bool flex, .bool nu, .int .i64 ((tl.length : Nat) : Int), .int .i64 4]) hCo.enters (by simp only [List.map_toArray, List.map_cons, List.map_nil]; rw [eTm, nZ (by decide), nZ (by decide), nZ (by decide), sZ hz22 (by decide), eTm, nZ (by decide), nZ (by decide), sZ (zZ hz22) (by decide), eTm, sZ (zZ (zZ (zZ hz22))) (by decide), show ((((a22.put (some 24) (.bool flex)).put (some 25) (.bool nu)).put (some 26) (.slice q tl.length c)).put (some 27) (.int .i64 ((tl.length : Nat) : Int))).eval (.const (.int .i64 4)) = Value.int .i64 4 from rfl]) (calls_fresh (hCo.call w22 flex nu tl.length 4 htlb (by decide))) ?_)
      rintro x24 w24 ⟨fr24, ow24⟩
      have hF25 : Fr [] w w24 := hfj.tr fr24
      have hL25_w22 : Fr [] w22 w24 := (Fr.refl [] w22).tr fr24
      have rb26 := fr24.range hbj .nil
      refine wC (wAs (v := x24) (eS hz22) ?_)
      refine wEn fun a27 ha27 => ?_
      have hz27 := kS ha27 hz22
      have hd27 := kD ha27 hd22
      have g27_0 := kP ha27 g22_0
      have g27_1 := kP ha27 g22_1
      have g27_2 := kP ha27 g22_2
      have g27_3 := kP ha27 g22_3
      have g27_4 := kP ha27 g22_4
      have g27_7 := kP ha27 g22_7
      have g27_8 := kP ha27 g22_8
      have g27_9 := kP ha27 g22_9
      have g27_10 := kP ha27 g22_10
      have g27_11 : get a27 11 = x24 := kG ha27 hz22
      refine hK23 a27 w24 ?_
      refine wp_seq_k fun K28 hK28 => ?_
      refine wS fun K29 hK29 => ?_
      refine wC (wMv (v := .slice q tl.length c) (eK g27_10) ?_)
      refine wC (wp_lenS (n := tl.length) hsT23 (eS hz27) ?_)
      refine wC (wMv (v := .int .i64 0) rfl ?_)
      refine wEn fun a30 ha30 => ?_
      have hz30 := kS ha30 hz27
      have hd30 := kD ha30 hd27
      have g30_0 := kP ha30 g27_0
      have g30_1 := kP ha30 g27_1
      have g30_2 := kP ha30 g27_2
      have g30_3 := kP ha30 g27_3
      have g30_4 := kP ha30 g27_4
      have g30_7 := kP ha30 g27_7
      have g30_8 := kP ha30 g27_8
      have g30_9 := kP ha30 g27_9
      have g30_10 := kP ha30 g27_10
      have g30_11 := kP ha30 g27_11
      have g30_30 : get a30 30 = .int .i64 ((tl.length : Nat) : Int) := kG ha30 hz27
      have g30_31 : get a30 31 = .int .i64 0 := kG ha30 hz27
      refine hK29 a30 w24 ?_
      refine wp_block (wp_loop_ghost (fun (m : Nat) a' w' => ∃ (j : Nat) (v11 : Value), a'.tmps.size = 76 ∧ a'.defers = [] ∧ get a' 0 = .agg ([.int .i64 fd.kind, .int .i64 fd.fr, .int .i64 fd.to, .int .i64 fd.nul, .int .i64 fd.tag, .int .i64 fd.df, .int .i64 fd.of, fsv] : List Value).toArray ∧ get a' 1 = .int .i64 ver ∧ get a' 2 = .bool flex ∧ get a' 3 = .agg ([.int .i64 n, sv, .bool nl, lv, uv] : List Value).toArray ∧ get a' 4 = .pointer (some ⟨w.heap.size, 0, none⟩) ∧ get a' 7 = .pointer (some ⟨w2.heap.size, 0, none⟩) ∧ get a' 8 = .slice none 0 0 ∧ get a' 9 = .bool nu ∧ get a' 10 = .slice q tl.length c ∧ get a' 11 = v11 ∧ get a' 30 = .int .i64 ((tl.length : Nat) : Int) ∧ get a' 31 = .int .i64 (j : Int) ∧ j + m = tl.length ∧ Own w' (From w4.heap.size w') 1 v11 (countedW flex nu tl.length 4 ++ (tl.take j).flatMap (valueW fd.of (sub ver flex) false flex)).length (octets (countedW flex nu tl.length 4 ++ (tl.take j).flatMap (valueW fd.of (sub ver flex) false flex))) ∧ w'.rangeAt w.heap.size 0 [.int .i64 fd.kind, .int .i64 fd.fr, .int .i64 fd.to, .int .i64 fd.nul, .int .i64 fd.tag, .int .i64 fd.df, .int .i64 fd.of, fsv] ∧ Things w' B (.slice q tl.length c) tl ∧ Fr [] w w' ∧ w4.heap.size ≤ w'.heap.size) tl.length ?_ ?_)
      · exact ⟨0, x24, hz30, hd30, g30_0, g30_1, g30_2, g30_3, g30_4, g30_7, g30_8, g30_9, g30_10, g30_11, g30_30, g30_31, by omega, by simpa using ow24.from hfS, rb26, htj.kept hL25_w22 (by simp) (fun _ h => h), hF25, Nat.le_trans hfS hL25_w22.size⟩
      · rintro m a31 w31 ⟨j, v11, hz31, hd31, g31_0, g31_1, g31_2, g31_3, g31_4, g31_7, g31_8, g31_9, g31_10, g31_11, g31_30, g31_31, hjm, ho, hbl4, htj2, hfl, hSl⟩
        refine wS fun K32 hK32 => ?_
        refine wC (wp_lss (k1 := .i64) (i := (j : Int)) (j := ((tl.length : Nat) : Int)) (eK g31_31) (eK g31_30) ?_)
        refine wEn fun a33 ha33 => ?_
        have hz33 := kS ha33 hz31
        have hd33 := kD ha33 hd31
        have g33_0 := kP ha33 g31_0
        have g33_1 := kP ha33 g31_1
        have g33_2 := kP ha33 g31_2
        have g33_3 := kP ha33 g31_3
        have g33_4 := kP ha33 g31_4
        have g33_7 := kP ha33 g31_7
        have g33_8 := kP ha33 g31_8
        have g33_9 := kP ha33 g31_9
        have g33_10 := kP ha33 g31_10
        have g33_11 := kP ha33 g31_11
        have g33_30 := kP ha33 g31_30
        have g33_31 := kP ha33 g31_31
        have g33_32 : get a33 32 = .bool (decide (((j : Int) : Int) < (((tl.length : Nat) : Int) : Int))) := kG ha33 hz31
        refine hK32 a33 w31 ?_
        refine wp_seq_k fun K34 hK34 => ?_
        refine wp_cond_split (t := decide (((j : Int) : Int) < (((tl.length : Nat) : Int) : Int))) (eK g33_32) (fun hc35 => ?_) (fun hc35 => ?_)
        · have hjl : j < tl.length := by simpa using hc35
          obtain ⟨te', hte⟩ : ∃ t, tl[j]? = some t := ⟨tl[j], by simp [hjl]⟩
          obtain ⟨q', c', hqc, -, -, hk⟩ := htj2.sl2
          obtain ⟨bl, ol, cl, hq, hbl, hrl, hrt⟩ := hk j te' hte
          cases hqc
          rw [hq] at g33_10
          have hel := flatMap_part (f := valueW fd.of (sub ver flex) false flex) hte
          have htk := take_flatMap (f := valueW fd.of (sub ver flex) false flex) hte
          have hpl := take_flatMap_le (f := valueW fd.of (sub ver flex) false flex) (l := tl) (j + 1)
          refine wp_skip ?_
          refine hK34 a33 w31 ?_
          refine wp_seq_k fun K36 hK36 => ?_
          refine wp_blockT ?_
          refine wS fun K37 hK37 => ?_
          refine wC (wMv (v := .int .i64 (j : Int)) (eK g33_31) ?_)
          refine wC (wAs (v := .int .i64 (j : Int)) (eS hz33) ?_)
          refine wEn fun a38 ha38 => ?_
          have hz38 := kS ha38 hz33
          have hd38 := kD ha38 hd33
          have g38_0 := kP ha38 g33_0
          have g38_1 := kP ha38 g33_1
          have g38_2 := kP ha38 g33_2
          have g38_3 := kP ha38 g33_3
          have g38_4 := kP ha38 g33_4
          have g38_7 := kP ha38 g33_7
          have g38_8 := kP ha38 g33_8
          have g38_9 := kP ha38 g33_9
          have g38_10 := kP ha38 g33_10
          have g38_11 := kP ha38 g33_11
          have g38_12 : get a38 12 = .int .i64 (j : Int) := kG ha38 hz33
          have g38_30 := kP ha38 g33_30
          have g38_31 := kP ha38 g33_31
          refine hK37 a38 w31 ?_
          refine wp_drawR (os := [⟨some 34, .move (.tmp 11), t29, p29, e29, none⟩, ⟨some 35, .fieldAddr T45 (.tmp 4) 6, t30, p30, e30, none⟩, ⟨some 36, .load T3 (.tmp 35), t31, p31, e31, none⟩, ⟨some 37, .fieldAddr T45 (.tmp 4) 7, t32, p32, e32, none⟩, ⟨some 38, .load T29 (.tmp 37), t33, p33, e33, none⟩, ⟨some 39, .move (.tmp 1), t34, p34, e34, none⟩, ⟨some 40, .move (.tmp 2), t35, p35, e35, none⟩, ⟨some 41, .move (.tmp 10), t36, p36, e36, none⟩, ⟨some 42, .move (.tmp 12), t37, p37, e37, none⟩, ⟨some 43, .indexAddr T23 (.tmp 41) (.tmp 42), t38, p38, e38, none⟩, ⟨some 44, .load T26 (.tmp 43), t39, p39, e39, none⟩, ⟨some 45, .call ⟨.value (.func f75), #[(.tmp 36), (.tmp 38), (.const (.bool false)), (.tmp 39), (.tmp 40), (.tmp 44)], a3⟩, t40, p40, e40, none⟩]) (rest := [⟨some 46, .call ⟨.builtin .append, #[(.tmp 34), (.tmp 45)], #[T22, T22]⟩, t41, p41, e41, none⟩, ⟨some 11, .assign (.tmp 46), t42, p42, e42, none⟩]) [spC [] (v11), spC [] (.pointer (some ⟨w.heap.size, 6, none⟩)), spC [1] (.int .i64 fd.of), spC [] (.pointer (some ⟨w.heap.size, 7, none⟩)), spC [3] (fsv), spC [] (.int .i64 ver), spC [] (.bool flex), spC [] (.slice (some ⟨bl, ol, none⟩) tl.length c), spC [] (.int .i64 (j : Int)), spC [7, 8] (.pointer (some ⟨bl, ol + j * 5, none⟩)), spC [9] (.agg (cl).toArray), spR [2, 4, 5, 6, 10] (fun x w' => Own w' (From w31.heap.size w') 1 x (valueW fd.of (sub ver flex) false flex te').length (octets (valueW fd.of (sub ver flex) false flex te')))] 34 [] hmx he10 (by simp [shape]) (by simp [plainO]) (by simp [spC, spR]) (by simp; omega) ⟨lCc _ _ _, lCc _ _ _, lCc _ _ _, lCc _ _ _, lCc _ _ _, lCc _ _ _, lCc _ _ _, lCc _ _ _, lCc _ _ _, lCc _ _ _, lCc _ _ _, (fun v w1 w2 f h => h.upTo f (From.mono f.size)), trivial⟩ ?_ ?_
          · refine oCs ?_ ?_
            · refine op_c fun a' w' hk' hf' hd' K' hK' => ?_
              refine wMv (v := v11) (by rw [eTm, hk'.get 11 (by omega), g38_11]) ?_
              exact hK'
            refine oCs ?_ ?_
            · refine op_c fun a' w' hk' hf' hd' K' hK' => ?_
              refine wFa (b := w.heap.size) (i := 0) (hFlT45.fld (by decide)) (by rw [eTm, hk'.get 4 (by omega), g38_4]) ?_
              rw [show (0 + 6 : Nat) = 6 from rfl]
              exact hK'
            refine oCs ?_ ?_
            · refine op_c fun a' w' hk' hf' hd' K' hK' => ?_
              refine wL0 (j := 6) (v := .int .i64 fd.of) hcT3 (by rw [eTm]; exact hd'.c (nd' := []) 1 (by simp) rfl) (hf'.range hbl4 .nil) rfl ?_
              exact hK'
            refine oCs ?_ ?_
            · refine op_c fun a' w' hk' hf' hd' K' hK' => ?_
              refine wFa (b := w.heap.size) (i := 0) (hFlT45.fld (by decide)) (by rw [eTm, hk'.get 4 (by omega), g38_4]) ?_
              rw [show (0 + 7 : Nat) = 7 from rfl]
              exact hK'
            refine oCs ?_ ?_
            · refine op_c fun a' w' hk' hf' hd' K' hK' => ?_
              refine wL0 (j := 7) (v := fsv) hcT29 (by rw [eTm]; exact hd'.c (nd' := []) 3 (by simp) rfl) (hf'.range hbl4 .nil) rfl ?_
              exact hK'
            refine oCs ?_ ?_
            · refine op_c fun a' w' hk' hf' hd' K' hK' => ?_
              refine wMv (v := .int .i64 ver) (by rw [eTm, hk'.get 1 (by omega), g38_1]) ?_
              exact hK'
            refine oCs ?_ ?_
            · refine op_c fun a' w' hk' hf' hd' K' hK' => ?_
              refine wMv (v := .bool flex) (by rw [eTm, hk'.get 2 (by omega), g38_2]) ?_
              exact hK'
            refine oCs ?_ ?_
            · refine op_c fun a' w' hk' hf' hd' K' hK' => ?_
              refine wMv (v := .slice (some ⟨bl, ol, none⟩) tl.length c) (by rw [eTm, hk'.get 10 (by omega), g38_10]) ?_
              exact hK'
            refine oCs ?_ ?_
            · refine op_c fun a' w' hk' hf' hd' K' hK' => ?_
              refine wMv (v := .int .i64 (j : Int)) (by rw [eTm, hk'.get 12 (by omega), g38_12]) ?_
              exact hK'
            refine oCs ?_ ?_
            · refine op_c fun a' w' hk' hf' hd' K' hK' => ?_
              refine wp_ixN (b := bl) (o := ol) (i := j) hs_T23 (by rw [eTm]; exact hd'.c (nd' := []) 7 (by simp) rfl) (by rw [eTm]; exact hd'.c (nd' := []) 8 (by simp) rfl) hjl ?_
              exact hK'
            refine oCs ?_ ?_
            · refine op_c fun a' w' hk' hf' hd' K' hK' => ?_
              refine wp_loadFlat (cs := cl) (b := bl) (o := ol + j * 5) hFlT26 hrt.length (by rw [eTm]; exact hd'.c (nd' := [7, 8]) 9 (by simp) rfl) (hf'.range hrl .nil) ?_
              exact hK'
            refine oCs ?_ ?_
            · refine op_r fun a' w' hk' hf' hd' K' hK' => ?_
              refine wCr (R := fun x wz => Fr [] w' wz ∧ Own wz (From w'.heap.size wz) 1 x (valueW fd.of (sub ver flex) false flex te').length (octets (valueW fd.of (sub ver flex) false flex te'))) (vs := #[.int .i64 fd.of, fsv, .bool false, .int .i64 ver, .bool flex, .agg (cl).toArray]) hVa.enters (by simp only [List.map_toArray, List.map_cons, List.map_nil]; rw [show a'.eval (.tmp 36) = Value.int .i64 fd.of from (by rw [eTm]; exact hd'.c (nd' := [1]) 2 (by simp) rfl), show a'.eval (.tmp 38) = fsv from (by rw [eTm]; exact hd'.c (nd' := [3]) 4 (by simp) rfl), show a'.eval (.const (.bool false)) = Value.bool false from rfl, show a'.eval (.tmp 39) = Value.int .i64 ver from (by rw [eTm]; exact hd'.c (nd' := []) 5 (by simp) rfl), show a'.eval (.tmp 40) = Value.bool flex from (by rw [eTm]; exact hd'.c (nd' := []) 6 (by simp) rfl), show a'.eval (.tmp 44) = Value.agg (cl).toArray from (by rw [eTm]; exact hd'.c (nd' := [9]) 10 (by simp) rfl)]) (calls_fresh (hVa.call w' A B fsv ver flex false fd.of cl te' (hsub.kept (hfl.tr hf') (by simp) (fun _ h => h)) (hrt.kept hf' (by simp) (fun _ h => h)) (fun b hb => Nat.lt_of_lt_of_le (hA b hb) (hfl.tr hf').size) (fun b hb => Nat.lt_of_lt_of_le (hB b hb) (hfl.tr hf').size) (by omega))) ?_
              rintro x39 w39 ⟨fr39, ow39⟩
              exact hK' x39 w39 (ow39.from hf'.size) fr39
            exact opsOk_nil
          intro a40 w40 k40 f40 hd_40
          have g40_0 : get a40 0 = .agg ([.int .i64 fd.kind, .int .i64 fd.fr, .int .i64 fd.to, .int .i64 fd.nul, .int .i64 fd.tag, .int .i64 fd.df, .int .i64 fd.of, fsv] : List Value).toArray := by rw [k40.get 0 (by omega), g38_0]
          have g40_1 : get a40 1 = .int .i64 ver := by rw [k40.get 1 (by omega), g38_1]
          have g40_2 : get a40 2 = .bool flex := by rw [k40.get 2 (by omega), g38_2]
          have g40_3 : get a40 3 = .agg ([.int .i64 n, sv, .bool nl, lv, uv] : List Value).toArray := by rw [k40.get 3 (by omega), g38_3]
          have g40_4 : get a40 4 = .pointer (some ⟨w.heap.size, 0, none⟩) := by rw [k40.get 4 (by omega), g38_4]
          have g40_7 : get a40 7 = .pointer (some ⟨w2.heap.size, 0, none⟩) := by rw [k40.get 7 (by omega), g38_7]
          have g40_8 : get a40 8 = .slice none 0 0 := by rw [k40.get 8 (by omega), g38_8]
          have g40_9 : get a40 9 = .bool nu := by rw [k40.get 9 (by omega), g38_9]
          have g40_10 : get a40 10 = .slice (some ⟨bl, ol, none⟩) tl.length c := by rw [k40.get 10 (by omega), g38_10]
          have g40_30 : get a40 30 = .int .i64 ((tl.length : Nat) : Int) := by rw [k40.get 30 (by omega), g38_30]
          have g40_31 : get a40 31 = .int .i64 (j : Int) := by rw [k40.get 31 (by omega), g38_31]
          have hz40 : a40.tmps.size = 76 := k40.size.trans hz38
          have hd40 : a40.defers = [] := k40.defers.trans hd38
          have g40_34 : get a40 34 = v11 := hd_40.c (nd' := []) 0 (by simp) rfl
          have hF41 : Fr [] w w40 := hfl.tr f40
          have hL41_w31 : Fr [] w31 w40 := (Fr.refl [] w31).tr f40
          have rb42 := f40.range hbl4 .nil
          have hv : Own w40 (From w31.heap.size w40) 1 (get a40 45) (valueW fd.of (sub ver flex) false flex te').length (octets (valueW fd.of (sub ver flex) false flex te')) := hd_40.at (d := 11) (by simp) rfl
          rw [wCo]
          have ob43 := ho.upTo hL41_w31 (From.mono hL41_w31.size)
          have hSl43 : w4.heap.size ≤ w40.heap.size := Nat.le_trans hSl hL41_w31.size
          refine wp_appO hs_T22 hz_T22 (eK g40_34) rfl ob43 (hv.octE (by omega)) (by rw [htk, List.length_append] at hpl; rw [List.length_append]; omega) ?_
          rintro v43 w43 fa43 oa43 sp43 bk43
          have ho43 := oa43.imp_A (new_or hSl43 fa43.size)
          have hF43 : Fr [] w w43 := fr_own hF41 fa43 (ob43.from (s0 := w.heap.size) (by omega)) (fun b hb => hb.1)
          have rb44 := fa43.range rb42 (fun r hr => .inl fun e => by have := (ob43.spare_in r hr).1; have := hS0; omega)
          have htN := (htj2.kept hL41_w31 (by simp) (fun _ h => h) : Things _ B _ _).kept fa43 (A' := B) (fun r hr hb => by have := hB _ hb; have := (ob43.spare_in r hr).1; omega) (fun _ h => h)
          have hSN := Nat.le_trans hSl43 fa43.size
          refine wC (wAs (v := v43) (eS hz40) ?_)
          refine wEn fun a45 ha45 => ?_
          have hz45 := kS ha45 hz40
          have hd45 := kD ha45 hd40
          have g45_0 := kP ha45 g40_0
          have g45_1 := kP ha45 g40_1
          have g45_2 := kP ha45 g40_2
          have g45_3 := kP ha45 g40_3
          have g45_4 := kP ha45 g40_4
          have g45_7 := kP ha45 g40_7
          have g45_8 := kP ha45 g40_8
          have g45_9 := kP ha45 g40_9
          have g45_10 := kP ha45 g40_10
          have g45_11 : get a45 11 = v43 := kG ha45 hz40
          have g45_30 := kP ha45 g40_30
          have g45_31 := kP ha45 g40_31
          refine hK36 a45 w43 ?_
          refine wp_reg ?_
          refine wC (wp_add (k1 := .i64) (i := (j : Int)) (j := 1) (eK g45_31) rfl ?_)
          rw [show (IntKind.i64.wrap (((j : Int) : Int) + (1 : Int)) : Int) = (((j + 1 : Nat) : Int) : Int) from by simp only [IntKind.wrap, IntKind.bits, IntKind.signed]; simp; omega]
          refine wC (wMv (v := .int .i64 ((j + 1 : Nat) : Int)) (eS hz45) ?_)
          refine wEn fun a46 ha46 => ?_
          have hz46 := kS ha46 hz45
          have hd46 := kD ha46 hd45
          have g46_0 := kP ha46 g45_0
          have g46_1 := kP ha46 g45_1
          have g46_2 := kP ha46 g45_2
          have g46_3 := kP ha46 g45_3
          have g46_4 := kP ha46 g45_4
          have g46_7 := kP ha46 g45_7
          have g46_8 := kP ha46 g45_8
          have g46_9 := kP ha46 g45_9
          have g46_10 := kP ha46 g45_10
          have g46_11 := kP ha46 g45_11
          have g46_30 := kP ha46 g45_30
          have g46_31 : get a46 31 = .int .i64 ((j + 1 : Nat) : Int) := kG ha46 hz45
          rw [← hq] at g46_10
          refine ⟨m - 1, by omega, j + 1, _, hz46, hd46, g46_0, g46_1, g46_2, g46_3, g46_4, g46_7, g46_8, g46_9, g46_10, g46_11, g46_30, g46_31, by omega, ?_, rb44, htN.kept (Fr.refl [] w43) (by simp) (fun _ h => h), hF43, Nat.le_trans hSN (Fr.refl [] w43).size⟩
          rw [htk, ← List.append_assoc]; exact ho43.upTo (Fr.refl [] w43) (From.mono (Fr.refl [] w43).size)
        · have hj0 : j = tl.length := by simp at hc35; omega
          rw [hj0, List.take_length] at ho
          refine wp_exit ?_
          show K28 a33 w31
          refine hK28 a33 w31 ?_
          refine wS fun K47 hK47 => ?_
          refine wC (wMv (v := v11) (eK g33_11) ?_)
          refine wC (wAs (v := v11) (eS hz33) ?_)
          refine wEn fun a48 ha48 => ?_
          have hz48 := kS ha48 hz33
          have hd48 := kD ha48 hd33
          have g48_8 : get a48 8 = v11 := kG ha48 hz33
          refine hK47 a48 w31 ?_
          refine wp_ret ?_
          rw [hW]
          exact ⟨hd48, _, rIs hres g48_8, _, rfl, hfl, ho.from (by omega)⟩
    refine wS fun K49 hK49 => ?_
    refine wC (wMv (v := .bool nu) (eK g20_9) ?_)
    refine wEn fun a50 ha50 => ?_
    have hz50 := kS ha50 hz20
    have hd50 := kD ha50 hd20
    have g50_0 := kP ha50 g20_0
    have g50_1 := kP ha50 g20_1
    have g50_2 := kP ha50 g20_2
    have g50_3 := kP ha50 g20_3
    have g50_4 := kP ha50 g20_4
    have g50_7 := kP ha50 g20_7
    have g50_8 := kP ha50 g20_8
    have g50_9 := kP ha50 g20_9
    have g50_10 := kP ha50 g20_10
    have g50_23 : get a50 23 = .bool nu := kG ha50 hz20
    refine hK49 a50 w9 ?_
    refine wp_cond_split (t := nu) (eK g50_23) (fun hc51 => ?_) (fun hc51 => ?_)
    · have hnt : nu = true := hc51
      have htl0 : tl = [] := by rw [htl, hnt]; rfl
      refine wp_reg ?_
      refine wC (wAs (v := .slice none 0 0) rfl ?_)
      refine wEn fun a52 ha52 => ?_
      have hz52 := kS ha52 hz50
      have hd52 := kD ha52 hd50
      have g52_0 := kP ha52 g50_0
      have g52_1 := kP ha52 g50_1
      have g52_2 := kP ha52 g50_2
      have g52_3 := kP ha52 g50_3
      have g52_4 := kP ha52 g50_4
      have g52_7 := kP ha52 g50_7
      have g52_8 := kP ha52 g50_8
      have g52_9 := kP ha52 g50_9
      have g52_10 : get a52 10 = .slice none 0 0 := kG ha52 hz50
      have hq10 := g52_10
      rw [show (.slice none 0 0 : Value) = .slice none tl.length 0 from by rw [htl0]; rfl] at hq10
      exact hJ22 a52 w9 ⟨none, 0, hz52, hd52, g52_0, g52_1, g52_2, g52_3, g52_4, g52_7, g52_8, g52_9, hq10, by rw [htl0]; exact .inl ⟨.inl rfl, rfl⟩, rb11, hF10, hL10_w4.size⟩
    · have hnf : nu = false := hc51
      have htl0 : tl = l.take 32767 := by rw [htl, hnf]; rfl
      refine wp_skip ?_
      have hq10 := g50_10
      rw [show (.slice q19 ((l.take 32767).length) c19 : Value) = .slice q19 tl.length c19 from by rw [htl0]] at hq10
      exact hJ22 a50 w9 ⟨q19, c19, hz50, hd50, g50_0, g50_1, g50_2, g50_3, g50_4, g50_7, g50_8, g50_9, hq10, by rw [htl0]; exact hx19.kept (Fr.refl [] w9) (by simp) (fun _ h => h), rb11, hF10, hL10_w4.size⟩
  · have n11 : fd.kind ≠ 11 := by simpa using hc17
    refine wp_skip ?_
    refine hK14 a16 w9 (tUp ?_)
    refine tId (wp_seq_k fun K53 hK53 => ?_)
    refine wp_seq_k fun K54 hK54 => ?_
    by_cases h10 : fd.kind = 10; rotate_left
    · refine wp_regG ?_
      refine gCn ?_
      refine wFa (b := w.heap.size) (i := 0) (hFlT45.fld (by decide)) (eK g16_4) ?_
      rw [show (0 + 0 : Nat) = 0 from rfl]
      refine gCn ?_
      refine wL0 (j := 0) (v := .int .i64 fd.kind) hcT3 (eS hz16) rb11 rfl ?_
      refine gCn ?_
      refine wp_eqlF (k1 := .i64) (i := fd.kind) (j := 10) h10 (eS hz16) rfl ?_
      refine gCn ?_
      refine wMv (v := .bool false) (eS hz16) ?_
      refine wg_noT (dj := 52) rfl (lZ hz16) (gS hz16) ?_
      refine wg_noT (dj := 52) rfl (lZ hz16) (gS hz16) ?_
      refine wg_noT (dj := 52) rfl (lZ hz16) (gS hz16) ?_
      refine gCn ?_
      refine wp_pickNo (v := .bool false) (eS hz16) rfl ?_
      refine wg_end fun a55 ha55 => ?_
      have hz55 := kS ha55 hz16
      have hd55 := kD ha55 hd16
      have g55_1 := kP ha55 g16_1
      have g55_2 := kP ha55 g16_2
      have g55_4 := kP ha55 g16_4
      have g55_7 := kP ha55 g16_7
      have g55_9 := kP ha55 g16_9
      have g55_56 : get a55 56 = .bool false := kG ha55 hz16
      refine hK54 a55 w9 ?_
      refine wp_cond_split (t := false) (eK g55_56) (fun h => by cases h) (fun _ => ?_)
      refine wp_skip ?_
      refine hK53 a55 w9 (tUp ?_)
      refine tId (wp_seq_k fun K57 hK57 => ?_)
      have hW : fieldV fd.kind fd.nul fd.of (sub ver flex) ver flex (.mk n s nl l u) = valueW fd.kind (sub ver flex) nu flex (.mk n s nl l u) := by rw [fieldV, if_neg n11, if_neg (fun h => h10 h.1), ← hnu]
      rw [hW] at hlen
      refine wp_reg ?_
      refine wC (wFa (b := w.heap.size) (i := 0) (hFlT45.fld (by decide)) (eK g55_4) ?_)
      rw [show (0 + 0 : Nat) = 0 from rfl]
      refine wC (wL0 (j := 0) (v := .int .i64 fd.kind) hcT3 (eS hz55) rb11 rfl ?_)
      refine wC (wFa (b := w.heap.size) (i := 0) (hFlT45.fld (by decide)) (eK g55_4) ?_)
      rw [show (0 + 7 : Nat) = 7 from rfl]
      refine wC (wL0 (j := 7) (v := fsv) hcT29 (eS hz55) rb11 rfl ?_)
      refine wC (wMv (v := .bool nu) (eK g55_9) ?_)
      refine wC (wMv (v := .int .i64 ver) (eK g55_1) ?_)
      refine wC (wMv (v := .bool flex) (eK g55_2) ?_)
      refine wC (wp_loadFlat (cs := [.int .i64 n, sv, .bool nl, lv, uv]) (b := w2.heap.size) (o := 0) hFlT26 rfl (eK g55_7) rb12 ?_)
      refine wC (wCr (R := fun x wz => Fr [] w9 wz ∧ Own wz (From w9.heap.size wz) 1 x (valueW fd.kind (sub ver flex) nu flex (.mk n s nl l u)).length (octets (valueW fd.kind (sub ver flex) nu flex (.mk n s nl l u)))) (vs := #[.int .i64 fd.kind, fsv, .bool nu, .int .i64 ver, .bool flex, .agg ([.int .i64 n, sv, .bool nl, lv, uv] : List Value).toArray]) hVa.enters (by simp only [List.map_toArray, List.map_cons, List.map_nil]; rw [eTm, nZ (by decide), nZ (by decide), nZ (by decide), nZ (by decide), nZ (by decide), nZ (by decide), sZ (zZ hz55) (by decide), eTm, nZ (by decide), nZ (by decide), nZ (by decide), nZ (by decide), sZ (zZ (zZ (zZ hz55))) (by decide), eTm, nZ (by decide), nZ (by decide), nZ (by decide), sZ (zZ (zZ (zZ (zZ hz55)))) (by decide), eTm, nZ (by decide), nZ (by decide), sZ (zZ (zZ (zZ (zZ (zZ hz55))))) (by decide), eTm, nZ (by decide), sZ (zZ (zZ (zZ (zZ (zZ (zZ hz55)))))) (by decide), eTm, sZ (zZ (zZ (zZ (zZ (zZ (zZ (zZ hz55))))))) (by decide)]) (calls_fresh (hVa.call w9 A B fsv ver flex nu fd.kind _ (.mk n s nl l u) (hsub.kept hF10 (by simp) (fun _ h => h)) (ht0.kept hF10 (by simp) (fun _ h => h)) (fun b hb => Nat.lt_of_lt_of_le (hA b hb) hF10.size) (fun b hb => Nat.lt_of_lt_of_le (hB b hb) hF10.size) hlen)) ?_)
      rintro x58 w58 ⟨fr58, ow58⟩
      have hF59 : Fr [] w w58 := hF10.tr fr58
      have rb60 := fr58.range rb11 .nil
      have rb61 := fr58.range rb12 .nil
      refine wC (wAs (v := x58) (eS hz55) ?_)
      refine wEn fun a62 ha62 => ?_
      have hz62 := kS ha62 hz55
      have hd62 := kD ha62 hd55
      have g62_8 : get a62 8 = x58 := kG ha62 hz55
      refine hK57 a62 w58 (tUp ?_)
      refine wp_ret ?_
      rw [hW]
      exact ⟨hd62, _, rIs hres g62_8, _, rfl, hF59, ow58.from (by have := hF10.size; omega)⟩
    · by_cases hnn : fd.nul ≥ 0
      · refine wp_regG ?_
        refine gCn ?_
        refine wFa (b := w.heap.size) (i := 0) (hFlT45.fld (by decide)) (eK g16_4) ?_
        rw [show (0 + 0 : Nat) = 0 from rfl]
        refine gCn ?_
        refine wL0 (j := 0) (v := .int .i64 fd.kind) hcT3 (eS hz16) rb11 rfl ?_
        refine gCn ?_
        refine wp_eqlT (k1 := .i64) (i := fd.kind) (j := 10) h10 (eS hz16) rfl ?_
        refine gCn ?_
        refine wMv (v := .bool true) (eS hz16) ?_
        refine wg_yes (dj := 52) rfl (lZ hz16) (gS hz16) ?_
        refine wFa (b := w.heap.size) (i := 0) (hFlT45.fld (by decide)) (eK g16_4) ?_
        rw [show (0 + 3 : Nat) = 3 from rfl]
        refine wg_yes (dj := 52) rfl (lZ hz16) (gS hz16) ?_
        refine wL0 (j := 3) (v := .int .i64 fd.nul) hcT3 (eS hz16) rb11 rfl ?_
        refine wg_yes (dj := 52) rfl (lZ hz16) (gS hz16) ?_
        refine wp_geqT (k1 := .i64) (i := fd.nul) (j := 0) hnn (eS hz16) rfl ?_
        refine gCn ?_
        refine wp_pickYes (v := .bool true) (eS hz16) (eS hz16) ?_
        refine wg_end fun a63 ha63 => ?_
        have hz63 := kS ha63 hz16
        have hd63 := kD ha63 hd16
        have g63_1 := kP ha63 g16_1
        have g63_2 := kP ha63 g16_2
        have g63_4 := kP ha63 g16_4
        have g63_7 := kP ha63 g16_7
        have g63_9 := kP ha63 g16_9
        have g63_56 : get a63 56 = .bool true := kG ha63 hz16
        refine hK54 a63 w9 ?_
        refine wp_cond_split (t := true) (eK g63_56) (fun _ => ?_) (fun h => by cases h)
        refine wp_seq_k fun K65 hK65 => ?_
        refine wS fun K66 hK66 => ?_
        refine wC (wMv (v := .bool nu) (eK g63_9) ?_)
        refine wEn fun a67 ha67 => ?_
        have hz67 := kS ha67 hz63
        have hd67 := kD ha67 hd63
        have g67_1 := kP ha67 g63_1
        have g67_2 := kP ha67 g63_2
        have g67_4 := kP ha67 g63_4
        have g67_7 := kP ha67 g63_7
        have g67_57 : get a67 57 = .bool nu := kG ha67 hz63
        refine hK66 a67 w9 ?_
        refine wp_cond_split (t := nu) (eK g67_57) (fun hc68 => ?_) (fun hc68 => ?_)
        · have hnt : nu = true := hc68
          refine wp_seq_k fun K69 hK69 => ?_
          have hW : fieldV fd.kind fd.nul fd.of (sub ver flex) ver flex (.mk n s nl l u) = fxW (-1) 1 := by rw [fieldV, if_neg n11, if_pos ⟨h10, hnn⟩, ← hnu, hnt]; rfl
          refine wp_reg ?_
          refine wC (wCr (R := fun x wz => Fr [] w9 wz ∧ Own wz (From w9.heap.size wz) 1 x (fxW (-1) 1).length (octets (fxW (-1) 1))) (vs := #[.int .i64 (-1), .int .i64 1]) hFx.enters (by simp [eCo]) (calls_fresh (hFx.call w9 (-1) 1 (by decide))) ?_)
          rintro x70 w70 ⟨fr70, ow70⟩
          have hF71 : Fr [] w w70 := hF10.tr fr70
          have rb72 := fr70.range rb11 .nil
          have rb73 := fr70.range rb12 .nil
          refine wC (wAs (v := x70) (eS hz67) ?_)
          refine wEn fun a74 ha74 => ?_
          have hz74 := kS ha74 hz67
          have hd74 := kD ha74 hd67
          have g74_8 : get a74 8 = x70 := kG ha74 hz67
          refine hK69 a74 w70 ?_
          refine wp_ret ?_
          rw [hW]
          exact ⟨hd74, _, rIs hres g74_8, _, rfl, hF71, ow70.from (by have := hF10.size; omega)⟩
        · have hnf : nu = false := hc68
          refine wp_skip ?_
          refine hK65 a67 w9 ?_
          refine wp_seq_k fun K75 hK75 => ?_
          have hW : fieldV fd.kind fd.nul fd.of (sub ver flex) ver flex (.mk n s nl l u) = fxW 1 1 ++ sub ver flex (.mk n s nl l u) := by rw [fieldV, if_neg n11, if_pos ⟨h10, hnn⟩, ← hnu, hnf]; rfl
          rw [hW, List.length_append] at hlen
          have hle0 := hF10.size
          refine wp_drawR (os := [⟨some 59, .call ⟨.value (.func f76), #[(.const (.int .i64 1)), (.const (.int .i64 1))], a5⟩, t58, p58, e58, none⟩, ⟨some 60, .fieldAddr T45 (.tmp 4) 7, t59, p59, e59, none⟩, ⟨some 61, .load T29 (.tmp 60), t60, p60, e60, none⟩, ⟨some 62, .move (.tmp 1), t61, p61, e61, none⟩, ⟨some 63, .move (.tmp 2), t62, p62, e62, none⟩, ⟨some 64, .load T26 (.tmp 7), t63, p63, e63, none⟩, ⟨some 65, .call ⟨.value (.func f26), #[(.tmp 61), (.tmp 62), (.tmp 63), (.tmp 64)], a6⟩, t64, p64, e64, none⟩]) (rest := [⟨some 66, .call ⟨.builtin .append, #[(.tmp 59), (.tmp 65)], #[T22, T22]⟩, t65, p65, e65, none⟩, ⟨some 8, .assign (.tmp 66), t66, p66, e66, none⟩]) [spR [] (fun x w' => Own w' (From w9.heap.size w') 1 x (fxW 1 1).length (octets (fxW 1 1))), spC [] (.pointer (some ⟨w.heap.size, 7, none⟩)), spC [1] (fsv), spC [] (.int .i64 ver), spC [] (.bool flex), spC [] (.agg ([.int .i64 n, sv, .bool nl, lv, uv] : List Value).toArray), spR [2, 3, 4, 5] (fun x w' => Own w' (From w9.heap.size w') 1 x (sub ver flex (.mk n s nl l u)).length (octets (sub ver flex (.mk n s nl l u))))] 59 [] hmx he16 (by simp [shape]) (by simp [plainO]) (by simp [spC, spR]) (by simp; omega) ⟨(fun v w1 w2 f h => h.upTo f (From.mono f.size)), lCc _ _ _, lCc _ _ _, lCc _ _ _, lCc _ _ _, lCc _ _ _, (fun v w1 w2 f h => h.upTo f (From.mono f.size)), trivial⟩ ?_ ?_
          · refine oCs ?_ ?_
            · refine op_r fun a' w' hk' hf' hd' K' hK' => ?_
              refine wCr (R := fun x wz => Fr [] w' wz ∧ Own wz (From w'.heap.size wz) 1 x (fxW 1 1).length (octets (fxW 1 1))) (vs := #[.int .i64 1, .int .i64 1]) hFx.enters (by simp [eCo]) (calls_fresh (hFx.call w' 1 1 (by decide))) ?_
              rintro x76 w76 ⟨fr76, ow76⟩
              exact hK' x76 w76 (ow76.from hf'.size) fr76
            refine oCs ?_ ?_
            · refine op_c fun a' w' hk' hf' hd' K' hK' => ?_
              refine wFa (b := w.heap.size) (i := 0) (hFlT45.fld (by decide)) (by rw [eTm, hk'.get 4 (by omega), g67_4]) ?_
              rw [show (0 + 7 : Nat) = 7 from rfl]
              exact hK'
            refine oCs ?_ ?_
            · refine op_c fun a' w' hk' hf' hd' K' hK' => ?_
              refine wL0 (j := 7) (v := fsv) hcT29 (by rw [eTm]; exact hd'.c (nd' := []) 1 (by simp) rfl) (hf'.range rb11 .nil) rfl ?_
              exact hK'
            refine oCs ?_ ?_
            · refine op_c fun a' w' hk' hf' hd' K' hK' => ?_
              refine wMv (v := .int .i64 ver) (by rw [eTm, hk'.get 1 (by omega), g67_1]) ?_
              exact hK'
            refine oCs ?_ ?_
            · refine op_c fun a' w' hk' hf' hd' K' hK' => ?_
              refine wMv (v := .bool flex) (by rw [eTm, hk'.get 2 (by omega), g67_2]) ?_
              exact hK'
            refine oCs ?_ ?_
            · refine op_c fun a' w' hk' hf' hd' K' hK' => ?_
              refine wp_loadFlat (cs := [.int .i64 n, sv, .bool nl, lv, uv]) (b := w2.heap.size) (o := 0) hFlT26 rfl (by rw [eTm, hk'.get 7 (by omega), g67_7]) (hf'.range rb12 .nil) ?_
              exact hK'
            refine oCs ?_ ?_
            · refine op_r fun a' w' hk' hf' hd' K' hK' => ?_
              refine wCr (R := fun x wz => Fr [] w' wz ∧ Own wz (From w'.heap.size wz) 1 x (sub ver flex (.mk n s nl l u)).length (octets (sub ver flex (.mk n s nl l u)))) (vs := #[fsv, .int .i64 ver, .bool flex, .agg ([.int .i64 n, sv, .bool nl, lv, uv] : List Value).toArray]) hPa.enters (by simp only [List.map_toArray, List.map_cons, List.map_nil]; rw [show a'.eval (.tmp 61) = fsv from (by rw [eTm]; exact hd'.c (nd' := [1]) 2 (by simp) rfl), show a'.eval (.tmp 62) = Value.int .i64 ver from (by rw [eTm]; exact hd'.c (nd' := []) 3 (by simp) rfl), show a'.eval (.tmp 63) = Value.bool flex from (by rw [eTm]; exact hd'.c (nd' := []) 4 (by simp) rfl), show a'.eval (.tmp 64) = Value.agg ([.int .i64 n, sv, .bool nl, lv, uv] : List Value).toArray from (by rw [eTm]; exact hd'.c (nd' := []) 5 (by simp) rfl)]) (calls_fresh (hPa.call w' A B fsv ver flex _ (.mk n s nl l u) (hsub.kept (hF10.tr hf') (by simp) (fun _ h => h)) (ht0.kept (hF10.tr hf') (by simp) (fun _ h => h)) (fun b hb => Nat.lt_of_lt_of_le (hA b hb) (hF10.tr hf').size) (fun b hb => Nat.lt_of_lt_of_le (hB b hb) (hF10.tr hf').size) (by omega))) ?_
              rintro x77 w77 ⟨fr77, ow77⟩
              exact hK' x77 w77 (ow77.from hf'.size) fr77
            exact opsOk_nil
          intro a78 w78 k78 f78 hd_78
          have hz78 : a78.tmps.size = 76 := k78.size.trans hz67
          have hd78 : a78.defers = [] := k78.defers.trans hd67
          have hF79 : Fr [] w w78 := hF10.tr f78
          have hL79_w9 : Fr [] w9 w78 := (Fr.refl [] w9).tr f78
          have rb80 := f78.range rb11 .nil
          have rb81 := f78.range rb12 .nil
          have hv0 : Own w78 (From w9.heap.size w78) 1 (get a78 59) (fxW 1 1).length (octets (fxW 1 1)) := hd_78.at (d := 0) (by simp) rfl
          have hv6 : Own w78 (From w9.heap.size w78) 1 (get a78 65) (sub ver flex (.mk n s nl l u)).length (octets (sub ver flex (.mk n s nl l u))) := hd_78.at (d := 6) (by simp) rfl
          rw [wCo]
          have ob82 := hv0
          have hSl82 : w9.heap.size ≤ w78.heap.size := hL79_w9.size
          refine wp_appO hs_T22 hz_T22 rfl rfl ob82 (hv6.octE (by omega)) (by omega) ?_
          rintro v82 w82 fa82 oa82 sp82 bk82
          have ho82 := oa82.imp_A (new_or hSl82 fa82.size)
          have hF82 : Fr [] w w82 := fr_own hF79 fa82 (ob82.from (s0 := w.heap.size) (by omega)) (fun b hb => hb.1)
          refine wC (wAs (v := v82) (eS hz78) ?_)
          refine wEn fun a83 ha83 => ?_
          have hz83 := kS ha83 hz78
          have hd83 := kD ha83 hd78
          have g83_8 : get a83 8 = v82 := kG ha83 hz78
          refine hK75 a83 w82 ?_
          refine wp_ret ?_
          rw [hW]
          exact ⟨hd83, _, rIs hres g83_8, _, rfl, hF82, ho82.from (by omega)⟩
      · refine wp_regG ?_
        refine gCn ?_
        refine wFa (b := w.heap.size) (i := 0) (hFlT45.fld (by decide)) (eK g16_4) ?_
        rw [show (0 + 0 : Nat) = 0 from rfl]
        refine gCn ?_
        refine wL0 (j := 0) (v := .int .i64 fd.kind) hcT3 (eS hz16) rb11 rfl ?_
        refine gCn ?_
        refine wp_eqlT (k1 := .i64) (i := fd.kind) (j := 10) h10 (eS hz16) rfl ?_
        refine gCn ?_
        refine wMv (v := .bool true) (eS hz16) ?_
        refine wg_yes (dj := 52) rfl (lZ hz16) (gS hz16) ?_
        refine wFa (b := w.heap.size) (i := 0) (hFlT45.fld (by decide)) (eK g16_4) ?_
        rw [show (0 + 3 : Nat) = 3 from rfl]
        refine wg_yes (dj := 52) rfl (lZ hz16) (gS hz16) ?_
        refine wL0 (j := 3) (v := .int .i64 fd.nul) hcT3 (eS hz16) rb11 rfl ?_
        refine wg_yes (dj := 52) rfl (lZ hz16) (gS hz16) ?_
        refine wp_geqF (k1 := .i64) (i := fd.nul) (j := 0) hnn (eS hz16) rfl ?_
        refine gCn ?_
        refine wp_pickYes (v := .bool false) (eS hz16) (eS hz16) ?_
        refine wg_end fun a84 ha84 => ?_
        have hz84 := kS ha84 hz16
        have hd84 := kD ha84 hd16
        have g84_1 := kP ha84 g16_1
        have g84_2 := kP ha84 g16_2
        have g84_4 := kP ha84 g16_4
        have g84_7 := kP ha84 g16_7
        have g84_9 := kP ha84 g16_9
        have g84_56 : get a84 56 = .bool false := kG ha84 hz16
        refine hK54 a84 w9 ?_
        refine wp_cond_split (t := false) (eK g84_56) (fun h => by cases h) (fun _ => ?_)
        refine wp_skip ?_
        refine hK53 a84 w9 (tUp ?_)
        refine tId (wp_seq_k fun K86 hK86 => ?_)
        have hW : fieldV fd.kind fd.nul fd.of (sub ver flex) ver flex (.mk n s nl l u) = valueW fd.kind (sub ver flex) nu flex (.mk n s nl l u) := by rw [fieldV, if_neg n11, if_neg (fun h => hnn h.2), ← hnu]
        rw [hW] at hlen
        refine wp_reg ?_
        refine wC (wFa (b := w.heap.size) (i := 0) (hFlT45.fld (by decide)) (eK g84_4) ?_)
        rw [show (0 + 0 : Nat) = 0 from rfl]
        refine wC (wL0 (j := 0) (v := .int .i64 fd.kind) hcT3 (eS hz84) rb11 rfl ?_)
        refine wC (wFa (b := w.heap.size) (i := 0) (hFlT45.fld (by decide)) (eK g84_4) ?_)
        rw [show (0 + 7 : Nat) = 7 from rfl]
        refine wC (wL0 (j := 7) (v := fsv) hcT29 (eS hz84) rb11 rfl ?_)
        refine wC (wMv (v := .bool nu) (eK g84_9) ?_)
        refine wC (wMv (v := .int .i64 ver) (eK g84_1) ?_)
        refine wC (wMv (v := .bool flex) (eK g84_2) ?_)
        refine wC (wp_loadFlat (cs := [.int .i64 n, sv, .bool nl, lv, uv]) (b := w2.heap.size) (o := 0) hFlT26 rfl (eK g84_7) rb12 ?_)
        refine wC (wCr (R := fun x wz => Fr [] w9 wz ∧ Own wz (From w9.heap.size wz) 1 x (valueW fd.kind (sub ver flex) nu flex (.mk n s nl l u)).length (octets (valueW fd.kind (sub ver flex) nu flex (.mk n s nl l u)))) (vs := #[.int .i64 fd.kind, fsv, .bool nu, .int .i64 ver, .bool flex, .agg ([.int .i64 n, sv, .bool nl, lv, uv] : List Value).toArray]) hVa.enters (by simp only [List.map_toArray, List.map_cons, List.map_nil]; rw [eTm, nZ (by decide), nZ (by decide), nZ (by decide), nZ (by decide), nZ (by decide), nZ (by decide), sZ (zZ hz84) (by decide), eTm, nZ (by decide), nZ (by decide), nZ (by decide), nZ (by decide), sZ (zZ (zZ (zZ hz84))) (by decide), eTm, nZ (by decide), nZ (by decide), nZ (by decide), sZ (zZ (zZ (zZ (zZ hz84)))) (by decide), eTm, nZ (by decide), nZ (by decide), sZ (zZ (zZ (zZ (zZ (zZ hz84))))) (by decide), eTm, nZ (by decide), sZ (zZ (zZ (zZ (zZ (zZ (zZ hz84)))))) (by decide), eTm, sZ (zZ (zZ (zZ (zZ (zZ (zZ (zZ hz84))))))) (by decide)]) (calls_fresh (hVa.call w9 A B fsv ver flex nu fd.kind _ (.mk n s nl l u) (hsub.kept hF10 (by simp) (fun _ h => h)) (ht0.kept hF10 (by simp) (fun _ h => h)) (fun b hb => Nat.lt_of_lt_of_le (hA b hb) hF10.size) (fun b hb => Nat.lt_of_lt_of_le (hB b hb) hF10.size) hlen)) ?_)
        rintro x87 w87 ⟨fr87, ow87⟩
        have hF88 : Fr [] w w87 := hF10.tr fr87
        have rb89 := fr87.range rb11 .nil
        have rb90 := fr87.range rb12 .nil
        refine wC (wAs (v := x87) (eS hz84) ?_)
        refine wEn fun a91 ha91 => ?_
        have hz91 := kS ha91 hz84
        have hd91 := kD ha91 hd84
        have g91_8 : get a91 8 = x87 := kG ha91 hz84
        refine hK86 a91 w87 (tUp ?_)
        refine wp_ret ?_
        rw [hW]
        exact ⟨hd91, _, rIs hres g91_8, _, rfl, hF88, ow87.from (by have := hF10.size; omega)⟩
end Go.Kq

namespace Go.Kq
open Go Go.Proofs
theorem wrap_u64n {n : Nat} (h : n < 18446744073709551616) : IntKind.u64.wrap (n : Int) = n := by
  simp only [IntKind.wrap, IntKind.bits, IntKind.signed]; simp; omega
theorem knownW_free : ∀ {fs : List Fd}, (∀ f ∈ fs, f.tag < 0) → knownW fs = 0
  | [], _ => rfl
  | f :: fs, h => by
    have := h f (by simp)
    rw [knownW, if_neg (by omega)]; exact knownW_free fun g hg => h g (by simp [hg])
theorem partW_free {fs : List Fd} (h : knownW fs = 0) (ver : Int) (flex : Bool) (t : T) : partW fs ver flex t = if flex then bodyW fs ver (fieldsW fs ver flex t.l 0) fs.length ++ (uvW (unksW fs t).length ++ (unksW fs t).flatMap pairW) else bodyW fs ver (fieldsW fs ver flex t.l 0) fs.length := by
  have hk : knownsW fs t (fieldsW fs ver flex t.l 0) = [] := by simp [knownsW, h]
  unfold partW joinW
  rw [hk]; simp
theorem bodyW_succ {fs : List Fd} {ver : Int} {encs : List (List UInt8)} {j : Nat} {fd : Fd} (h : fs[j]? = some fd) (ht : fd.tag < 0) : bodyW fs ver encs (j + 1) = bodyW fs ver encs j ++ if fd.has ver then encs.getD j [] else [] := by
  unfold bodyW
  rw [List.range_succ, List.flatMap_append]
  simp [h, ht]
theorem bodyW_le {fs : List Fd} {ver : Int} {encs : List (List UInt8)} : ∀ {m n : Nat}, n ≤ m → (bodyW fs ver encs n).length ≤ (bodyW fs ver encs m).length
  | 0, n, h => by have : n = 0 := by omega
                  subst this; exact Nat.le_refl _
  | m + 1, n, h => by
    by_cases hn : n = m + 1
    · subst hn; exact Nat.le_refl _
    · refine Nat.le_trans (bodyW_le (m := m) (by omega)) ?_
      unfold bodyW
      rw [List.range_succ, List.flatMap_append, List.length_append]; omega
theorem take_pair {fs : List Fd} {t : T} {j : Nat} {p : Nat × List UInt8} (h : (unksW fs t)[j]? = some p) : ((unksW fs t).take (j + 1)).flatMap pairW = ((unksW fs t).take j).flatMap pairW ++ pairW p := by
  rw [List.take_add_one, h, List.flatMap_append]; simp
theorem take_pair_le {fs : List Fd} {t : T} (j : Nat) : (((unksW fs t).take j).flatMap pairW).length ≤ ((unksW fs t).flatMap pairW).length := by
  conv => rhs; rw [← List.take_append_drop j (unksW fs t), List.flatMap_append, List.length_append]
  omega
set_option maxHeartbeats 8000000 in
theorem part_m {P : Program} {f : FuncId} {fn : Func} {T3 T4 T22 T24 T26 T29 T45 T58 T60 T73 : TypeId} {f47 f48 f49 f50 f51 f52 f53 f54 : FuncId} {a0 : Array TypeId} {a1 : Array TypeId} {a2 : Array TypeId} {a3 : Array TypeId} {a4 : Array TypeId} {a5 : Array TypeId} {a6 : Array TypeId} {a7 : Array TypeId} {a8 : Array TypeId} {a9 : Array TypeId} {a10 : Array TypeId} {a11 : Array TypeId} {a12 : Array TypeId} {a13 : Array TypeId} {a14 : Array TypeId} {i0 i1 i2 i3 i4 i5 i6 i7 i8 i9 i10 i11 i12 i13 i14 i15 i16 i17 i18 i19 i20 i21 i22 i23 i24 i25 i26 i27 i28 i29 i30 : Nat} {t0 t1 t2 t3 t4 t5 t6 t7 t8 t9 t10 t11 t12 t13 t14 t15 t16 t17 t18 t19 t20 t21 t22 t23 t24 t25 t26 t27 t28 t29 t30 t31 t32 t33 t34 t35 t36 t37 t38 t39 t40 t41 t42 t43 t44 t45 t46 t47 t48 t49 t50 t51 t52 t53 t54 t55 t56 t57 t58 t59 t60 t61 t62 t63 t64 t65 t66 t67 t68 t69 t70 t71 t72 t73 t74 t75 t76 t77 t78 t79 t80 t81 t82 t83 t84 t85 t86 t87 t88 t89 t90 t91 t92 t93 t94 t95 t96 t97 t98 t99 t100 t101 t102 t103 t104 t105 t106 t107 t108 t109 t110 t111 t112 t113 t114 t115 t116 t117 t118 t119 t120 t121 t122 t123 t124 t125 t126 t127 t128 t129 t130 t131 t132 t133 t134 t135 t136 t137 : TypeId} {p0 p1 p2 p3 p4 p5 p6 p7 p8 p9 p10 p11 p12 p13 p14 p15 p16 p17 p18 p19 p20 p21 p22 p23 p24 p25 p26 p27 p28 p29 p30 p31 p32 p33 p34 p35 p36 p37 p38 p39 p40 p41 p42 p43 p44 p45 p46 p47 p48 p49 p50 p51 p52 p53 p54 p55 p56 p57 p58 p59 p60 p61 p62 p63 p64 p65 p66 p67 p68 p69 p70 p71 p72 p73 p74 p75 p76 p77 p78 p79 p80 p81 p82 p83 p84 p85 p86 p87 p88 p89 p90 p91 p92 p93 p94 p95 p96 p97 p98 p99 p100 p101 p102 p103 p104 p105 p106 p107 p108 p109 p110 p111 p112 p113 p114 p115 p116 p117 p118 p119 p120 p121 p122 p123 p124 p125 p126 p127 p128 p129 p130 p131 p132 p133 p134 p135 p136 p137 : String} {e0 e1 e2 e3 e4 e5 e6 e7 e8 e9 e10 e11 e12 e13 e14 e15 e16 e17 e18 e19 e20 e21 e22 e23 e24 e25 e26 e27 e28 e29 e30 e31 e32 e33 e34 e35 e36 e37 e38 e39 e40 e41 e42 e43 e44 e45 e46 e47 e48 e49 e50 e51 e52 e53 e54 e55 e56 e57 e58 e59 e60 e61 e62 e63 e64 e65 e66 e67 e68 e69 e70 e71 e72 e73 e74 e75 e76 e77 e78 e79 e80 e81 e82 e83 e84 e85 e86 e87 e88 e89 e90 e91 e92 e93 e94 e95 e96 e97 e98 e99 e100 e101 e102 e103 e104 e105 e106 e107 e108 e109 e110 e111 e112 e113 e114 e115 e116 e117 e118 e119 e120 e121 e122 e123 e124 e125 e126 e127 e128 e129 e130 e131 e132 e133 e134 e135 e136 e137 : Array Edge} {te te8 teT : TypeId} {tb : Nat} {fs : List Fd}
    (hf : P.funcs[f]? = some fn) (hname : (fn.name == "runtime.NumGoroutine") = false) (hres : fn.results = #[.tmp 8]) (hN : fn.ntmps = 132)
    (hbody : fn.body = some (.seq (Code.region i0 ⟨[⟨some 7, .box T26 (.tmp 3), t0, p0, e0, none⟩,
    ⟨some 8, .assign (.const (.slice none 0 0)), t1, p1, e1, none⟩]⟩ false)
  (.seq (Code.region i1 ⟨[⟨some 9, .assign (.const (.slice none 0 0)), t2, p2, e2, none⟩,
    ⟨some 10, .assign (.const (.slice none 0 0)), t3, p3, e3, none⟩]⟩ false)
  (.seq (Code.region i2 ⟨[⟨some 11, .assign (.const (.int .i64 0)), t4, p4, e4, none⟩]⟩ false)
  (.seq (.seq (Code.region i3 ⟨[⟨some 21, .move (.tmp 0), t5, p5, e5, none⟩,
    ⟨some 22, .call ⟨.builtin .len, #[(.tmp 21)], #[T29]⟩, t6, p6, e6, none⟩,
    ⟨some 23, .move (.const (.int .i64 0)), t7, p7, e7, none⟩]⟩ false)
  (.block 0 (.loop (.seq (Code.region i4 ⟨[⟨some 24, .binOp .lss T3 (.tmp 23) (.tmp 22) T3, t8, p8, e8, none⟩]⟩ false)
  (.seq (.cond (.tmp 24) .skip
  (.exit 0))
  (.seq (.block 1 (.seq (Code.region i5 ⟨[⟨some 25, .move (.tmp 23), t9, p9, e9, none⟩,
    ⟨some 26, .indexAddr T29 (.tmp 21) (.tmp 23), t10, p10, e10, none⟩,
    ⟨some 27, .load T45 (.tmp 26), t11, p11, e11, none⟩,
    ⟨some 13, .alloc T45, t12, p12, e12, none⟩,
    ⟨some 12, .assign (.tmp 25), t13, p13, e13, none⟩,
    ⟨none, .store T45 (.tmp 13) (.tmp 27), t14, p14, e14, none⟩]⟩ false)
  (.seq (Code.region i6 ⟨[⟨some 28, .fieldAddr T45 (.tmp 13) 4, t15, p15, e15, none⟩,
    ⟨some 29, .load T3 (.tmp 28), t16, p16, e16, none⟩,
    ⟨some 30, .binOp .lss T3 (.tmp 29) (.const (.int .i64 0)) T3, t17, p17, e17, none⟩,
    ⟨some 31, .move (.tmp 30), t18, p18, e18, none⟩,
    ⟨some 32, .load T45 (.tmp 13), t19, p19, e19, some (3, true)⟩,
    ⟨some 33, .move (.tmp 1), t20, p20, e20, some (3, true)⟩,
    ⟨some 34, .call ⟨.value (.func f47), #[(.tmp 32), (.tmp 33)], a0⟩, t21, p21, e21, some (3, true)⟩,
    ⟨some 35, .pick (.tmp 31) (.tmp 34) (.const (.bool false)), t22, p22, e22, none⟩]⟩ false)
  (.cond (.tmp 35) (Code.region i7 ⟨[⟨some 36, .move (.tmp 9), t23, p23, e23, none⟩,
    ⟨some 37, .load T45 (.tmp 13), t24, p24, e24, none⟩,
    ⟨some 38, .move (.tmp 1), t25, p25, e25, none⟩,
    ⟨some 39, .move (.tmp 2), t26, p26, e26, none⟩,
    ⟨some 40, .load T26 (.tmp 7), t27, p27, e27, none⟩,
    ⟨some 41, .move (.tmp 12), t28, p28, e28, none⟩,
    ⟨some 42, .call ⟨.value (.func f49), #[(.tmp 40), (.tmp 41)], a1⟩, t29, p29, e29, none⟩,
    ⟨some 43, .call ⟨.value (.func f48), #[(.tmp 37), (.tmp 38), (.tmp 39), (.tmp 42)], a2⟩, t30, p30, e30, none⟩,
    ⟨some 44, .call ⟨.builtin .append, #[(.tmp 36), (.tmp 43)], #[T22, T22]⟩, t31, p31, e31, none⟩,
    ⟨some 9, .assign (.tmp 44), t32, p32, e32, none⟩]⟩ true)
  .skip))))
  (Code.region i8 ⟨[⟨some 45, .binOp .add T3 (.tmp 23) (.const (.int .i64 1)) T3, t33, p33, e33, none⟩,
    ⟨some 23, .move (.tmp 45), t34, p34, e34, none⟩]⟩ false)))))))
  (.seq (.seq (Code.region i9 ⟨[⟨some 46, .move (.tmp 2), t35, p35, e35, none⟩,
    ⟨some 47, .unOp .not T4 (.tmp 46), t36, p36, e36, none⟩]⟩ false)
  (.cond (.tmp 47) (.seq (Code.region i10 ⟨[⟨some 48, .move (.tmp 9), t37, p37, e37, none⟩,
    ⟨some 8, .assign (.tmp 48), t38, p38, e38, none⟩]⟩ false)
  .ret)
  .skip))
  (.seq (.seq (Code.region i11 ⟨[⟨some 49, .move (.tmp 0), t39, p39, e39, none⟩,
    ⟨some 50, .call ⟨.value (.func f50), #[(.tmp 49)], a3⟩, t40, p40, e40, none⟩,
    ⟨some 51, .convert T58 T3 (.tmp 50), t41, p41, e41, none⟩,
    ⟨some 52, .move (.const (.int .i64 0)), t42, p42, e42, none⟩]⟩ false)
  (.block 2 (.loop (.seq (Code.region i12 ⟨[⟨some 53, .binOp .lss T3 (.tmp 52) (.tmp 51) T3, t43, p43, e43, none⟩]⟩ false)
  (.seq (.cond (.tmp 53) .skip
  (.exit 2))
  (.seq (.block 3 (.seq (Code.region i13 ⟨[⟨some 54, .move (.tmp 52), t44, p44, e44, none⟩,
    ⟨some 14, .assign (.tmp 54), t45, p45, e45, none⟩]⟩ false)
  (.seq (Code.region i14 ⟨[⟨some 55, .move (.tmp 0), t46, p46, e46, none⟩,
    ⟨some 56, .call ⟨.builtin .len, #[(.tmp 55)], #[T29]⟩, t47, p47, e47, none⟩,
    ⟨some 57, .move (.const (.int .i64 0)), t48, p48, e48, none⟩]⟩ false)
  (.block 4 (.loop (.seq (Code.region i15 ⟨[⟨some 58, .binOp .lss T3 (.tmp 57) (.tmp 56) T3, t49, p49, e49, none⟩]⟩ false)
  (.seq (.cond (.tmp 58) .skip
  (.exit 4))
  (.seq (.block 5 (.seq (Code.region i16 ⟨[⟨some 59, .move (.tmp 57), t50, p50, e50, none⟩,
    ⟨some 60, .indexAddr T29 (.tmp 55) (.tmp 57), t51, p51, e51, none⟩,
    ⟨some 61, .load T45 (.tmp 60), t52, p52, e52, none⟩,
    ⟨some 16, .alloc T45, t53, p53, e53, none⟩,
    ⟨some 15, .assign (.tmp 59), t54, p54, e54, none⟩,
    ⟨none, .store T45 (.tmp 16) (.tmp 61), t55, p55, e55, none⟩]⟩ false)
  (.seq (Code.region i17 ⟨[⟨some 62, .fieldAddr T45 (.tmp 16) 4, t56, p56, e56, none⟩,
    ⟨some 63, .load T3 (.tmp 62), t57, p57, e57, none⟩,
    ⟨some 64, .move (.tmp 14), t58, p58, e58, none⟩,
    ⟨some 65, .binOp .eql T3 (.tmp 63) (.tmp 64) T3, t59, p59, e59, none⟩,
    ⟨some 66, .move (.tmp 65), t60, p60, e60, none⟩,
    ⟨some 67, .load T45 (.tmp 16), t61, p61, e61, some (4, true)⟩,
    ⟨some 68, .load T26 (.tmp 7), t62, p62, e62, some (4, true)⟩,
    ⟨some 69, .move (.tmp 15), t63, p63, e63, some (4, true)⟩,
    ⟨some 70, .call ⟨.value (.func f49), #[(.tmp 68), (.tmp 69)], a4⟩, t64, p64, e64, some (4, true)⟩,
    ⟨some 71, .call ⟨.value (.func f51), #[(.tmp 67), (.tmp 70)], a5⟩, t65, p65, e65, some (4, true)⟩,
    ⟨some 72, .unOp .not T4 (.tmp 71), t66, p66, e66, some (4, true)⟩,
    ⟨some 73, .pick (.tmp 66) (.tmp 72) (.const (.bool false)), t67, p67, e67, none⟩]⟩ true)
  (.cond (.tmp 73) (.seq (Code.region i18 ⟨[⟨some 74, .load T45 (.tmp 16), t68, p68, e68, none⟩,
    ⟨some 75, .move (.tmp 1), t69, p69, e69, none⟩,
    ⟨some 76, .move (.tmp 2), t70, p70, e70, none⟩,
    ⟨some 77, .load T26 (.tmp 7), t71, p71, e71, none⟩,
    ⟨some 78, .move (.tmp 15), t72, p72, e72, none⟩,
    ⟨some 79, .call ⟨.value (.func f49), #[(.tmp 77), (.tmp 78)], a6⟩, t73, p73, e73, none⟩,
    ⟨some 80, .call ⟨.value (.func f48), #[(.tmp 74), (.tmp 75), (.tmp 76), (.tmp 79)], a7⟩, t74, p74, e74, none⟩,
    ⟨some 17, .assign (.tmp 80), t75, p75, e75, none⟩]⟩ true)
  (.seq (Code.region i19 ⟨[⟨some 81, .move (.tmp 10), t76, p76, e76, none⟩,
    ⟨some 82, .move (.tmp 14), t77, p77, e77, none⟩,
    ⟨some 83, .convert T3 T73 (.tmp 82), t78, p78, e78, none⟩,
    ⟨some 84, .call ⟨.value (.func f52), #[(.tmp 83)], a8⟩, t79, p79, e79, none⟩,
    ⟨some 85, .call ⟨.builtin .append, #[(.tmp 81), (.tmp 84)], #[T22, T22]⟩, t80, p80, e80, none⟩,
    ⟨some 86, .move (.tmp 17), t81, p81, e81, none⟩,
    ⟨some 87, .call ⟨.builtin .len, #[(.tmp 86)], #[T22]⟩, t82, p82, e82, none⟩,
    ⟨some 88, .convert T3 T73 (.tmp 87), t83, p83, e83, none⟩,
    ⟨some 89, .call ⟨.value (.func f52), #[(.tmp 88)], a9⟩, t84, p84, e84, none⟩,
    ⟨some 90, .call ⟨.builtin .append, #[(.tmp 85), (.tmp 89)], #[T22, T22]⟩, t85, p85, e85, none⟩,
    ⟨some 91, .move (.tmp 17), t86, p86, e86, none⟩,
    ⟨some 92, .call ⟨.builtin .append, #[(.tmp 90), (.tmp 91)], #[T22, T22]⟩, t87, p87, e87, none⟩,
    ⟨some 10, .assign (.tmp 92), t88, p88, e88, none⟩]⟩ false)
  (Code.region i20 ⟨[⟨some 93, .move (.tmp 11), t89, p89, e89, none⟩,
    ⟨some 94, .binOp .add T3 (.tmp 93) (.const (.int .i64 1)) T3, t90, p90, e90, none⟩,
    ⟨some 11, .assign (.tmp 94), t91, p91, e91, none⟩]⟩ false)))
  .skip))))
  (Code.region i21 ⟨[⟨some 95, .binOp .add T3 (.tmp 57) (.const (.int .i64 1)) T3, t92, p92, e92, none⟩,
    ⟨some 57, .move (.tmp 95), t93, p93, e93, none⟩]⟩ false)))))))))
  (Code.region i22 ⟨[⟨some 96, .binOp .add T3 (.tmp 52) (.const (.int .i64 1)) T3, t94, p94, e94, none⟩,
    ⟨some 52, .move (.tmp 96), t95, p95, e95, none⟩]⟩ false)))))))
  (.seq (.seq (Code.region i23 ⟨[⟨some 97, .move (.tmp 0), t96, p96, e96, none⟩,
    ⟨some 98, .fieldAddr T26 (.tmp 7) 4, t97, p97, e97, none⟩,
    ⟨some 99, .load T24 (.tmp 98), t98, p98, e98, none⟩,
    ⟨some 100, .call ⟨.value (.func f53), #[(.tmp 97), (.tmp 99)], a10⟩, t99, p99, e99, none⟩,
    ⟨some 101, .call ⟨.builtin .len, #[(.tmp 100)], #[T24]⟩, t100, p100, e100, none⟩,
    ⟨some 102, .move (.const (.int .i64 0)), t101, p101, e101, none⟩]⟩ false)
  (.block 6 (.loop (.seq (Code.region i24 ⟨[⟨some 103, .binOp .lss T3 (.tmp 102) (.tmp 101) T3, t102, p102, e102, none⟩]⟩ false)
  (.seq (.cond (.tmp 103) .skip
  (.exit 6))
  (.seq (.block 7 (.seq (Code.region i25 ⟨[⟨some 104, .indexAddr T24 (.tmp 100) (.tmp 102), t103, p103, e103, none⟩,
    ⟨some 105, .load T60 (.tmp 104), t104, p104, e104, none⟩,
    ⟨some 19, .alloc T60, t105, p105, e105, none⟩,
    ⟨none, .store T60 (.tmp 19) (.tmp 105), t106, p106, e106, none⟩]⟩ false)
  (.seq (Code.region i26 ⟨[⟨some 106, .fieldAddr T60 (.tmp 19) 1, t107, p107, e107, none⟩,
    ⟨some 107, .load T22 (.tmp 106), t108, p108, e108, none⟩,
    ⟨some 108, .call ⟨.value (.func f54), #[(.tmp 107)], a11⟩, t109, p109, e109, none⟩,
    ⟨some 20, .assign (.tmp 108), t110, p110, e110, none⟩]⟩ false)
  (.seq (Code.region i27 ⟨[⟨some 109, .move (.tmp 10), t111, p111, e111, none⟩,
    ⟨some 110, .fieldAddr T60 (.tmp 19) 0, t112, p112, e112, none⟩,
    ⟨some 111, .load T58 (.tmp 110), t113, p113, e113, none⟩,
    ⟨some 112, .convert T58 T73 (.tmp 111), t114, p114, e114, none⟩,
    ⟨some 113, .call ⟨.value (.func f52), #[(.tmp 112)], a12⟩, t115, p115, e115, none⟩,
    ⟨some 114, .call ⟨.builtin .append, #[(.tmp 109), (.tmp 113)], #[T22, T22]⟩, t116, p116, e116, none⟩,
    ⟨some 115, .move (.tmp 20), t117, p117, e117, none⟩,
    ⟨some 116, .call ⟨.builtin .len, #[(.tmp 115)], #[T22]⟩, t118, p118, e118, none⟩,
    ⟨some 117, .convert T3 T73 (.tmp 116), t119, p119, e119, none⟩,
    ⟨some 118, .call ⟨.value (.func f52), #[(.tmp 117)], a13⟩, t120, p120, e120, none⟩,
    ⟨some 119, .call ⟨.builtin .append, #[(.tmp 114), (.tmp 118)], #[T22, T22]⟩, t121, p121, e121, none⟩,
    ⟨some 120, .move (.tmp 20), t122, p122, e122, none⟩,
    ⟨some 121, .call ⟨.builtin .append, #[(.tmp 119), (.tmp 120)], #[T22, T22]⟩, t123, p123, e123, none⟩,
    ⟨some 10, .assign (.tmp 121), t124, p124, e124, none⟩]⟩ false)
  (Code.region i28 ⟨[⟨some 122, .move (.tmp 11), t125, p125, e125, none⟩,
    ⟨some 123, .binOp .add T3 (.tmp 122) (.const (.int .i64 1)) T3, t126, p126, e126, none⟩,
    ⟨some 11, .assign (.tmp 123), t127, p127, e127, none⟩]⟩ false)))))
  (Code.region i29 ⟨[⟨some 124, .binOp .add T3 (.tmp 102) (.const (.int .i64 1)) T3, t128, p128, e128, none⟩,
    ⟨some 102, .move (.tmp 124), t129, p129, e129, none⟩]⟩ false)))))))
  (.seq (Code.region i30 ⟨[⟨some 125, .move (.tmp 9), t130, p130, e130, none⟩,
    ⟨some 126, .move (.tmp 11), t131, p131, e131, none⟩,
    ⟨some 127, .convert T3 T73 (.tmp 126), t132, p132, e132, none⟩,
    ⟨some 128, .call ⟨.value (.func f52), #[(.tmp 127)], a14⟩, t133, p133, e133, none⟩,
    ⟨some 129, .call ⟨.builtin .append, #[(.tmp 125), (.tmp 128)], #[T22, T22]⟩, t134, p134, e134, none⟩,
    ⟨some 130, .move (.tmp 10), t135, p135, e135, none⟩,
    ⟨some 131, .call ⟨.builtin .append, #[(.tmp 129), (.tmp 130)], #[T22, T22]⟩, t136, p136, e136, none⟩,
    ⟨some 8, .assign (.tmp 131), t137, p137, e137, none⟩]⟩ false)
  .ret)))))))))
    (hs_T22 : sliceOf P T22 te 1 1 = true) (hz_T22 : zeroIs P te [.int .u8 0]) (hsT29 : slTy P T29 = true) (hs_T29 : sliceOf P T29 te8 8 tb = true) (hFlT45 : Flat P T45 zF) (hcT3 : scal P T3 = true) (hFlT26 : Flat P T26 zT) (he7 : edgeOk 0 [e23, e24, e25, e26, e27, e28, e29, e30, e31, e32] [[], [], [], [], [], [], [4, 5], [1, 2, 3, 6], [0, 1, 2, 3, 4, 5, 6, 7], [0, 1, 2, 3, 4, 5, 6, 7, 8]] = true) (hmx : P.follows .mixedOrders = true) (hT58_u32 : intOf P T58 .u32 = true) (hT3_i64 : intOf P T3 .i64 = true) (hcT24 : scal P T24 = true) (hsT24 : slTy P T24 = true) (hs_T24 : sliceOf P T24 teT 2 32 = true) (hFlT60 : Flat P T60 zTag) (hcT22 : scal P T22 = true) (hcT58 : scal P T58 = true) (hT73_u64 : intOf P T73 .u64 = true) (hsT22 : slTy P T22 = true) (hfree : ∀ f ∈ fs, f.tag < 0) (hFi : ∀ fd ∈ fs, FieldM P f48 fd (fieldW fd)) (hHa : HasM P f47) (hAt : AtM P f49) (hKn : KnownM P f50) (hUn : UnkM P f53) (hWh : WholeM P f54) (hUv : UvWM P f52) : PartM P f fs (partW fs) := by
  refine ⟨enters_of hf hname hbody, ?_⟩
  intro w A B v ver flex ct t hfs ht hA hB hlen
  cases t with
  | mk n s nl l u =>
  have ht0 := ht
  obtain ⟨sv, lv, uv, rfl, hn, hs, hl, hu⟩ := repT_iff.1 ht
  obtain ⟨encs, hencs⟩ : ∃ x, x = fieldsW fs ver flex l 0 := ⟨_, rfl⟩
  obtain ⟨q, cap, hv, hbig, hk⟩ := hfs.slice
  subst hv
  have hkn0 : knownW fs = 0 := knownW_free hfree
  have htg : ∀ f ∈ fs, f.tag < 4294967295 := fun f hf => by have := hfree f hf; omega
  have hPW : partW fs ver flex (.mk n s nl l u) = if flex then bodyW fs ver encs fs.length ++ (uvW (unksW fs (.mk n s nl l u)).length ++ (unksW fs (.mk n s nl l u)).flatMap pairW) else bodyW fs ver encs fs.length := by rw [hencs]; exact partW_free hkn0 ver flex (.mk n s nl l u)
  rw [hPW] at hlen
  have hb0 : (bodyW fs ver encs fs.length).length ≤ 4294967296 := by
    split at hlen
    · simp only [List.length_append] at hlen; omega
    · exact hlen
  refine calls_of_wp hf hbody ?_
  generalize ha0 : ({ tmps := #[Value.slice q fs.length cap, Value.int .i64 ver, Value.bool flex, Value.agg ([.int .i64 n, sv, .bool nl, lv, uv] : List Value).toArray] ++ Array.replicate (fn.ntmps - (#[Value.slice q fs.length cap, Value.int .i64 ver, Value.bool flex, Value.agg ([.int .i64 n, sv, .bool nl, lv, uv] : List Value).toArray] : Array Value).size) undef, defers := [] } : Act) = a0
  have hz0 : a0.tmps.size = 132 := by subst ha0; simp [hN]
  have hd0 : a0.defers = [] := by subst ha0; rfl
  have g0_0 : get a0 0 = .slice q fs.length cap := by subst ha0; exact gAr rfl
  have g0_1 : get a0 1 = .int .i64 ver := by subst ha0; exact gAr rfl
  have g0_2 : get a0 2 = .bool flex := by subst ha0; exact gAr rfl
  have g0_3 : get a0 3 = .agg ([.int .i64 n, sv, .bool nl, lv, uv] : List Value).toArray := by subst ha0; exact gAr rfl
  refine wT fun K1 hK1 => ?_
  refine wC (wp_boxL (cs := [.int .i64 n, sv, .bool nl, lv, uv]) (eK g0_3) ?_)
  rintro w2 f2 sz2 r2 th2
  have hF3 : Fr [] w w2 := f2
  refine wC (wAs (v := .slice none 0 0) rfl ?_)
  refine wEn fun a4 ha4 => ?_
  have hz4 := kS ha4 hz0
  have hd4 := kD ha4 hd0
  have g4_0 := kP ha4 g0_0
  have g4_1 := kP ha4 g0_1
  have g4_2 := kP ha4 g0_2
  have g4_3 := kP ha4 g0_3
  have g4_7 : get a4 7 = .pointer (some ⟨w.heap.size, 0, none⟩) := kG ha4 hz0
  have g4_8 : get a4 8 = .slice none 0 0 := kG ha4 hz0
  refine hK1 a4 w2 (tUp ?_)
  refine tId (wp_seq_k fun K5 hK5 => ?_)
  have hS0 : w.heap.size + 1 ≤ w2.heap.size := by omega
  refine wp_reg ?_
  refine wC (wAs (v := .slice none 0 0) rfl ?_)
  refine wC (wAs (v := .slice none 0 0) rfl ?_)
  refine wEn fun a6 ha6 => ?_
  have hz6 := kS ha6 hz4
  have hd6 := kD ha6 hd4
  have g6_0 := kP ha6 g4_0
  have g6_1 := kP ha6 g4_1
  have g6_2 := kP ha6 g4_2
  have g6_3 := kP ha6 g4_3
  have g6_7 := kP ha6 g4_7
  have g6_8 := kP ha6 g4_8
  have g6_9 : get a6 9 = .slice none 0 0 := kG ha6 hz4
  have g6_10 : get a6 10 = .slice none 0 0 := kG ha6 hz4
  refine hK5 a6 w2 (tUp ?_)
  refine wT fun K7 hK7 => ?_
  refine wC (wAs (v := .int .i64 0) rfl ?_)
  refine wEn fun a8 ha8 => ?_
  have hz8 := kS ha8 hz6
  have hd8 := kD ha8 hd6
  have g8_0 := kP ha8 g6_0
  have g8_1 := kP ha8 g6_1
  have g8_2 := kP ha8 g6_2
  have g8_3 := kP ha8 g6_3
  have g8_7 := kP ha8 g6_7
  have g8_8 := kP ha8 g6_8
  have g8_9 := kP ha8 g6_9
  have g8_10 := kP ha8 g6_10
  have g8_11 : get a8 11 = .int .i64 0 := kG ha8 hz6
  refine hK7 a8 w2 (tUp ?_)
  refine tId (wp_seq_k fun K9 hK9 => ?_)
  refine wS fun K10 hK10 => ?_
  refine wC (wMv (v := .slice q fs.length cap) (eK g8_0) ?_)
  refine wC (wp_lenS (n := fs.length) hsT29 (eS hz8) ?_)
  refine wC (wMv (v := .int .i64 0) rfl ?_)
  refine wEn fun a11 ha11 => ?_
  have hz11 := kS ha11 hz8
  have hd11 := kD ha11 hd8
  have g11_0 := kP ha11 g8_0
  have g11_1 := kP ha11 g8_1
  have g11_2 := kP ha11 g8_2
  have g11_3 := kP ha11 g8_3
  have g11_7 := kP ha11 g8_7
  have g11_8 := kP ha11 g8_8
  have g11_9 := kP ha11 g8_9
  have g11_10 := kP ha11 g8_10
  have g11_11 := kP ha11 g8_11
  have g11_21 : get a11 21 = .slice q fs.length cap := kG ha11 hz8
  have g11_22 : get a11 22 = .int .i64 ((fs.length : Nat) : Int) := kG ha11 hz8
  have g11_23 : get a11 23 = .int .i64 0 := kG ha11 hz8
  refine hK10 a11 w2 ?_
  refine wp_block (wp_loop_ghost (fun (m : Nat) a' w' => ∃ (j : Nat) (v9 : Value), a'.tmps.size = 132 ∧ a'.defers = [] ∧ get a' 0 = .slice q fs.length cap ∧ get a' 1 = .int .i64 ver ∧ get a' 2 = .bool flex ∧ get a' 3 = .agg ([.int .i64 n, sv, .bool nl, lv, uv] : List Value).toArray ∧ get a' 7 = .pointer (some ⟨w.heap.size, 0, none⟩) ∧ get a' 8 = .slice none 0 0 ∧ get a' 9 = v9 ∧ get a' 10 = .slice none 0 0 ∧ get a' 11 = .int .i64 0 ∧ get a' 21 = .slice q fs.length cap ∧ get a' 22 = .int .i64 ((fs.length : Nat) : Int) ∧ get a' 23 = .int .i64 (j : Int) ∧ j + m = fs.length ∧ Own w' (From w2.heap.size w') 1 v9 (bodyW fs ver encs j).length (octets (bodyW fs ver encs j)) ∧ w'.rangeAt w.heap.size 0 [.int .i64 n, sv, .bool nl, lv, uv] ∧ Fr [] w w' ∧ w2.heap.size ≤ w'.heap.size) fs.length ?_ ?_)
  · exact ⟨0, .slice none 0 0, hz11, hd11, g11_0, g11_1, g11_2, g11_3, g11_7, g11_8, g11_9, g11_10, g11_11, g11_21, g11_22, g11_23, by omega, Own.nil, r2, hF3, (Fr.refl [] w2).size⟩
  · rintro m a12 w12 ⟨j, v9, hz12, hd12, g12_0, g12_1, g12_2, g12_3, g12_7, g12_8, g12_9, g12_10, g12_11, g12_21, g12_22, g12_23, hjm, ho, hbl, hfl, hSl⟩
    refine wS fun K13 hK13 => ?_
    refine wC (wp_lss (k1 := .i64) (i := (j : Int)) (j := ((fs.length : Nat) : Int)) (eK g12_23) (eK g12_22) ?_)
    refine wEn fun a14 ha14 => ?_
    have hz14 := kS ha14 hz12
    have hd14 := kD ha14 hd12
    have g14_0 := kP ha14 g12_0
    have g14_1 := kP ha14 g12_1
    have g14_2 := kP ha14 g12_2
    have g14_3 := kP ha14 g12_3
    have g14_7 := kP ha14 g12_7
    have g14_8 := kP ha14 g12_8
    have g14_9 := kP ha14 g12_9
    have g14_10 := kP ha14 g12_10
    have g14_11 := kP ha14 g12_11
    have g14_21 := kP ha14 g12_21
    have g14_22 := kP ha14 g12_22
    have g14_23 := kP ha14 g12_23
    have g14_24 : get a14 24 = .bool (decide (((j : Int) : Int) < (((fs.length : Nat) : Int) : Int))) := kG ha14 hz12
    refine hK13 a14 w12 ?_
    refine wp_seq_k fun K15 hK15 => ?_
    refine wp_cond_split (t := decide (((j : Int) : Int) < (((fs.length : Nat) : Int) : Int))) (eK g14_24) (fun hc16 => ?_) (fun hc16 => ?_)
    · have hjl : j < fs.length := by simpa using hc16
      obtain ⟨fd, hfd⟩ : ∃ fd, fs[j]? = some fd := ⟨fs[j], by simp [hjl]⟩
      obtain ⟨bl, ol, cl, hq, hbl2, hrl, hrep⟩ := hk j fd hfd
      obtain ⟨fsv, rfl, hsub⟩ := repF_iff.1 hrep
      have hft := hfree fd (List.mem_of_getElem? hfd)
      have hFm := hFi fd (List.mem_of_getElem? hfd)
      have hbs := bodyW_succ (ver := ver) (encs := encs) hfd hft
      have hble := bodyW_le (ver := ver) (encs := encs) (fs := fs) (n := j + 1) (m := fs.length) (by omega)
      have henc : encs.getD j [] = fieldW fd ver flex (atT l j) := by rw [hencs, fieldsW_at fs ver flex l 0 j fd hfd, Nat.zero_add]
      rw [henc] at hbs
      refine wp_skip ?_
      refine hK15 a14 w12 ?_
      refine wp_seq_k fun K17 hK17 => ?_
      refine wp_blockT ?_
      refine wS fun K18 hK18 => ?_
      refine wC (wMv (v := .int .i64 (j : Int)) (eK g14_23) ?_)
      refine wC (wp_ixN (b := bl) (o := ol) (i := j) hs_T29 (by rw [eTm, nZ (by decide), g14_21, hq]) (eK g14_23) hjl ?_)
      refine wC (wp_loadFlat (cs := [.int .i64 fd.kind, .int .i64 fd.fr, .int .i64 fd.to, .int .i64 fd.nul, .int .i64 fd.tag, .int .i64 fd.df, .int .i64 fd.of, fsv]) (b := bl) (o := ol + j * 8) hFlT45 rfl (eS hz14) (hfl.range hrl .nil) ?_)
      refine wC (wp_allocL hFlT45 ?_)
      rintro w19 f19 sz19 r19 th19
      have hF20 : Fr [] w w19 := hfl.tr f19
      have hL20_w12 : Fr [] w12 w19 := (Fr.refl [] w12).tr f19
      have rb21 := f19.range hbl .nil
      refine wC (wAs (v := .int .i64 (j : Int)) (eS hz14) ?_)
      refine wC (wp_storeL (cs := [.int .i64 fd.kind, .int .i64 fd.fr, .int .i64 fd.to, .int .i64 fd.nul, .int .i64 fd.tag, .int .i64 fd.df, .int .i64 fd.of, fsv]) (o := 0) hFlT45 rfl (eS hz14) (eS hz14) (by intro u hu; simp at hu; rcases hu with rfl | rfl | rfl | rfl | rfl | rfl | rfl | rfl <;> first | rfl | exact hsub.one) th19 ?_)
      rintro w22 f22 sz22 r22 th22
      have hF22 : Fr [] w w22 := hF20.trans f22 (fun r hr => .inl (by simp at hr; subst hr; have := hfl.size; simp only; omega))
      have rb23 := f22.range rb21 (.cons (.inl (by simp only; omega)) .nil)
      have hL22_w12 : Fr [] w12 w22 := hL20_w12.trans f22 (fun r hr => .inl (by simp at hr; subst hr; have := (Fr.refl [] w12).size; simp only; omega))
      refine wEn fun a24 ha24 => ?_
      have hz24 := kS ha24 hz14
      have hd24 := kD ha24 hd14
      have g24_0 := kP ha24 g14_0
      have g24_1 := kP ha24 g14_1
      have g24_2 := kP ha24 g14_2
      have g24_3 := kP ha24 g14_3
      have g24_7 := kP ha24 g14_7
      have g24_8 := kP ha24 g14_8
      have g24_9 := kP ha24 g14_9
      have g24_10 := kP ha24 g14_10
      have g24_11 := kP ha24 g14_11
      have g24_12 : get a24 12 = .int .i64 (j : Int) := kG ha24 hz14
      have g24_13 : get a24 13 = .pointer (some ⟨w12.heap.size, 0, none⟩) := kG ha24 hz14
      have g24_21 := kP ha24 g14_21
      have g24_22 := kP ha24 g14_22
      have g24_23 := kP ha24 g14_23
      refine hK18 a24 w22 ?_
      refine wp_seq_k fun K25 hK25 => ?_
      refine wp_regG ?_
      refine gCn ?_
      refine wFa (b := w12.heap.size) (i := 0) (hFlT45.fld (by decide)) (eK g24_13) ?_
      rw [show (0 + 4 : Nat) = 4 from rfl]
      refine gCn ?_
      refine wL0 (j := 4) (v := .int .i64 fd.tag) hcT3 (eS hz24) r22 rfl ?_
      refine gCn ?_
      refine wp_lssT (k1 := .i64) (i := fd.tag) (j := 0) hft (eS hz24) rfl ?_
      refine gCn ?_
      refine wMv (v := .bool true) (eS hz24) ?_
      refine wg_yes (dj := 31) rfl (lZ hz24) (gS hz24) ?_
      refine wp_loadFlat (cs := [.int .i64 fd.kind, .int .i64 fd.fr, .int .i64 fd.to, .int .i64 fd.nul, .int .i64 fd.tag, .int .i64 fd.df, .int .i64 fd.of, fsv]) (b := w12.heap.size) (o := 0) hFlT45 rfl (eK g24_13) r22 ?_
      refine wg_yes (dj := 31) rfl (lZ hz24) (gS hz24) ?_
      refine wMv (v := .int .i64 ver) (eK g24_1) ?_
      refine wg_yes (dj := 31) rfl (lZ hz24) (gS hz24) ?_
      refine wCr (R := fun x wz => x = .bool (fd.has ver) ∧ Fr [] w22 wz) (vs := #[.agg ([.int .i64 fd.kind, .int .i64 fd.fr, .int .i64 fd.to, .int .i64 fd.nul, .int .i64 fd.tag, .int .i64 fd.df, .int .i64 fd.of, fsv] : List Value).toArray, .int .i64 ver]) hHa.enters (mX2 (eS hz24) (eS hz24)) ((hHa.call w22 A _ fd ver (hrep.kept hF22 (by simp) (fun _ h => h))).mono (by rintro e w' ⟨rfl, hf⟩; exact ⟨_, rfl, rfl, hf⟩)) ?_
      rintro x26 w26 ⟨rfl, fr26⟩
      have hF27 : Fr [] w w26 := hF22.tr fr26
      have hL27_w12 : Fr [] w12 w26 := hL22_w12.tr fr26
      have rb28 := fr26.range rb23 .nil
      have rb29 := fr26.range r22 .nil
      refine gCn ?_
      refine wp_pickYes (v := .bool (fd.has ver)) (eS hz24) (eS hz24) ?_
      refine wg_end fun a30 ha30 => ?_
      have hz30 := kS ha30 hz24
      have hd30 := kD ha30 hd24
      have g30_0 := kP ha30 g24_0
      have g30_1 := kP ha30 g24_1
      have g30_2 := kP ha30 g24_2
      have g30_3 := kP ha30 g24_3
      have g30_7 := kP ha30 g24_7
      have g30_8 := kP ha30 g24_8
      have g30_9 := kP ha30 g24_9
      have g30_10 := kP ha30 g24_10
      have g30_11 := kP ha30 g24_11
      have g30_12 := kP ha30 g24_12
      have g30_13 := kP ha30 g24_13
      have g30_21 := kP ha30 g24_21
      have g30_22 := kP ha30 g24_22
      have g30_23 := kP ha30 g24_23
      have g30_35 : get a30 35 = .bool (fd.has ver) := kG ha30 hz24
      refine hK25 a30 w26 ?_
      refine wp_cond_split (t := (fd.has ver)) (eK g30_35) (fun hc31 => ?_) (fun hc31 => ?_)
      · have hhas : fd.has ver = true := hc31
        refine wp_drawR (os := [⟨some 36, .move (.tmp 9), t23, p23, e23, none⟩, ⟨some 37, .load T45 (.tmp 13), t24, p24, e24, none⟩, ⟨some 38, .move (.tmp 1), t25, p25, e25, none⟩, ⟨some 39, .move (.tmp 2), t26, p26, e26, none⟩, ⟨some 40, .load T26 (.tmp 7), t27, p27, e27, none⟩, ⟨some 41, .move (.tmp 12), t28, p28, e28, none⟩, ⟨some 42, .call ⟨.value (.func f49), #[(.tmp 40), (.tmp 41)], a1⟩, t29, p29, e29, none⟩, ⟨some 43, .call ⟨.value (.func f48), #[(.tmp 37), (.tmp 38), (.tmp 39), (.tmp 42)], a2⟩, t30, p30, e30, none⟩]) (rest := [⟨some 44, .call ⟨.builtin .append, #[(.tmp 36), (.tmp 43)], #[T22, T22]⟩, t31, p31, e31, none⟩, ⟨some 9, .assign (.tmp 44), t32, p32, e32, none⟩]) [spC [] (v9), spC [] (.agg ([.int .i64 fd.kind, .int .i64 fd.fr, .int .i64 fd.to, .int .i64 fd.nul, .int .i64 fd.tag, .int .i64 fd.df, .int .i64 fd.of, fsv] : List Value).toArray), spC [] (.int .i64 ver), spC [] (.bool flex), spC [] (.agg ([.int .i64 n, sv, .bool nl, lv, uv] : List Value).toArray), spC [] (.int .i64 (j : Int)), spR [4, 5] (fun x w' => ∃ cs : List Value, x = .agg cs.toArray ∧ RepT w' B cs (atT l j)), spR [1, 2, 3, 6] (fun x w' => Own w' (From w26.heap.size w') 1 x (fieldW fd ver flex (atT l j)).length (octets (fieldW fd ver flex (atT l j))))] 36 [] hmx he7 (by simp [shape]) (by simp [plainO]) (by simp [spC, spR]) (by simp; omega) ⟨lCc _ _ _, lCc _ _ _, lCc _ _ _, lCc _ _ _, lCc _ _ _, lCc _ _ _, (fun v w1 w2 f h => by obtain ⟨cs, h1, h2⟩ := h; exact ⟨cs, h1, h2.kept f (by simp) (fun _ h => h)⟩), (fun v w1 w2 f h => h.upTo f (From.mono f.size)), trivial⟩ ?_ ?_
        · refine oCs ?_ ?_
          · refine op_c fun a' w' hk' hf' hd' K' hK' => ?_
            refine wMv (v := v9) (by rw [eTm, hk'.get 9 (by omega), g30_9]) ?_
            exact hK'
          refine oCs ?_ ?_
          · refine op_c fun a' w' hk' hf' hd' K' hK' => ?_
            refine wp_loadFlat (cs := [.int .i64 fd.kind, .int .i64 fd.fr, .int .i64 fd.to, .int .i64 fd.nul, .int .i64 fd.tag, .int .i64 fd.df, .int .i64 fd.of, fsv]) (b := w12.heap.size) (o := 0) hFlT45 rfl (by rw [eTm, hk'.get 13 (by omega), g30_13]) (hf'.range rb29 .nil) ?_
            exact hK'
          refine oCs ?_ ?_
          · refine op_c fun a' w' hk' hf' hd' K' hK' => ?_
            refine wMv (v := .int .i64 ver) (by rw [eTm, hk'.get 1 (by omega), g30_1]) ?_
            exact hK'
          refine oCs ?_ ?_
          · refine op_c fun a' w' hk' hf' hd' K' hK' => ?_
            refine wMv (v := .bool flex) (by rw [eTm, hk'.get 2 (by omega), g30_2]) ?_
            exact hK'
          refine oCs ?_ ?_
          · refine op_c fun a' w' hk' hf' hd' K' hK' => ?_
            refine wp_loadFlat (cs := [.int .i64 n, sv, .bool nl, lv, uv]) (b := w.heap.size) (o := 0) hFlT26 rfl (by rw [eTm, hk'.get 7 (by omega), g30_7]) (hf'.range rb28 .nil) ?_
            exact hK'
          refine oCs ?_ ?_
          · refine op_c fun a' w' hk' hf' hd' K' hK' => ?_
            refine wMv (v := .int .i64 (j : Int)) (by rw [eTm, hk'.get 12 (by omega), g30_12]) ?_
            exact hK'
          refine oCs ?_ ?_
          · refine op_r fun a' w' hk' hf' hd' K' hK' => ?_
            refine wCr (R := fun x wz => ∃ cs : List Value, x = .agg cs.toArray ∧ Fr [] w' wz ∧ ((∀ b, B b → b < w'.heap.size) → RepT wz B cs (atT l j))) (vs := #[.agg ([.int .i64 n, sv, .bool nl, lv, uv] : List Value).toArray, .int .i64 (j : Int)]) hAt.enters (by simp only [List.map_toArray, List.map_cons, List.map_nil]; rw [show a'.eval (.tmp 40) = Value.agg ([.int .i64 n, sv, .bool nl, lv, uv] : List Value).toArray from (by rw [eTm]; exact hd'.c (nd' := []) 4 (by simp) rfl), show a'.eval (.tmp 41) = Value.int .i64 (j : Int) from (by rw [eTm]; exact hd'.c (nd' := []) 5 (by simp) rfl)]) ((hAt.call w' B _ (.mk n s nl l u) j (ht0.kept (hF27.tr hf') (by simp) (fun _ h => h))).mono (by rintro e wz ⟨cs, rfl, h1, h2⟩; exact ⟨_, rfl, cs, rfl, h1, h2⟩)) ?_
            rintro _ w32 ⟨cs32, rfl, fr32, hr32⟩
            exact hK' _ w32 ⟨cs32, rfl, hr32 (fun b hb => Nat.lt_of_lt_of_le (hB b hb) (hF27.tr hf').size)⟩ fr32
          refine oCs ?_ ?_
          · refine op_r fun a' w' hk' hf' hd' K' hK' => ?_
            obtain ⟨ct', hct, hrt'⟩ : ∃ cs : List Value, get a' 42 = .agg cs.toArray ∧ RepT w' B cs (atT l j) := hd'.at (d := 6) (by simp) rfl
            refine wCr (R := fun vz wz => Fr [] w' wz ∧ Own wz (From w'.heap.size wz) 1 vz (fieldW fd ver flex (atT l j)).length (octets (fieldW fd ver flex (atT l j)))) (vs := #[.agg ([.int .i64 fd.kind, .int .i64 fd.fr, .int .i64 fd.to, .int .i64 fd.nul, .int .i64 fd.tag, .int .i64 fd.df, .int .i64 fd.of, fsv] : List Value).toArray, .int .i64 ver, .bool flex, .agg ct'.toArray]) hFm.enters (by simp only [List.map_toArray, List.map_cons, List.map_nil]; rw [show a'.eval (.tmp 37) = Value.agg ([.int .i64 fd.kind, .int .i64 fd.fr, .int .i64 fd.to, .int .i64 fd.nul, .int .i64 fd.tag, .int .i64 fd.df, .int .i64 fd.of, fsv] : List Value).toArray from (by rw [eTm]; exact hd'.c (nd' := []) 1 (by simp) rfl), show a'.eval (.tmp 38) = Value.int .i64 ver from (by rw [eTm]; exact hd'.c (nd' := []) 2 (by simp) rfl), show a'.eval (.tmp 39) = Value.bool flex from (by rw [eTm]; exact hd'.c (nd' := []) 3 (by simp) rfl), show a'.eval (.tmp 42) = Value.agg ct'.toArray from (by rw [eTm]; exact hct)]) (calls_fresh (hFm.call w' A B ver flex _ ct' (atT l j) (hrep.kept (hF27.tr hf') (by simp) (fun _ h => h)) hrt' (fun b hb => Nat.lt_of_lt_of_le (hA b hb) (hF27.tr hf').size) (fun b hb => Nat.lt_of_lt_of_le (hB b hb) (hF27.tr hf').size) (by rw [hbs, if_pos hhas, List.length_append] at hble; omega))) ?_
            rintro x33 w33 ⟨fr33, ow33⟩
            exact hK' x33 w33 (ow33.from hf'.size) fr33
          exact opsOk_nil
        intro a34 w34 k34 f34 hd_34
        have g34_0 : get a34 0 = .slice q fs.length cap := by rw [k34.get 0 (by omega), g30_0]
        have g34_1 : get a34 1 = .int .i64 ver := by rw [k34.get 1 (by omega), g30_1]
        have g34_2 : get a34 2 = .bool flex := by rw [k34.get 2 (by omega), g30_2]
        have g34_3 : get a34 3 = .agg ([.int .i64 n, sv, .bool nl, lv, uv] : List Value).toArray := by rw [k34.get 3 (by omega), g30_3]
        have g34_7 : get a34 7 = .pointer (some ⟨w.heap.size, 0, none⟩) := by rw [k34.get 7 (by omega), g30_7]
        have g34_8 : get a34 8 = .slice none 0 0 := by rw [k34.get 8 (by omega), g30_8]
        have g34_10 : get a34 10 = .slice none 0 0 := by rw [k34.get 10 (by omega), g30_10]
        have g34_11 : get a34 11 = .int .i64 0 := by rw [k34.get 11 (by omega), g30_11]
        have g34_21 : get a34 21 = .slice q fs.length cap := by rw [k34.get 21 (by omega), g30_21]
        have g34_22 : get a34 22 = .int .i64 ((fs.length : Nat) : Int) := by rw [k34.get 22 (by omega), g30_22]
        have g34_23 : get a34 23 = .int .i64 (j : Int) := by rw [k34.get 23 (by omega), g30_23]
        have hz34 : a34.tmps.size = 132 := k34.size.trans hz30
        have hd34 : a34.defers = [] := k34.defers.trans hd30
        have g34_36 : get a34 36 = v9 := hd_34.c (nd' := []) 0 (by simp) rfl
        have hF35 : Fr [] w w34 := hF27.tr f34
        have hL35_w12 : Fr [] w12 w34 := hL27_w12.tr f34
        have rb36 := f34.range rb28 .nil
        have rb37 := f34.range rb29 .nil
        have hv : Own w34 (From w26.heap.size w34) 1 (get a34 43) (fieldW fd ver flex (atT l j)).length (octets (fieldW fd ver flex (atT l j))) := hd_34.at (d := 7) (by simp) rfl
        rw [wCo]
        have ob38 := ho.upTo hL35_w12 (From.mono hL35_w12.size)
        have hSl38 : w2.heap.size ≤ w34.heap.size := Nat.le_trans hSl hL35_w12.size
        refine wp_appO hs_T22 hz_T22 (eK g34_36) rfl ob38 (hv.octE (by rw [hbs, if_pos hhas, List.length_append] at hble; omega)) (by rw [hbs, if_pos hhas, List.length_append] at hble; omega) ?_
        rintro v38 w38 fa38 oa38 sp38 bk38
        have ho38 := oa38.imp_A (new_or hSl38 fa38.size)
        have hF38 : Fr [] w w38 := fr_own hF35 fa38 (ob38.from (s0 := w.heap.size) (by omega)) (fun b hb => hb.1)
        have rb39 := fa38.range rb36 (fun r hr => .inl fun e => by have := (ob38.spare_in r hr).1; have := hS0; omega)
        refine wC (wAs (v := v38) (eS hz34) ?_)
        refine wEn fun a40 ha40 => ?_
        have hz40 := kS ha40 hz34
        have hd40 := kD ha40 hd34
        have g40_0 := kP ha40 g34_0
        have g40_1 := kP ha40 g34_1
        have g40_2 := kP ha40 g34_2
        have g40_3 := kP ha40 g34_3
        have g40_7 := kP ha40 g34_7
        have g40_8 := kP ha40 g34_8
        have g40_9 : get a40 9 = v38 := kG ha40 hz34
        have g40_10 := kP ha40 g34_10
        have g40_11 := kP ha40 g34_11
        have g40_21 := kP ha40 g34_21
        have g40_22 := kP ha40 g34_22
        have g40_23 := kP ha40 g34_23
        have hSN := Nat.le_trans hSl38 fa38.size
        refine hK17 a40 w38 ?_
        refine wp_reg ?_
        refine wC (wp_add (k1 := .i64) (i := (j : Int)) (j := 1) (eK g40_23) rfl ?_)
        rw [show (IntKind.i64.wrap (((j : Int) : Int) + (1 : Int)) : Int) = (((j + 1 : Nat) : Int) : Int) from by simp only [IntKind.wrap, IntKind.bits, IntKind.signed]; simp; omega]
        refine wC (wMv (v := .int .i64 ((j + 1 : Nat) : Int)) (eS hz40) ?_)
        refine wEn fun a41 ha41 => ?_
        have hz41 := kS ha41 hz40
        have hd41 := kD ha41 hd40
        have g41_0 := kP ha41 g40_0
        have g41_1 := kP ha41 g40_1
        have g41_2 := kP ha41 g40_2
        have g41_3 := kP ha41 g40_3
        have g41_7 := kP ha41 g40_7
        have g41_8 := kP ha41 g40_8
        have g41_9 := kP ha41 g40_9
        have g41_10 := kP ha41 g40_10
        have g41_11 := kP ha41 g40_11
        have g41_21 := kP ha41 g40_21
        have g41_22 := kP ha41 g40_22
        have g41_23 : get a41 23 = .int .i64 ((j + 1 : Nat) : Int) := kG ha41 hz40
        refine ⟨m - 1, by omega, j + 1, _, hz41, hd41, g41_0, g41_1, g41_2, g41_3, g41_7, g41_8, g41_9, g41_10, g41_11, g41_21, g41_22, g41_23, by omega, ?_, rb39, hF38, ?_⟩
        · rw [hbs, if_pos hhas]; exact ho38
        · exact hSN
      · have hhas : fd.has ver = false := hc31
        refine wp_skip ?_
        refine hK17 a30 w26 ?_
        refine wp_reg ?_
        refine wC (wp_add (k1 := .i64) (i := (j : Int)) (j := 1) (eK g30_23) rfl ?_)
        rw [show (IntKind.i64.wrap (((j : Int) : Int) + (1 : Int)) : Int) = (((j + 1 : Nat) : Int) : Int) from by simp only [IntKind.wrap, IntKind.bits, IntKind.signed]; simp; omega]
        refine wC (wMv (v := .int .i64 ((j + 1 : Nat) : Int)) (eS hz30) ?_)
        refine wEn fun a42 ha42 => ?_
        have hz42 := kS ha42 hz30
        have hd42 := kD ha42 hd30
        have g42_0 := kP ha42 g30_0
        have g42_1 := kP ha42 g30_1
        have g42_2 := kP ha42 g30_2
        have g42_3 := kP ha42 g30_3
        have g42_7 := kP ha42 g30_7
        have g42_8 := kP ha42 g30_8
        have g42_9 := kP ha42 g30_9
        have g42_10 := kP ha42 g30_10
        have g42_11 := kP ha42 g30_11
        have g42_21 := kP ha42 g30_21
        have g42_22 := kP ha42 g30_22
        have g42_23 : get a42 23 = .int .i64 ((j + 1 : Nat) : Int) := kG ha42 hz30
        refine ⟨m - 1, by omega, j + 1, _, hz42, hd42, g42_0, g42_1, g42_2, g42_3, g42_7, g42_8, g42_9, g42_10, g42_11, g42_21, g42_22, g42_23, by omega, ?_, rb28, hF27, ?_⟩
        · rw [hbs, hhas, if_neg (by simp), List.append_nil]; exact ho.upTo hL27_w12 (From.mono hL27_w12.size)
        · exact Nat.le_trans hSl hL27_w12.size
    · have hj0 : j = fs.length := by simp at hc16; omega
      rw [hj0] at ho
      refine wp_exit ?_
      show K9 a14 w12
      refine hK9 a14 w12 (tUp ?_)
      refine tId (wp_seq_k fun K43 hK43 => ?_)
      refine wS fun K44 hK44 => ?_
      refine wC (wMv (v := .bool flex) (eK g14_2) ?_)
      refine wC (wp_not (b := flex) (eS hz14) ?_)
      refine wEn fun a45 ha45 => ?_
      have hz45 := kS ha45 hz14
      have hd45 := kD ha45 hd14
      have g45_0 := kP ha45 g14_0
      have g45_1 := kP ha45 g14_1
      have g45_2 := kP ha45 g14_2
      have g45_3 := kP ha45 g14_3
      have g45_7 := kP ha45 g14_7
      have g45_8 := kP ha45 g14_8
      have g45_9 := kP ha45 g14_9
      have g45_10 := kP ha45 g14_10
      have g45_11 := kP ha45 g14_11
      have g45_21 := kP ha45 g14_21
      have g45_22 := kP ha45 g14_22
      have g45_23 := kP ha45 g14_23
      have g45_47 : get a45 47 = .bool (!flex) := kG ha45 hz14
      refine hK44 a45 w12 ?_
      refine wp_cond_split (t := !flex) (eK g45_47) (fun hc46 => ?_) (fun hc46 => ?_)
      · have hfx : flex = false := by simpa using hc46
        refine wS fun K47 hK47 => ?_
        refine wC (wMv (v := v9) (eK g45_9) ?_)
        refine wC (wAs (v := v9) (eS hz45) ?_)
        refine wEn fun a48 ha48 => ?_
        have hz48 := kS ha48 hz45
        have hd48 := kD ha48 hd45
        have g48_8 : get a48 8 = v9 := kG ha48 hz45
        refine hK47 a48 w12 ?_
        refine wp_ret ?_
        rw [hPW, hfx, if_neg (by simp)]
        exact ⟨hd48, _, rIs hres g48_8, _, rfl, hfl, ho.from (by omega)⟩
      · have hfx : flex = true := by simpa using hc46
        refine wp_skip ?_
        refine hK43 a45 w12 (tUp ?_)
        refine tId (wp_seq_k fun K49 hK49 => ?_)
        refine wS fun K50 hK50 => ?_
        refine wC (wMv (v := .slice q fs.length cap) (eK g45_0) ?_)
        refine wC (wCr (R := fun x wz => x = .int .u32 0 ∧ Fr [] w12 wz) (vs := #[.slice q fs.length cap]) hKn.enters (mX1 (eS hz45)) ((hKn.call w12 A _ fs (hfs.kept hfl (by simp) (fun _ h => h)) htg).mono (by rintro e w' ⟨rfl, hf⟩; exact ⟨_, rfl, by rw [hkn0]; rfl, hf⟩)) ?_)
        rintro x51 w51 ⟨rfl, fr51⟩
        have hF52 : Fr [] w w51 := hfl.tr fr51
        have hL52_w12 : Fr [] w12 w51 := (Fr.refl [] w12).tr fr51
        have rb53 := fr51.range hbl .nil
        refine wC (wCv (k1 := .u32) (i := 0) hT58_u32 hT3_i64 (eS hz45) ?_)
        rw [show (IntKind.i64.wrap (0 : Int)) = (0 : Int) from by decide]
        refine wC (wMv (v := .int .i64 0) rfl ?_)
        refine wEn fun a54 ha54 => ?_
        have hz54 := kS ha54 hz45
        have hd54 := kD ha54 hd45
        have g54_0 := kP ha54 g45_0
        have g54_1 := kP ha54 g45_1
        have g54_2 := kP ha54 g45_2
        have g54_3 := kP ha54 g45_3
        have g54_7 := kP ha54 g45_7
        have g54_8 := kP ha54 g45_8
        have g54_9 := kP ha54 g45_9
        have g54_10 := kP ha54 g45_10
        have g54_11 := kP ha54 g45_11
        have g54_21 := kP ha54 g45_21
        have g54_22 := kP ha54 g45_22
        have g54_23 := kP ha54 g45_23
        have g54_51 : get a54 51 = .int .i64 0 := kG ha54 hz45
        have g54_52 : get a54 52 = .int .i64 0 := kG ha54 hz45
        refine hK50 a54 w51 ?_
        refine wp_block (wp_loop_ghost (fun (m2 : Nat) a' w' => a'.tmps.size = 132 ∧ a'.defers = [] ∧ get a' 0 = .slice q fs.length cap ∧ get a' 1 = .int .i64 ver ∧ get a' 2 = .bool flex ∧ get a' 3 = .agg ([.int .i64 n, sv, .bool nl, lv, uv] : List Value).toArray ∧ get a' 7 = .pointer (some ⟨w.heap.size, 0, none⟩) ∧ get a' 8 = .slice none 0 0 ∧ get a' 9 = v9 ∧ get a' 10 = .slice none 0 0 ∧ get a' 11 = .int .i64 0 ∧ get a' 21 = .slice q fs.length cap ∧ get a' 22 = .int .i64 ((fs.length : Nat) : Int) ∧ get a' 23 = .int .i64 (j : Int) ∧ get a' 51 = .int .i64 0 ∧ get a' 52 = .int .i64 0 ∧ Own w' (From w2.heap.size w') 1 v9 (bodyW fs ver encs fs.length).length (octets (bodyW fs ver encs fs.length)) ∧ w'.rangeAt w.heap.size 0 [.int .i64 n, sv, .bool nl, lv, uv] ∧ Fr [] w w' ∧ w2.heap.size ≤ w'.heap.size) 0 ?_ ?_)
        · exact ⟨hz54, hd54, g54_0, g54_1, g54_2, g54_3, g54_7, g54_8, g54_9, g54_10, g54_11, g54_21, g54_22, g54_23, g54_51, g54_52, ho.upTo hL52_w12 (From.mono hL52_w12.size), rb53, hF52, Nat.le_trans hSl hL52_w12.size⟩
        · rintro m2 a55 w55 ⟨hz55, hd55, g55_0, g55_1, g55_2, g55_3, g55_7, g55_8, g55_9, g55_10, g55_11, g55_21, g55_22, g55_23, g55_51, g55_52, ho2, hbl3, hfl2, hSl2⟩
          refine wS fun K56 hK56 => ?_
          refine wC (wp_lssF (k1 := .i64) (i := 0) (j := 0) (by decide) (eK g55_52) (eK g55_51) ?_)
          refine wEn fun a57 ha57 => ?_
          have hz57 := kS ha57 hz55
          have hd57 := kD ha57 hd55
          have g57_0 := kP ha57 g55_0
          have g57_7 := kP ha57 g55_7
          have g57_9 := kP ha57 g55_9
          have g57_10 := kP ha57 g55_10
          have g57_11 := kP ha57 g55_11
          have g57_53 : get a57 53 = .bool false := kG ha57 hz55
          refine hK56 a57 w55 ?_
          refine wp_seq_k fun K58 hK58 => ?_
          refine wp_cond_split (t := false) (eK g57_53) (fun h => by cases h) (fun _ => ?_)
          refine wp_exit ?_
          show K49 a57 w55
          refine hK49 a57 w55 (tUp ?_)
          refine tId (wp_seq_k fun K60 hK60 => ?_)
          refine wS fun K61 hK61 => ?_
          refine wC (wMv (v := .slice q fs.length cap) (eK g57_0) ?_)
          refine wC (wFa (b := w.heap.size) (i := 0) (hFlT26.fld (by decide)) (eK g57_7) ?_)
          rw [show (0 + 4 : Nat) = 4 from rfl]
          refine wC (wL0 (j := 4) (v := uv) hcT24 (eS hz57) hbl3 rfl ?_)
          refine wC (wCr (R := fun x wz => Fr [] w55 wz ∧ TagsR wz (fun b => B b ∨ From w55.heap.size wz b) x (unknownW fs u)) (vs := #[.slice q fs.length cap, uv]) hUn.enters (mX2 (eS hz57) (eS hz57)) ((hUn.call w55 A B _ fs uv u (hfs.kept hfl2 (by simp) (fun _ h => h)) htg (hu.kept hfl2 (by simp) (fun _ h => h)) (fun b hb => Nat.lt_of_lt_of_le (hB b hb) hfl2.size)).mono (by rintro e wz ⟨x, rfl, h1, h2⟩; exact ⟨x, rfl, h1, h2⟩)) ?_)
          rintro x62 w62 ⟨fr62, hus62⟩
          have hus := hus62.kept (A' := fun b => b < w62.heap.size) (Fr.refl [] _) (by simp) (by rintro b (hb | hb); exact Nat.lt_of_lt_of_le (hB b hb) (Nat.le_trans hfl2.size fr62.size); exact hb.2)
          obtain ⟨qu, cu, rfl, -, hub, -⟩ := hus.sl2
          have hF63 : Fr [] w w62 := hfl2.tr fr62
          have hL63_w55 : Fr [] w55 w62 := (Fr.refl [] w55).tr fr62
          have rb64 := fr62.range hbl3 .nil
          refine wC (wp_lenS (n := (unknownW fs u).length) hsT24 (eS hz57) ?_)
          refine wC (wMv (v := .int .i64 0) rfl ?_)
          refine wEn fun a65 ha65 => ?_
          have hz65 := kS ha65 hz57
          have hd65 := kD ha65 hd57
          have g65_9 := kP ha65 g57_9
          have g65_10 := kP ha65 g57_10
          have g65_11 := kP ha65 g57_11
          have g65_100 : get a65 100 = .slice qu ((unknownW fs u).length) cu := kG ha65 hz57
          have g65_101 : get a65 101 = .int .i64 (((unknownW fs u).length : Nat) : Int) := kG ha65 hz57
          have g65_102 : get a65 102 = .int .i64 0 := kG ha65 hz57
          have ho4 := ho2.upTo hL63_w55 (From.mono hL63_w55.size)
          have hb4 : ∀ b, blk v9 = some b → b < w62.heap.size := fun b hb => (ho4.blk_lt hb).2
          have hS2 : w2.heap.size ≤ w62.heap.size := Nat.le_trans hSl2 hL63_w55.size
          refine hK61 a65 w62 ?_
          have hul : (unksW fs (.mk n s nl l u)).length = (unknownW fs u).length := by simp [unksW, T.u]
          have hlenF : (bodyW fs ver encs fs.length).length + (uvW (unksW fs (.mk n s nl l u)).length).length + ((unksW fs (.mk n s nl l u)).flatMap pairW).length ≤ 4294967296 := by rw [hfx, if_pos rfl] at hlen; simp only [List.length_append] at hlen; omega
          refine wp_block (wp_loop_ghost (fun (m3 : Nat) a' w' => ∃ (j : Nat) (v10 : Value), a'.tmps.size = 132 ∧ a'.defers = [] ∧ get a' 9 = v9 ∧ get a' 10 = v10 ∧ get a' 11 = .int .i64 (j : Int) ∧ get a' 100 = .slice qu ((unknownW fs u).length) cu ∧ get a' 101 = .int .i64 (((unknownW fs u).length : Nat) : Int) ∧ get a' 102 = .int .i64 (j : Int) ∧ j + m3 = (unknownW fs u).length ∧ Own w' (From w2.heap.size w') 1 v9 (bodyW fs ver encs fs.length).length (octets (bodyW fs ver encs fs.length)) ∧ Own w' (From w62.heap.size w') 1 v10 (((unksW fs (.mk n s nl l u)).take j).flatMap pairW).length (octets (((unksW fs (.mk n s nl l u)).take j).flatMap pairW)) ∧ TagsR w' (fun b => b < w62.heap.size) (.slice qu (unknownW fs u).length cu) (unknownW fs u) ∧ Fr [] w w' ∧ w62.heap.size ≤ w'.heap.size) ((unknownW fs u).length) ?_ ?_)
          · exact ⟨0, .slice none 0 0, hz65, hd65, g65_9, g65_10, g65_11, g65_100, g65_101, g65_102, by omega, ho4, Own.nil, hus, hF63, Nat.le_refl _⟩
          · rintro m3 a66 w66 ⟨j, v10, hz66, hd66, g66_9, g66_10, g66_11, g66_100, g66_101, g66_102, hjm6, ho9, ho10, hus6, hfl6, hSl6⟩
            refine wS fun K67 hK67 => ?_
            refine wC (wp_lss (k1 := .i64) (i := (j : Int)) (j := (((unknownW fs u).length : Nat) : Int)) (eK g66_102) (eK g66_101) ?_)
            refine wEn fun a68 ha68 => ?_
            have hz68 := kS ha68 hz66
            have hd68 := kD ha68 hd66
            have g68_9 := kP ha68 g66_9
            have g68_10 := kP ha68 g66_10
            have g68_11 := kP ha68 g66_11
            have g68_100 := kP ha68 g66_100
            have g68_101 := kP ha68 g66_101
            have g68_102 := kP ha68 g66_102
            have g68_103 : get a68 103 = .bool (decide (((j : Int) : Int) < ((((unknownW fs u).length : Nat) : Int) : Int))) := kG ha68 hz66
            refine hK67 a68 w66 ?_
            refine wp_seq_k fun K69 hK69 => ?_
            refine wp_cond_split (t := decide (((j : Int) : Int) < ((((unknownW fs u).length : Nat) : Int) : Int))) (eK g68_103) (fun hc70 => ?_) (fun hc70 => ?_)
            · have hjl : j < (unknownW fs u).length := by simpa using hc70
              obtain ⟨⟨kk, x⟩, hp⟩ : ∃ p, (unknownW fs u)[j]? = some p := ⟨(unknownW fs u)[j], by simp [hjl]⟩
              obtain ⟨qu', cu', hqe, -, -, hku⟩ := hus6.sl2
              obtain ⟨bl, ol, xv, hq, hbl7, hkk, hrl, hox⟩ := hku j kk x hp
              cases hqe
              have htk := take_pair (t := (.mk n s nl l u)) (j := j) (show (unksW fs (.mk n s nl l u))[j]? = some (kk, wholeS x) from by simp only [unksW, List.getElem?_map, T.u, hp]; rfl)
              have hpl := take_pair_le (fs := fs) (t := (.mk n s nl l u)) (j + 1)
              rw [htk, List.length_append] at hpl
              have hpw : (pairW (kk, wholeS x)).length = (uvW kk).length + ((uvW (wholeS x).length).length + (wholeS x).length) := by simp [pairW]
              refine wp_skip ?_
              refine hK69 a68 w66 ?_
              refine wp_seq_k fun K71 hK71 => ?_
              refine wp_blockT ?_
              refine wS fun K72 hK72 => ?_
              refine wC (wp_ixN (b := bl) (o := ol) (i := j) hs_T24 (by rw [eTm, g68_100, hq]) (eK g68_102) hjl ?_)
              refine wC (wp_loadFlat (cs := [.int .u32 ((kk : Nat) : Int), xv]) (b := bl) (o := ol + j * 2) hFlT60 rfl (eS hz68) ((Fr.refl [] w66).range hrl .nil) ?_)
              refine wC (wp_allocL hFlT60 ?_)
              rintro w73 f73 sz73 r73 th73
              have hF74 : Fr [] w w73 := hfl6.tr f73
              have hL74_w66 : Fr [] w66 w73 := (Fr.refl [] w66).tr f73
              refine wC (wp_storeL (cs := [.int .u32 ((kk : Nat) : Int), xv]) (o := 0) hFlT60 rfl (eS hz68) (eS hz68) (by intro u hu; simp at hu; rcases hu with rfl | rfl <;> first | rfl | exact hox.one) th73 ?_)
              rintro w75 f75 sz75 r75 th75
              have hF75 : Fr [] w w75 := hF74.trans f75 (fun r hr => .inl (by simp at hr; subst hr; have := hfl6.size; simp only; omega))
              have hL75_w66 : Fr [] w66 w75 := hL74_w66.trans f75 (fun r hr => .inl (by simp at hr; subst hr; have := (Fr.refl [] w66).size; simp only; omega))
              refine wEn fun a76 ha76 => ?_
              have hz76 := kS ha76 hz68
              have hd76 := kD ha76 hd68
              have g76_9 := kP ha76 g68_9
              have g76_10 := kP ha76 g68_10
              have g76_11 := kP ha76 g68_11
              have g76_19 : get a76 19 = .pointer (some ⟨w66.heap.size, 0, none⟩) := kG ha76 hz68
              have g76_100 := kP ha76 g68_100
              have g76_101 := kP ha76 g68_101
              have g76_102 := kP ha76 g68_102
              refine hK72 a76 w75 ?_
              refine wS fun K77 hK77 => ?_
              refine wC (wFa (b := w66.heap.size) (i := 0) (hFlT60.fld (by decide)) (eK g76_19) ?_)
              rw [show (0 + 1 : Nat) = 1 from rfl]
              refine wC (wL0 (j := 1) (v := xv) hcT22 (eS hz76) r75 rfl ?_)
              refine wC (wCr (R := fun y wz => OctE wz (fun b => b < w62.heap.size) y (wholeS x) ∧ w75 = wz) (vs := #[xv]) hWh.enters (mX1 (eS hz76)) ((hWh.call w75 _ xv x (hox.kept hL75_w66 (by simp) (fun _ h => h))).mono (by rintro e wz ⟨y, rfl, h1, rfl⟩; exact ⟨y, rfl, h1, rfl⟩)) ?_)
              rintro x78 _ ⟨hy, rfl⟩
              obtain ⟨q78, c78, rfl, -, -, -⟩ := hy.slice2
              refine wC (wAs (v := .slice q78 ((wholeS x).length) c78) (eS hz76) ?_)
              refine wEn fun a79 ha79 => ?_
              have hz79 := kS ha79 hz76
              have hd79 := kD ha79 hd76
              have g79_9 := kP ha79 g76_9
              have g79_10 := kP ha79 g76_10
              have g79_11 := kP ha79 g76_11
              have g79_19 := kP ha79 g76_19
              have g79_20 : get a79 20 = .slice q78 ((wholeS x).length) c78 := kG ha79 hz76
              have g79_100 := kP ha79 g76_100
              have g79_101 := kP ha79 g76_101
              have g79_102 := kP ha79 g76_102
              refine hK77 a79 w75 ?_
              refine wp_seq_k fun K80 hK80 => ?_
              have hoA := ho10.upTo hL75_w66 (From.mono hL75_w66.size)
              have hSA := Nat.le_trans hSl6 hL75_w66.size
              have hx9A := ho9.upTo hL75_w66 (From.mono hL75_w66.size)
              have hyA := hy.kept (Fr.refl [] w75) (by simp) (fun _ h => h)
              have husA := hus6.kept hL75_w66 (by simp) (fun _ h => h)
              refine wp_reg ?_
              refine wC (wMv (v := v10) (eK g79_10) ?_)
              refine wC (wFa (b := w66.heap.size) (i := 0) (hFlT60.fld (by decide)) (eK g79_19) ?_)
              rw [show (0 + 0 : Nat) = 0 from rfl]
              refine wC (wL0 (j := 0) (v := .int .u32 ((kk : Nat) : Int)) hcT58 (eS hz79) r75 rfl ?_)
              refine wC (wCv (k1 := .u32) (i := ((kk : Nat) : Int)) hT58_u32 hT73_u64 (eS hz79) ?_)
              rw [show (IntKind.u64.wrap (((kk : Nat) : Int) : Int)) = (((kk : Nat) : Int) : Int) from by simp only [IntKind.wrap, IntKind.bits, IntKind.signed]; simp; omega]
              refine wC (wCr (R := fun vz wz => Fr [] w75 wz ∧ Own wz (From w75.heap.size wz) 1 vz (uvW kk).length (octets (uvW kk))) (vs := #[.int .u64 ((kk : Nat) : Int)]) hUv.enters (mX1 (eS hz79)) (calls_fresh (hUv.call w75 kk (by omega))) ?_)
              rintro x81 w81 ⟨fr81, ow81⟩
              have hF82 : Fr [] w w81 := hF75.tr fr81
              have rb83 := fr81.range r75 .nil
              have hy84 := hyA.kept fr81 (by simp) (fun _ h => h)
              have hu84 := husA.kept fr81 (by simp) (fun _ h => h)
              have hx84 := hx9A.upTo fr81 (From.mono fr81.size)
              have hS84 := Nat.le_trans hSA fr81.size
              have hoo84 := hoA.upTo fr81 (From.mono fr81.size)
              rw [wCo]
              have ob85 := hoo84
              have hSl85 : w62.heap.size ≤ w81.heap.size := hS84
              refine wp_appO hs_T22 hz_T22 (eS hz79) (eS hz79) ob85 (ow81.octE (by omega)) (by omega) ?_
              rintro v85 w85 fa85 oa85 sp85 bk85
              have ho85 := oa85.imp_A (new_or hSl85 fa85.size)
              have hF85 : Fr [] w w85 := fr_own hF82 fa85 (ob85.from (s0 := w.heap.size) (by omega)) (fun b hb => hb.1)
              have hy86 := hy84.kept fa85 (A' := fun b => b < w62.heap.size) (fun r hr hb => by have := (ob85.spare_in r hr).1; omega) (fun _ h => h)
              have hu86 := hu84.kept fa85 (A' := fun b => b < w62.heap.size) (fun r hr hb => by have := (ob85.spare_in r hr).1; omega) (fun _ h => h)
              have hx86 := hx84.kept fa85 (A' := From w2.heap.size w85) (by intro r hr hb g o cap hv e; exfalso; have h1 := (ob85.spare_in r hr).1; have h2 := hb4 g (by rw [hv]; rfl); omega) (From.mono fa85.size)
              have hS86 := Nat.le_trans hS84 fa85.size
              refine wC (wMv (v := .slice q78 ((wholeS x).length) c78) (eK g79_20) ?_)
              refine wC (wp_lenS (n := (wholeS x).length) hsT22 (eS hz79) ?_)
              refine wC (wCv (k1 := .i64) (i := (((wholeS x).length : Nat) : Int)) hT3_i64 hT73_u64 (eS hz79) ?_)
              rw [show (IntKind.u64.wrap ((((wholeS x).length : Nat) : Int) : Int)) = ((((wholeS x).length : Nat) : Int) : Int) from wrap_u64n (by simp [wholeS]; omega)]
              refine wC (wCr (R := fun vz wz => Fr [] w85 wz ∧ Own wz (From w85.heap.size wz) 1 vz (uvW ((wholeS x).length)).length (octets (uvW ((wholeS x).length)))) (vs := #[.int .u64 (((wholeS x).length : Nat) : Int)]) hUv.enters (mX1 (eS hz79)) (calls_fresh (hUv.call w85 ((wholeS x).length) (by simp [wholeS]; omega))) ?_)
              rintro x87 w87 ⟨fr87, ow87⟩
              have hF88 : Fr [] w w87 := hF85.tr fr87
              have hy89 := hy86.kept fr87 (by simp) (fun _ h => h)
              have hu89 := hu86.kept fr87 (by simp) (fun _ h => h)
              have hx89 := hx86.upTo fr87 (From.mono fr87.size)
              have hS89 := Nat.le_trans hS86 fr87.size
              have hoo89 := ho85.upTo fr87 (From.mono fr87.size)
              rw [wCo]
              have ob90 := hoo89
              have hSl90 : w62.heap.size ≤ w87.heap.size := hS89
              refine wp_appO hs_T22 hz_T22 (eS hz79) (eS hz79) ob90 (ow87.octE (by omega)) (by simp only [List.length_append]; omega) ?_
              rintro v90 w90 fa90 oa90 sp90 bk90
              have ho90 := oa90.imp_A (new_or hSl90 fa90.size)
              have hF90 : Fr [] w w90 := fr_own hF88 fa90 (ob90.from (s0 := w.heap.size) (by omega)) (fun b hb => hb.1)
              have hy91 := hy89.kept fa90 (A' := fun b => b < w62.heap.size) (fun r hr hb => by have := (ob90.spare_in r hr).1; omega) (fun _ h => h)
              have hu91 := hu89.kept fa90 (A' := fun b => b < w62.heap.size) (fun r hr hb => by have := (ob90.spare_in r hr).1; omega) (fun _ h => h)
              have hx91 := hx89.kept fa90 (A' := From w2.heap.size w90) (by intro r hr hb g o cap hv e; exfalso; have h1 := (ob90.spare_in r hr).1; have h2 := hb4 g (by rw [hv]; rfl); omega) (From.mono fa90.size)
              have hS91 := Nat.le_trans hS89 fa90.size
              refine wC (wMv (v := .slice q78 ((wholeS x).length) c78) (eK g79_20) ?_)
              rw [wCo]
              have ob92 := ho90
              have hSl92 : w62.heap.size ≤ w90.heap.size := hS91
              refine wp_appO hs_T22 hz_T22 (eS hz79) (eS hz79) ob92 hy91 (by simp only [List.length_append]; omega) ?_
              rintro v92 w92 fa92 oa92 sp92 bk92
              have ho92 := oa92.imp_A (new_or hSl92 fa92.size)
              have hF92 : Fr [] w w92 := fr_own hF90 fa92 (ob92.from (s0 := w.heap.size) (by omega)) (fun b hb => hb.1)
              have hy93 := hy91.kept fa92 (A' := fun b => b < w62.heap.size) (fun r hr hb => by have := (ob92.spare_in r hr).1; omega) (fun _ h => h)
              have hu93 := hu91.kept fa92 (A' := fun b => b < w62.heap.size) (fun r hr hb => by have := (ob92.spare_in r hr).1; omega) (fun _ h => h)
              have hx93 := hx91.kept fa92 (A' := From w2.heap.size w92) (by intro r hr hb g o cap hv e; exfalso; have h1 := (ob92.spare_in r hr).1; have h2 := hb4 g (by rw [hv]; rfl); omega) (From.mono fa92.size)
              have hS93 := Nat.le_trans hS91 fa92.size
              refine wC (wAs (v := v92) (eS hz79) ?_)
              refine wEn fun a94 ha94 => ?_
              have hz94 := kS ha94 hz79
              have hd94 := kD ha94 hd79
              have g94_9 := kP ha94 g79_9
              have g94_10 : get a94 10 = v92 := kG ha94 hz79
              have g94_11 := kP ha94 g79_11
              have g94_100 := kP ha94 g79_100
              have g94_101 := kP ha94 g79_101
              have g94_102 := kP ha94 g79_102
              refine hK80 a94 w92 ?_
              refine wp_reg ?_
              refine wC (wMv (v := .int .i64 (j : Int)) (eK g94_11) ?_)
              refine wC (wp_add (k1 := .i64) (i := (j : Int)) (j := 1) (eS hz94) rfl ?_)
              rw [show (IntKind.i64.wrap (((j : Int) : Int) + (1 : Int)) : Int) = (((j + 1 : Nat) : Int) : Int) from by simp only [IntKind.wrap, IntKind.bits, IntKind.signed]; simp; omega]
              refine wC (wAs (v := .int .i64 ((j + 1 : Nat) : Int)) (eS hz94) ?_)
              refine wEn fun a95 ha95 => ?_
              have hz95 := kS ha95 hz94
              have hd95 := kD ha95 hd94
              have g95_9 := kP ha95 g94_9
              have g95_10 := kP ha95 g94_10
              have g95_11 : get a95 11 = .int .i64 ((j + 1 : Nat) : Int) := kG ha95 hz94
              have g95_100 := kP ha95 g94_100
              have g95_101 := kP ha95 g94_101
              have g95_102 := kP ha95 g94_102
              refine hK71 a95 w92 ?_
              refine wp_reg ?_
              refine wC (wp_add (k1 := .i64) (i := (j : Int)) (j := 1) (eK g95_102) rfl ?_)
              rw [show (IntKind.i64.wrap (((j : Int) : Int) + (1 : Int)) : Int) = (((j + 1 : Nat) : Int) : Int) from by simp only [IntKind.wrap, IntKind.bits, IntKind.signed]; simp; omega]
              refine wC (wMv (v := .int .i64 ((j + 1 : Nat) : Int)) (eS hz95) ?_)
              refine wEn fun a96 ha96 => ?_
              have hz96 := kS ha96 hz95
              have hd96 := kD ha96 hd95
              have g96_9 := kP ha96 g95_9
              have g96_10 := kP ha96 g95_10
              have g96_11 := kP ha96 g95_11
              have g96_100 := kP ha96 g95_100
              have g96_101 := kP ha96 g95_101
              have g96_102 : get a96 102 = .int .i64 ((j + 1 : Nat) : Int) := kG ha96 hz95
              refine ⟨m3 - 1, by omega, j + 1, _, hz96, hd96, g96_9, g96_10, g96_11, g96_100, g96_101, g96_102, by omega, hx93, ?_, hu93, hF92, hS93⟩
              rw [htk, show ((unksW fs (.mk n s nl l u)).take j).flatMap pairW ++ pairW (kk, wholeS x) = ((((unksW fs (.mk n s nl l u)).take j).flatMap pairW ++ uvW kk) ++ uvW (wholeS x).length) ++ wholeS x from by simp [pairW]]; exact ho92
            · have hj0 : j = (unknownW fs u).length := by simp at hc70; omega
              rw [hj0, ← hul, List.take_length] at ho10
              refine wp_exit ?_
              show K60 a68 w66
              refine hK60 a68 w66 (tUp ?_)
              refine tId (wp_seq_k fun K97 hK97 => ?_)
              have hx9 := ho9.upTo (Fr.refl [] w66) (From.mono (Fr.refl [] w66).size)
              have hx10 := ho10.upTo (Fr.refl [] w66) (From.mono (Fr.refl [] w66).size)
              have hSx := Nat.le_trans hSl6 (Fr.refl [] w66).size
              have hunl : (unknownW fs u).length ≤ 4294967296 := hub
              refine wp_reg ?_
              refine wC (wMv (v := v9) (eK g68_9) ?_)
              refine wC (wMv (v := .int .i64 (j : Int)) (eK g68_11) ?_)
              refine wC (wCv (k1 := .i64) (i := (j : Int)) hT3_i64 hT73_u64 (eS hz68) ?_)
              rw [show (IntKind.u64.wrap ((j : Int) : Int)) = (((unknownW fs u).length : Int) : Int) from by simp only [IntKind.wrap, IntKind.bits, IntKind.signed]; simp; omega]
              refine wC (wCr (R := fun vz wz => Fr [] w66 wz ∧ Own wz (From w66.heap.size wz) 1 vz (uvW (unksW fs (.mk n s nl l u)).length).length (octets (uvW (unksW fs (.mk n s nl l u)).length))) (vs := #[.int .u64 ((unknownW fs u).length : Int)]) hUv.enters (mX1 (eS hz68)) (calls_fresh (by rw [hul]; exact hUv.call w66 (unknownW fs u).length (by omega))) ?_)
              rintro x98 w98 ⟨fr98, ow98⟩
              have hF99 : Fr [] w w98 := hfl6.tr fr98
              have hy9 := hx9.upTo fr98 (From.mono fr98.size)
              have hy10 := hx10.upTo fr98 (From.mono fr98.size)
              have hSy := Nat.le_trans hSx fr98.size
              rw [wCo]
              have ob100 := hy9
              have hSl100 : w2.heap.size ≤ w98.heap.size := Nat.le_trans hS2 hSy
              refine wp_appO hs_T22 hz_T22 (eS hz68) (eS hz68) ob100 (ow98.octE (by omega)) (by omega) ?_
              rintro v100 w100 fa100 oa100 sp100 bk100
              have ho100 := oa100.imp_A (new_or hSl100 fa100.size)
              have hF100 : Fr [] w w100 := fr_own hF99 fa100 (ob100.from (s0 := w.heap.size) (by omega)) (fun b hb => hb.1)
              have hz10 : Own w100 (From w62.heap.size w100) 1 v10 _ _ := hy10.kept fa100 (by intro r hr hb g o cap hv e; exfalso; have h1 := hb4 r.b (spare_blk' r hr); have h2 := hb.1; omega) (From.mono fa100.size)
              have ha1 := ho100
              have hSz := Nat.le_trans (Nat.le_trans hS2 hSy) fa100.size
              refine wC (wMv (v := v10) (eK g68_10) ?_)
              rw [wCo]
              have ob101 := ha1
              have hSl101 : w2.heap.size ≤ w100.heap.size := hSz
              refine wp_appO hs_T22 hz_T22 (eS hz68) (eS hz68) ob101 (hz10.octE (by omega)) (by simp only [List.length_append]; omega) ?_
              rintro v101 w101 fa101 oa101 sp101 bk101
              have ho101 := oa101.imp_A (new_or hSl101 fa101.size)
              have hF101 : Fr [] w w101 := fr_own hF100 fa101 (ob101.from (s0 := w.heap.size) (by omega)) (fun b hb => hb.1)
              refine wC (wAs (v := v101) (eS hz68) ?_)
              refine wEn fun a102 ha102 => ?_
              have hz102 := kS ha102 hz68
              have hd102 := kD ha102 hd68
              have g102_8 : get a102 8 = v101 := kG ha102 hz68
              refine hK97 a102 w101 (tUp ?_)
              refine wp_ret ?_
              rw [hPW, hfx, if_pos rfl, ← List.append_assoc]
              exact ⟨hd102, _, rIs hres g102_8, _, rfl, hF101, ho101.from (by omega)⟩
end Go.Kq

namespace Go.Kq
open Go Go.Proofs
def fldInt (P : Program) (s : TypeId) (k : Nat) : Bool := match P.underlying s with
  | some (.struct fs) => (match fs[k]? with | some f => (match P.underlying f.type with | some (.int _) => true | _ => false) | none => false)
  | _ => false
theorem wp_fieldT {P : Program} {a : Act} {w : World} {K : Act → World → Prop} {Q : Exit → Act → World → Prop} {d : Option Tmp} {t : TypeId} {p : String} {af : Array Edge} {g : Option (Nat × Bool)} {s : TypeId} {cs : List Value} {k : Nat} {x : Operand} {v : Value} (hi : fldInt P s k = true) (ho : fieldOf P s k k = true) (hx : a.eval x = .agg cs.toArray) (hv : cs[k]? = some v)
    (kk : K (a.put d v) w) : OW P ⟨d, .field s x k, t, p, af, g⟩ a w K Q := by
  refine wp_val (v := v) (w' := w) ?_ kk
  unfold fldInt at hi
  unfold fieldOf at ho
  cases hu : P.underlying s with
  | none => simp [hu] at hi
  | some td =>
    cases td <;> simp only [hu] at hi ho <;> first | (simp at hi; done) | skip
    rename_i fs
    cases hf : fs[k]? with
    | none => simp [hf] at hi
    | some f =>
      simp only [hf] at hi ho
      cases hk : P.underlying f.type with
      | none => simp [hk] at hi
      | some tk =>
        cases tk <;> simp only [hk] at hi <;> first | (simp at hi; done) | skip
        have : f.offset = k := by simp only [Bool.and_eq_true, beq_iff_eq] at ho; exact ho.1
        simp [execOp, Instr.field, hx, run_underlying hu, hf, asAgg, part, isAgg, run_underlying hk, this, hv]
end Go.Kq

namespace Go.Kq
open Go Go.Proofs
theorem Reps.set {w : World} {A : Nat → Prop} : ∀ {tys : List Ty} {z : List Value} {xs : List V} {i : Nat} {ty : Ty} {v : Value} {x : V}, Reps w A tys z xs → tys[i]? = some ty → ty.size = 1 → Rep w A ty [v] x →
    Reps w A tys (z.set (Ty.sizes (tys.take i)) v) (xs.set i x)
  | [], z, xs, i, ty, v, x, _, hi, _, _ => by simp at hi
  | t :: ts, z, xs, i, ty, v, x, h, hi, h1, hx => by
    obtain ⟨c1, c2, y, r, rfl, rfl, h2, h3⟩ := h
    have hl := h2.length
    cases i with
    | zero =>
      simp at hi; subst hi
      rw [h1] at hl
      obtain ⟨c, rfl⟩ := List.length_eq_one_iff.1 hl
      exact ⟨[v], c2, x, r, rfl, rfl, hx, h3⟩
    | succ i =>
      have hr := Reps.set h3 (by simpa using hi) h1 hx
      refine ⟨c1, c2.set (Ty.sizes (ts.take i)) v, y, r.set i x, ?_, rfl, h2, hr⟩
      rw [List.take_succ_cons, show Ty.sizes (t :: ts.take i) = t.size + Ty.sizes (ts.take i) from rfl, ← hl, List.set_append_right _ _ (by omega)]
      congr 2; omega
theorem Reps.setLt {w : World} {A : Nat → Prop} : ∀ {tys : List Ty} {z : List Value} {xs : List V} {i : Nat} {ty : Ty}, Reps w A tys z xs → tys[i]? = some ty → ty.size = 1 → Ty.sizes (tys.take i) < z.length
  | [], z, xs, i, ty, _, hi, _ => by simp at hi
  | t :: ts, z, xs, i, ty, h, hi, h1 => by
    obtain ⟨c1, c2, y, r, rfl, rfl, h2, h3⟩ := h
    have hl := h2.length
    cases i with
    | zero => simp at hi; subst hi; simp [Ty.sizes]; omega
    | succ i =>
      have hr := Reps.setLt h3 (by simpa using hi) h1
      rw [List.take_succ_cons, show Ty.sizes (t :: ts.take i) = t.size + Ty.sizes (ts.take i) from rfl, List.length_append]; omega
theorem range_setAt {w : World} {b o i : Nat} {z : List Value} {v : Value} (hr : w.rangeAt b o z) (ht : w.there b o z.length) (hi : i < z.length) : (w.setCell ⟨b, o + i, none⟩ v).rangeAt b o (z.set i v) := by
  have f := Fr.set w b (o + i) v
  intro j u hj
  by_cases hij : i = j
  · subst hij
    rw [List.getElem?_set_self hi] at hj
    simp at hj; subst hj
    exact range_set (there_part ht (by omega) (by omega))
  · rw [List.getElem?_set_ne hij] at hj
    exact f.cell (hr j u hj) (.cons (.inr (by simp only; omega)) .nil)
end Go.Kq

namespace Go.Kq
open Go Go.Proofs
def oneF (fd : Fd) : Fd := .mk fd.of fd.fr fd.to (-1) (-1) fd.df fd.of fd.sub
section
variable {P : Program} {a : Act} {w : World} {K : Act → World → Prop} {Q : Exit → Act → World → Prop} {d : Option Tmp} {t : TypeId} {p : String} {af : Array Edge} {g : Option (Nat × Bool)}
theorem wp_storeK {s : TypeId} {x y : Operand} {b i : Nat} {z : List Value} {v : Value} (hs : scal P s = true) (hx : a.eval x = .pointer (some ⟨b, i, none⟩)) (hy : a.eval y = v) (h1 : v.oneCell' = true) (hi : i < z.length)
    (hr : w.rangeAt b 0 z) (ht : w.there b 0 z.length) (k : ∀ w', Fr [⟨b, 0, z.length⟩] w w' → w'.heap.size = w.heap.size → w'.rangeAt b 0 (z.set i v) → w'.there b 0 z.length → K (a.put d undef) w') : OW P ⟨d, .store s x y, t, p, af, g⟩ a w K Q := by
  have f := Fr.set w b i v
  have h2 := range_setAt (v := v) hr ht hi
  rw [Nat.zero_add] at h2
  refine wp_store hs hx hy h1 (there_part ht (by omega) (by omega)) (k _ ?_ (by simp [World.setCell]) h2 (f.there ht))
  exact f.mono (by intro r hr; simp at hr; subst hr; exact .inr ⟨⟨b, 0, z.length⟩, by simp, rfl, Nat.zero_le _, by simp only; omega⟩)
end
end Go.Kq

namespace Go.Kq
open Go Go.Proofs
def zM : List Value := [.slice none 0 0, .int .i64 0]
mutual
/-- No field, and none within, has a tag of its own. -/
def Fd.free : Fd → Bool | .mk _ _ _ _ tag _ _ sub => decide (tag < 0) && freeAll sub
def freeAll : List Fd → Bool
  | [] => true
  | f :: fs => f.free && freeAll fs
end
theorem freeAll_mem : ∀ {fs : List Fd}, freeAll fs = true → ∀ f ∈ fs, f.free = true
  | [], _, _, h => by simp at h
  | g :: fs, h, f, hf => by
    rw [freeAll, Bool.and_eq_true] at h
    rcases List.mem_cons.1 hf with rfl | hf
    · exact h.1
    · exact freeAll_mem h.2 f hf
theorem free_tag {f : Fd} (h : f.free = true) : f.tag < 0 ∧ freeAll f.sub = true := by
  cases f with
  | mk kind fr to nul tag df of sub => rw [Fd.free, Bool.and_eq_true] at h; exact ⟨of_decide_eq_true h.1, h.2⟩
theorem FieldM.congr {P : Program} {f : FuncId} {fd : Fd} {e1 e2 : Int → Bool → T → List UInt8} (h : FieldM P f fd e1) (he : ∀ ver flex t, e1 ver flex t = e2 ver flex t) : FieldM P f fd e2 := by
  have : e1 = e2 := by funext a b c; exact he a b c
  rw [← this]; exact h
mutual
/-- Every part is written as the reference writes it: the functions call one another. -/
theorem parts_all {P : Program} {fp fv ff : FuncId} (hp : ∀ fs : List Fd, (∀ f ∈ fs, f.tag < 0) → (∀ fd ∈ fs, FieldM P ff fd (fieldW fd)) → PartM P fp fs (partW fs))
    (hv : ∀ (fs : List Fd) (sub : Int → Bool → T → List UInt8), PartM P fp fs sub → ValueM P fv fs sub)
    (hf : ∀ (fd : Fd) (sub : Int → Bool → T → List UInt8), ValueM P fv fd.sub sub → PartM P fp fd.sub sub → FieldM P ff fd (fun ver flex t => fieldV fd.kind fd.nul fd.of (sub ver flex) ver flex t)) :
    ∀ fs : List Fd, freeAll fs = true → ∀ fd ∈ fs, FieldM P ff fd (fieldW fd)
  | [], _, _, h => by simp at h
  | g :: fs, h, fd, hm => by
    rw [freeAll, Bool.and_eq_true] at h
    rcases List.mem_cons.1 hm with e | hm
    · rw [e]; exact field_all hp hv hf g h.1
    · exact parts_all hp hv hf fs h.2 fd hm
theorem field_all {P : Program} {fp fv ff : FuncId} (hp : ∀ fs : List Fd, (∀ f ∈ fs, f.tag < 0) → (∀ fd ∈ fs, FieldM P ff fd (fieldW fd)) → PartM P fp fs (partW fs))
    (hv : ∀ (fs : List Fd) (sub : Int → Bool → T → List UInt8), PartM P fp fs sub → ValueM P fv fs sub)
    (hf : ∀ (fd : Fd) (sub : Int → Bool → T → List UInt8), ValueM P fv fd.sub sub → PartM P fp fd.sub sub → FieldM P ff fd (fun ver flex t => fieldV fd.kind fd.nul fd.of (sub ver flex) ver flex t)) :
    ∀ fd : Fd, fd.free = true → FieldM P ff fd (fieldW fd)
  | .mk kind fr to nul tag df of sub, h => by
    have h1 := (free_tag h).2
    have hP : PartM P fp sub (partW sub) := hp sub (fun f hf => (free_tag (freeAll_mem h1 f hf)).1) (parts_all hp hv hf sub h1)
    exact (hf (.mk kind fr to nul tag df of sub) (partW sub) (hv sub _ hP) hP).congr fun ver flex t => (fieldW_eq _ ver flex t).symm
end
structure WriteM (P : Program) (f : FuncId) (fs : List Fd) (enc : Int → Bool → T → List UInt8) : Prop where
  enters : Enters P f
  call : ∀ (w : World) (A B : Nat → Prop) (ver fx : Int) (fsv : Value) (ct : List Value) (t : T), FdsR w A fsv fs → RepT w B ct t → (∀ b, A b → b < w.heap.size) → (∀ b, B b → b < w.heap.size) → (enc ver (decide (fx ≥ 0) && decide (ver ≥ fx)) t).length ≤ 4294967296 →
    Calls P f #[.agg ([fsv, .int .i64 fx] : List Value).toArray, .int .i64 ver, .agg ct.toArray] w (Fresh w (enc ver (decide (fx ≥ 0) && decide (ver ≥ fx)) t))
inductive RepFL (w : World) (A : Nat → Prop) : List (List Value) → List Fd → Prop where
  | nil : RepFL w A [] []
  | cons {c : List Value} {f : Fd} {cs : List (List Value)} {fs : List Fd} (h : RepF w A c f) (t : RepFL w A cs fs) : RepFL w A (c :: cs) (f :: fs)
theorem RepFL.len {w : World} {A : Nat → Prop} {cs : List (List Value)} {fs : List Fd} (h : RepFL w A cs fs) : cs.length = fs.length := by
  induction h with
  | nil => rfl
  | cons _ _ ih => simp [ih]
theorem RepFL.kept {w w' : World} {A A' : Nat → Prop} {cs : List (List Value)} {fs : List Fd} (h : RepFL w A cs fs) (f : Fr [] w w') (hA : ∀ b, A b → A' b) : RepFL w' A' cs fs := by
  induction h with
  | nil => exact .nil
  | cons h _ ih => exact .cons (h.kept f (by simp) hA) ih
theorem RepFL.at {w : World} {A : Nat → Prop} {cs : List (List Value)} {fs : List Fd} (h : RepFL w A cs fs) : ∀ {b o : Nat}, w.rangeAt b o cs.flatten → ∀ (i : Nat) (f : Fd), fs[i]? = some f → w.rangeAt b (o + i * 8) (cs.getD i []) ∧ RepF w A (cs.getD i []) f := by
  induction h with
  | nil => intro b o _ i f hi; simp at hi
  | @cons c g cs fs hc _ ih =>
    intro b o hr i f hi
    rw [List.flatten_cons, range_append, hc.length] at hr
    cases i with
    | zero => simp at hi; subst hi; exact ⟨by simpa using hr.1, hc⟩
    | succ i =>
      have := ih hr.2 i f (by simpa using hi)
      rw [show o + 8 + i * 8 = o + (i + 1) * 8 from by omega] at this
      simpa using this
theorem FdsR.laid {w : World} {A : Nat → Prop} {cs : List (List Value)} {fs : List Fd} {b : Nat} (h : RepFL w A cs fs) (hr : w.rangeAt b 0 cs.flatten) (hb : A b) (hl : fs.length ≤ 4294967296) : FdsR w A (.slice (some ⟨b, 0, none⟩) fs.length fs.length) fs :=
  .inr ⟨b, 0, fs.length, hb, rfl, ⟨Nat.le_refl _, hl⟩, fun i => cs.getD i [], fun i f hi => (h.at hr i f hi).1, fun i f hi => (h.at hr i f hi).2⟩
theorem wp_fields {P : Program} {a : Act} {w : World} {K : Act → World → Prop} {Q : Exit → Act → World → Prop} {d : Option Tmp} {t : TypeId} {p : String} {af : Array Edge} {g : Option (Nat × Bool)} {T e bs n s0 : Nat} {A : Nat → Prop} {xs : List Operand} {css : List (List Value)} {fs : List Fd}
    (hT : sliceOf P T e 8 bs = true) (hx : xs.map a.eval = css.map fun c => .agg c.toArray) (h : RepFL w A css fs) (hn : n = fs.length) (hn0 : 0 < n) (hn1 : n ≤ 2000000) (hA : ∀ b, A b → s0 ≤ b ∧ b < w.heap.size) (hs : s0 ≤ w.heap.size)
    (k : ∀ w' v, Fr [] w w' → FdsR w' (From s0 w') v fs → K (a.put d v) w') :
    OW P ⟨d, .buildSlice T n ((xs.zipIdx 0).map fun x => (x.2, x.1)).toArray, t, p, af, g⟩ a w K Q := by
  have hl := h.len
  have hr := range_new w css.flatten.toArray e (0, 0)
  have hl8 : ∀ (cs : List (List Value)) (fs : List Fd), RepFL w A cs fs → ∀ c ∈ cs, c.length = 8 := by
    intro cs fs h
    induction h with
    | nil => simp
    | cons h _ ih => intro c hc; rcases List.mem_cons.1 hc with rfl | hc
                     · exact h.length
                     · exact ih c hc
  refine wp_sliceL (css := css) hT (by omega) hn0 (by omega) (by rw [hx]; simp only [List.map_map]; congr 1) (hl8 _ _ h) (k _ _ (Fr.alloc _ _ _) ?_)
  have hf := Fr.alloc [] w (.cells css.flatten.toArray e)
  have hsz := size_alloc w (.cells css.flatten.toArray e)
  rw [hn]
  exact FdsR.laid (h.kept hf fun b hb => ⟨(hA b hb).1, by have := (hA b hb).2; omega⟩) (by simpa using hr) ⟨hs, by omega⟩ (by omega)
theorem wp_buildC {P : Program} {a : Act} {w : World} {K : Act → World → Prop} {Q : Exit → Act → World → Prop} {d : Option Tmp} {t : TypeId} {p : String} {af : Array Edge} {g : Option (Nat × Bool)} {s : TypeId} {z cs : List Value} {ps : List (Nat × Operand)} {vs : List (Nat × Value)} (h : Flat P s z) (hv : ps.map (fun p => (p.1, a.eval p.2)) = vs) (h1 : ∀ p ∈ vs, p.1 < z.length ∧ p.2.oneCell' = true) (hc : laid z vs = cs)
    (k : K (a.put d (.agg cs.toArray)) w) : OW P ⟨d, .build s ps.toArray, t, p, af, g⟩ a w K Q := wp_buildL h hv h1 (by rw [hc]; exact k)
structure SubM (P : Program) (f : FuncId) (fs : List Fd) : Prop where
  enters : Enters P f
  call : ∀ (w : World), Calls P f #[] w fun e w' => ∃ v, e = .returned v ∧ Fr [] w w' ∧ FdsR w' (From w.heap.size w') v fs
structure SchM (P : Program) (f : FuncId) (fs : List Fd) (fx : Int) : Prop where
  enters : Enters P f
  call : ∀ (w : World), Calls P f #[] w fun e w' => ∃ v, e = .returned (.agg ([v, .int .i64 fx] : List Value).toArray) ∧ Fr [] w w' ∧ FdsR w' (From w.heap.size w') v fs
theorem write_m {P : Program} {f : FuncId} {fn : Func} {T3 T26 T29 T31 : TypeId} {f26 : FuncId} {a0 : Array TypeId} {i0 i1 : Nat} {t0 t1 t2 t3 t4 t5 t6 t7 t8 t9 t10 t11 t12 t13 t14 t15 t16 t17 : TypeId} {p0 p1 p2 p3 p4 p5 p6 p7 p8 p9 p10 p11 p12 p13 p14 p15 p16 p17 : String} {e0 e1 e2 e3 e4 e5 e6 e7 e8 e9 e10 e11 e12 e13 e14 e15 e16 e17 : Array Edge} {fs : List Fd} {enc : Int → Bool → T → List UInt8}
    (hf : P.funcs[f]? = some fn) (hname : (fn.name == "runtime.NumGoroutine") = false) (hres : fn.results = #[.tmp 6]) (hN : fn.ntmps = 21)
    (hbody : fn.body = some (.seq (Code.region i0 ⟨[⟨some 3, .box T31 (.tmp 0), t0, p0, e0, none⟩,
    ⟨some 5, .box T26 (.tmp 2), t1, p1, e1, none⟩,
    ⟨some 6, .assign (.const (.slice none 0 0)), t2, p2, e2, none⟩]⟩ false)
  (.seq (Code.region i1 ⟨[⟨some 7, .fieldAddr T31 (.tmp 3) 0, t3, p3, e3, none⟩,
    ⟨some 8, .load T29 (.tmp 7), t4, p4, e4, none⟩,
    ⟨some 9, .move (.tmp 1), t5, p5, e5, none⟩,
    ⟨some 10, .fieldAddr T31 (.tmp 3) 1, t6, p6, e6, none⟩,
    ⟨some 11, .load T3 (.tmp 10), t7, p7, e7, none⟩,
    ⟨some 12, .binOp .geq T3 (.tmp 11) (.const (.int .i64 0)) T3, t8, p8, e8, none⟩,
    ⟨some 13, .move (.tmp 12), t9, p9, e9, none⟩,
    ⟨some 14, .move (.tmp 1), t10, p10, e10, some (6, true)⟩,
    ⟨some 15, .fieldAddr T31 (.tmp 3) 1, t11, p11, e11, some (6, true)⟩,
    ⟨some 16, .load T3 (.tmp 15), t12, p12, e12, some (6, true)⟩,
    ⟨some 17, .binOp .geq T3 (.tmp 14) (.tmp 16) T3, t13, p13, e13, some (6, true)⟩,
    ⟨some 18, .pick (.tmp 13) (.tmp 17) (.const (.bool false)), t14, p14, e14, none⟩,
    ⟨some 19, .load T26 (.tmp 5), t15, p15, e15, none⟩,
    ⟨some 20, .call ⟨.value (.func f26), #[(.tmp 8), (.tmp 9), (.tmp 18), (.tmp 19)], a0⟩, t16, p16, e16, none⟩,
    ⟨some 6, .assign (.tmp 20), t17, p17, e17, none⟩]⟩ false)
  .ret)))
    (hFlT31 : Flat P T31 zM) (hcT29 : scal P T29 = true) (hcT3 : scal P T3 = true) (hFlT26 : Flat P T26 zT) (hPa : PartM P f26 fs enc) : WriteM P f fs enc := by
  refine ⟨enters_of hf hname hbody, ?_⟩
  intro w A B ver fx fsv ct t hfs ht hA hB hlen
  cases t with
  | mk n s nl l u =>
  have ht0 := ht
  obtain ⟨sv, lv, uv, rfl, hn, hs, hl, hu⟩ := repT_iff.1 ht
  by_cases h1 : fx ≥ 0; by_cases h2 : ver ≥ fx
  · have hfl : (decide (fx ≥ 0) && decide (ver ≥ fx)) = true := by simp [h1, h2]
    rw [hfl] at hlen ⊢
    refine calls_of_wp hf hbody ?_
    generalize ha0 : ({ tmps := #[Value.agg ([fsv, .int .i64 fx] : List Value).toArray, Value.int .i64 ver, Value.agg ([.int .i64 n, sv, .bool nl, lv, uv] : List Value).toArray] ++ Array.replicate (fn.ntmps - (#[Value.agg ([fsv, .int .i64 fx] : List Value).toArray, Value.int .i64 ver, Value.agg ([.int .i64 n, sv, .bool nl, lv, uv] : List Value).toArray] : Array Value).size) undef, defers := [] } : Act) = a0
    have hz0 : a0.tmps.size = 21 := by subst ha0; simp [hN]
    have hd0 : a0.defers = [] := by subst ha0; rfl
    have g0_0 : get a0 0 = .agg ([fsv, .int .i64 fx] : List Value).toArray := by subst ha0; exact gAr rfl
    have g0_1 : get a0 1 = .int .i64 ver := by subst ha0; exact gAr rfl
    have g0_2 : get a0 2 = .agg ([.int .i64 n, sv, .bool nl, lv, uv] : List Value).toArray := by subst ha0; exact gAr rfl
    refine wT fun K1 hK1 => ?_
    refine wC (wp_boxL (cs := [fsv, .int .i64 fx]) (eK g0_0) ?_)
    rintro w2 f2 sz2 r2 th2
    have hF3 : Fr [] w w2 := f2
    refine wC (wp_boxL (cs := [.int .i64 n, sv, .bool nl, lv, uv]) (eK g0_2) ?_)
    rintro w4 f4 sz4 r4 th4
    have hF5 : Fr [] w w4 := hF3.tr f4
    have rb6 := f4.range r2 .nil
    refine wC (wAs (v := .slice none 0 0) rfl ?_)
    refine wEn fun a7 ha7 => ?_
    have hz7 := kS ha7 hz0
    have hd7 := kD ha7 hd0
    have g7_1 := kP ha7 g0_1
    have g7_3 : get a7 3 = .pointer (some ⟨w.heap.size, 0, none⟩) := kG ha7 hz0
    have g7_5 : get a7 5 = .pointer (some ⟨w2.heap.size, 0, none⟩) := kG ha7 hz0
    refine hK1 a7 w4 (tUp ?_)
    refine tId (wp_seq_k fun K8 hK8 => ?_)
    refine wp_regG ?_
    refine gCn ?_
    refine wFa (b := w.heap.size) (i := 0) (hFlT31.fld (by decide)) (eK g7_3) ?_
    rw [show (0 + 0 : Nat) = 0 from rfl]
    refine gCn ?_
    refine wL0 (j := 0) (v := fsv) hcT29 (eS hz7) rb6 rfl ?_
    refine gCn ?_
    refine wMv (v := .int .i64 ver) (eK g7_1) ?_
    refine gCn ?_
    refine wFa (b := w.heap.size) (i := 0) (hFlT31.fld (by decide)) (eK g7_3) ?_
    rw [show (0 + 1 : Nat) = 1 from rfl]
    refine gCn ?_
    refine wL0 (j := 1) (v := .int .i64 fx) hcT3 (eS hz7) rb6 rfl ?_
    refine gCn ?_
    refine wp_geqT (k1 := .i64) (i := fx) (j := 0) h1 (eS hz7) rfl ?_
    refine gCn ?_
    refine wMv (v := .bool true) (eS hz7) ?_
    refine wg_yes (dj := 13) rfl (lZ hz7) (gS hz7) ?_
    refine wMv (v := .int .i64 ver) (eK g7_1) ?_
    refine wg_yes (dj := 13) rfl (lZ hz7) (gS hz7) ?_
    refine wFa (b := w.heap.size) (i := 0) (hFlT31.fld (by decide)) (eK g7_3) ?_
    rw [show (0 + 1 : Nat) = 1 from rfl]
    refine wg_yes (dj := 13) rfl (lZ hz7) (gS hz7) ?_
    refine wL0 (j := 1) (v := .int .i64 fx) hcT3 (eS hz7) rb6 rfl ?_
    refine wg_yes (dj := 13) rfl (lZ hz7) (gS hz7) ?_
    refine wp_geqT (k1 := .i64) (i := ver) (j := fx) h2 (eS hz7) (eS hz7) ?_
    refine gCn ?_
    refine wp_pickYes (v := .bool true) (eS hz7) (eS hz7) ?_
    refine gCn ?_
    refine wp_loadFlat (cs := [.int .i64 n, sv, .bool nl, lv, uv]) (b := w2.heap.size) (o := 0) hFlT26 rfl (eK g7_5) r4 ?_
    refine gCn ?_
    refine wCr (R := fun vz wz => Fr [] w4 wz ∧ Own wz (From w4.heap.size wz) 1 vz (enc ver true (.mk n s nl l u)).length (octets (enc ver true (.mk n s nl l u)))) (vs := #[fsv, .int .i64 ver, .bool true, .agg ([.int .i64 n, sv, .bool nl, lv, uv] : List Value).toArray]) hPa.enters (mX4 (eS hz7) (eS hz7) (eS hz7) (eS hz7)) (calls_fresh (hPa.call w4 A B fsv ver true _ (.mk n s nl l u) (hfs.kept hF5 (by simp) (fun _ h => h)) (ht0.kept hF5 (by simp) (fun _ h => h)) (fun b hb => Nat.lt_of_lt_of_le (hA b hb) hF5.size) (fun b hb => Nat.lt_of_lt_of_le (hB b hb) hF5.size) hlen)) ?_
    rintro x9 w9 ⟨fr9, ow9⟩
    have hF10 : Fr [] w w9 := hF5.tr fr9
    have rb11 := fr9.range rb6 .nil
    have rb12 := fr9.range r4 .nil
    refine gCn ?_
    refine wAs (v := x9) (eS hz7) ?_
    refine wg_end fun a13 ha13 => ?_
    have hz13 := kS ha13 hz7
    have hd13 := kD ha13 hd7
    have g13_6 : get a13 6 = x9 := kG ha13 hz7
    refine hK8 a13 w9 (tUp ?_)
    refine wp_ret ?_
    exact ⟨hd13, _, rIs hres g13_6, _, rfl, hF10, ow9.from (by have := hF5.size; omega)⟩
  · have hfl : (decide (fx ≥ 0) && decide (ver ≥ fx)) = false := by simp [h1, h2]
    rw [hfl] at hlen ⊢
    refine calls_of_wp hf hbody ?_
    generalize ha0 : ({ tmps := #[Value.agg ([fsv, .int .i64 fx] : List Value).toArray, Value.int .i64 ver, Value.agg ([.int .i64 n, sv, .bool nl, lv, uv] : List Value).toArray] ++ Array.replicate (fn.ntmps - (#[Value.agg ([fsv, .int .i64 fx] : List Value).toArray, Value.int .i64 ver, Value.agg ([.int .i64 n, sv, .bool nl, lv, uv] : List Value).toArray] : Array Value).size) undef, defers := [] } : Act) = a0
    have hz0 : a0.tmps.size = 21 := by subst ha0; simp [hN]
    have hd0 : a0.defers = [] := by subst ha0; rfl
    have g0_0 : get a0 0 = .agg ([fsv, .int .i64 fx] : List Value).toArray := by subst ha0; exact gAr rfl
    have g0_1 : get a0 1 = .int .i64 ver := by subst ha0; exact gAr rfl
    have g0_2 : get a0 2 = .agg ([.int .i64 n, sv, .bool nl, lv, uv] : List Value).toArray := by subst ha0; exact gAr rfl
    refine wT fun K1 hK1 => ?_
    refine wC (wp_boxL (cs := [fsv, .int .i64 fx]) (eK g0_0) ?_)
    rintro w2 f2 sz2 r2 th2
    have hF3 : Fr [] w w2 := f2
    refine wC (wp_boxL (cs := [.int .i64 n, sv, .bool nl, lv, uv]) (eK g0_2) ?_)
    rintro w4 f4 sz4 r4 th4
    have hF5 : Fr [] w w4 := hF3.tr f4
    have rb6 := f4.range r2 .nil
    refine wC (wAs (v := .slice none 0 0) rfl ?_)
    refine wEn fun a7 ha7 => ?_
    have hz7 := kS ha7 hz0
    have hd7 := kD ha7 hd0
    have g7_1 := kP ha7 g0_1
    have g7_3 : get a7 3 = .pointer (some ⟨w.heap.size, 0, none⟩) := kG ha7 hz0
    have g7_5 : get a7 5 = .pointer (some ⟨w2.heap.size, 0, none⟩) := kG ha7 hz0
    refine hK1 a7 w4 (tUp ?_)
    refine tId (wp_seq_k fun K8 hK8 => ?_)
    refine wp_regG ?_
    refine gCn ?_
    refine wFa (b := w.heap.size) (i := 0) (hFlT31.fld (by decide)) (eK g7_3) ?_
    rw [show (0 + 0 : Nat) = 0 from rfl]
    refine gCn ?_
    refine wL0 (j := 0) (v := fsv) hcT29 (eS hz7) rb6 rfl ?_
    refine gCn ?_
    refine wMv (v := .int .i64 ver) (eK g7_1) ?_
    refine gCn ?_
    refine wFa (b := w.heap.size) (i := 0) (hFlT31.fld (by decide)) (eK g7_3) ?_
    rw [show (0 + 1 : Nat) = 1 from rfl]
    refine gCn ?_
    refine wL0 (j := 1) (v := .int .i64 fx) hcT3 (eS hz7) rb6 rfl ?_
    refine gCn ?_
    refine wp_geqT (k1 := .i64) (i := fx) (j := 0) h1 (eS hz7) rfl ?_
    refine gCn ?_
    refine wMv (v := .bool true) (eS hz7) ?_
    refine wg_yes (dj := 13) rfl (lZ hz7) (gS hz7) ?_
    refine wMv (v := .int .i64 ver) (eK g7_1) ?_
    refine wg_yes (dj := 13) rfl (lZ hz7) (gS hz7) ?_
    refine wFa (b := w.heap.size) (i := 0) (hFlT31.fld (by decide)) (eK g7_3) ?_
    rw [show (0 + 1 : Nat) = 1 from rfl]
    refine wg_yes (dj := 13) rfl (lZ hz7) (gS hz7) ?_
    refine wL0 (j := 1) (v := .int .i64 fx) hcT3 (eS hz7) rb6 rfl ?_
    refine wg_yes (dj := 13) rfl (lZ hz7) (gS hz7) ?_
    refine wp_geqF (k1 := .i64) (i := ver) (j := fx) h2 (eS hz7) (eS hz7) ?_
    refine gCn ?_
    refine wp_pickYes (v := .bool false) (eS hz7) (eS hz7) ?_
    refine gCn ?_
    refine wp_loadFlat (cs := [.int .i64 n, sv, .bool nl, lv, uv]) (b := w2.heap.size) (o := 0) hFlT26 rfl (eK g7_5) r4 ?_
    refine gCn ?_
    refine wCr (R := fun vz wz => Fr [] w4 wz ∧ Own wz (From w4.heap.size wz) 1 vz (enc ver false (.mk n s nl l u)).length (octets (enc ver false (.mk n s nl l u)))) (vs := #[fsv, .int .i64 ver, .bool false, .agg ([.int .i64 n, sv, .bool nl, lv, uv] : List Value).toArray]) hPa.enters (mX4 (eS hz7) (eS hz7) (eS hz7) (eS hz7)) (calls_fresh (hPa.call w4 A B fsv ver false _ (.mk n s nl l u) (hfs.kept hF5 (by simp) (fun _ h => h)) (ht0.kept hF5 (by simp) (fun _ h => h)) (fun b hb => Nat.lt_of_lt_of_le (hA b hb) hF5.size) (fun b hb => Nat.lt_of_lt_of_le (hB b hb) hF5.size) hlen)) ?_
    rintro x9 w9 ⟨fr9, ow9⟩
    have hF10 : Fr [] w w9 := hF5.tr fr9
    have rb11 := fr9.range rb6 .nil
    have rb12 := fr9.range r4 .nil
    refine gCn ?_
    refine wAs (v := x9) (eS hz7) ?_
    refine wg_end fun a13 ha13 => ?_
    have hz13 := kS ha13 hz7
    have hd13 := kD ha13 hd7
    have g13_6 : get a13 6 = x9 := kG ha13 hz7
    refine hK8 a13 w9 (tUp ?_)
    refine wp_ret ?_
    exact ⟨hd13, _, rIs hres g13_6, _, rfl, hF10, ow9.from (by have := hF5.size; omega)⟩
  · have hfl : (decide (fx ≥ 0) && decide (ver ≥ fx)) = false := by simp [h1]
    rw [hfl] at hlen ⊢
    refine calls_of_wp hf hbody ?_
    generalize ha0 : ({ tmps := #[Value.agg ([fsv, .int .i64 fx] : List Value).toArray, Value.int .i64 ver, Value.agg ([.int .i64 n, sv, .bool nl, lv, uv] : List Value).toArray] ++ Array.replicate (fn.ntmps - (#[Value.agg ([fsv, .int .i64 fx] : List Value).toArray, Value.int .i64 ver, Value.agg ([.int .i64 n, sv, .bool nl, lv, uv] : List Value).toArray] : Array Value).size) undef, defers := [] } : Act) = a0
    have hz0 : a0.tmps.size = 21 := by subst ha0; simp [hN]
    have hd0 : a0.defers = [] := by subst ha0; rfl
    have g0_0 : get a0 0 = .agg ([fsv, .int .i64 fx] : List Value).toArray := by subst ha0; exact gAr rfl
    have g0_1 : get a0 1 = .int .i64 ver := by subst ha0; exact gAr rfl
    have g0_2 : get a0 2 = .agg ([.int .i64 n, sv, .bool nl, lv, uv] : List Value).toArray := by subst ha0; exact gAr rfl
    refine wT fun K1 hK1 => ?_
    refine wC (wp_boxL (cs := [fsv, .int .i64 fx]) (eK g0_0) ?_)
    rintro w2 f2 sz2 r2 th2
    have hF3 : Fr [] w w2 := f2
    refine wC (wp_boxL (cs := [.int .i64 n, sv, .bool nl, lv, uv]) (eK g0_2) ?_)
    rintro w4 f4 sz4 r4 th4
    have hF5 : Fr [] w w4 := hF3.tr f4
    have rb6 := f4.range r2 .nil
    refine wC (wAs (v := .slice none 0 0) rfl ?_)
    refine wEn fun a7 ha7 => ?_
    have hz7 := kS ha7 hz0
    have hd7 := kD ha7 hd0
    have g7_1 := kP ha7 g0_1
    have g7_3 : get a7 3 = .pointer (some ⟨w.heap.size, 0, none⟩) := kG ha7 hz0
    have g7_5 : get a7 5 = .pointer (some ⟨w2.heap.size, 0, none⟩) := kG ha7 hz0
    refine hK1 a7 w4 (tUp ?_)
    refine tId (wp_seq_k fun K8 hK8 => ?_)
    refine wp_regG ?_
    refine gCn ?_
    refine wFa (b := w.heap.size) (i := 0) (hFlT31.fld (by decide)) (eK g7_3) ?_
    rw [show (0 + 0 : Nat) = 0 from rfl]
    refine gCn ?_
    refine wL0 (j := 0) (v := fsv) hcT29 (eS hz7) rb6 rfl ?_
    refine gCn ?_
    refine wMv (v := .int .i64 ver) (eK g7_1) ?_
    refine gCn ?_
    refine wFa (b := w.heap.size) (i := 0) (hFlT31.fld (by decide)) (eK g7_3) ?_
    rw [show (0 + 1 : Nat) = 1 from rfl]
    refine gCn ?_
    refine wL0 (j := 1) (v := .int .i64 fx) hcT3 (eS hz7) rb6 rfl ?_
    refine gCn ?_
    refine wp_geqF (k1 := .i64) (i := fx) (j := 0) h1 (eS hz7) rfl ?_
    refine gCn ?_
    refine wMv (v := .bool false) (eS hz7) ?_
    refine wg_noT (dj := 13) rfl (lZ hz7) (gS hz7) ?_
    refine wg_noT (dj := 13) rfl (lZ hz7) (gS hz7) ?_
    refine wg_noT (dj := 13) rfl (lZ hz7) (gS hz7) ?_
    refine wg_noT (dj := 13) rfl (lZ hz7) (gS hz7) ?_
    refine gCn ?_
    refine wp_pickNo (v := .bool false) (eS hz7) rfl ?_
    refine gCn ?_
    refine wp_loadFlat (cs := [.int .i64 n, sv, .bool nl, lv, uv]) (b := w2.heap.size) (o := 0) hFlT26 rfl (eK g7_5) r4 ?_
    refine gCn ?_
    refine wCr (R := fun vz wz => Fr [] w4 wz ∧ Own wz (From w4.heap.size wz) 1 vz (enc ver false (.mk n s nl l u)).length (octets (enc ver false (.mk n s nl l u)))) (vs := #[fsv, .int .i64 ver, .bool false, .agg ([.int .i64 n, sv, .bool nl, lv, uv] : List Value).toArray]) hPa.enters (mX4 (eS hz7) (eS hz7) (eS hz7) (eS hz7)) (calls_fresh (hPa.call w4 A B fsv ver false _ (.mk n s nl l u) (hfs.kept hF5 (by simp) (fun _ h => h)) (ht0.kept hF5 (by simp) (fun _ h => h)) (fun b hb => Nat.lt_of_lt_of_le (hA b hb) hF5.size) (fun b hb => Nat.lt_of_lt_of_le (hB b hb) hF5.size) hlen)) ?_
    rintro x9 w9 ⟨fr9, ow9⟩
    have hF10 : Fr [] w w9 := hF5.tr fr9
    have rb11 := fr9.range rb6 .nil
    have rb12 := fr9.range r4 .nil
    refine gCn ?_
    refine wAs (v := x9) (eS hz7) ?_
    refine wg_end fun a13 ha13 => ?_
    have hz13 := kS ha13 hz7
    have hd13 := kD ha13 hd7
    have g13_6 : get a13 6 = x9 := kG ha13 hz7
    refine hK8 a13 w9 (tUp ?_)
    refine wp_ret ?_
    exact ⟨hd13, _, rIs hres g13_6, _, rfl, hF10, ow9.from (by have := hF5.size; omega)⟩
end Go.Kq
