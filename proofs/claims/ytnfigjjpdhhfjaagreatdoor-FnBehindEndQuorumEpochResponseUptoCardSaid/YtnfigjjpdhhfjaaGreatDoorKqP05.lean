/- A part of the library: rules of reasoning about the program's operations and what its shared functions do. -/
import Derived.Test.YtnfigjjpdhhfjaaGreatDoorKqP04
import Derived.Test.YtnfigjjpdhhfjaaGreatDoorKqP03
import Derived.Test.YtnfigjjpdhhfjaaGreatDoorKqP02
import Derived.Test.YtnfigjjpdhhfjaaGreatDoorKqP01
import Derived.Laws.IdiomCopy
import Derived.Below
import Derived.ChangeSame
import Derived.ChangeSlices
import Derived.ChangeArms
import Derived.LaidLaws
import Derived.OpenShut
import Derived.WideKeyArgs
import Derived.WalkKit
import Derived.ProofKit
set_option linter.unusedVariables false
set_option linter.unusedSimpArgs false
namespace Go.Kq
open Go Go.Proofs
structure UsualM (P : Program) (f : FuncId) (fd : Fd) : Prop where
  enters : Enters P f
  call : ∀ (w : World) (A B : Nat → Prop) (cs ct : List Value) (t : T), RepF w A cs fd → RepT w B ct t → Calls P f #[.agg cs.toArray, .agg ct.toArray] w fun e w' => e = .returned (.bool (usualW fd t)) ∧ Fr [] w w'
theorem usualW_eq (fd : Fd) (t : T) : usualW fd t = if fd.kind = 0 then decide (t.n % 2 = fd.df) else if fd.kind = 7 then (t.s.take 16).all (· == 0) else if fd.kind = 8 ∨ fd.kind = 9 then (if fd.nul ≥ 0 then t.nl else t.s.isEmpty)
    else if fd.kind = 11 then t.l.isEmpty else if fd.kind = 10 then usualsW fd.sub t.l 0 && (unknownW fd.sub t.u).isEmpty else decide (fxW t.n (widthW fd.kind) = fxW fd.df (widthW fd.kind)) := by
  cases fd with
  | mk kind fr to nul tag df of sub => rw [usualW]; rfl
theorem widthW_le (k : Int) : widthW k ≤ 8 := by unfold widthW; (repeat' split) <;> decide
set_option maxHeartbeats 4000000 in
theorem usualw_m {P : Program} {f : FuncId} {fn : Func} {T2 T3 T4 T5 T22 T23 T24 T26 T29 T45 : TypeId} {f13 f56 f58 f60 f94 f95 : FuncId} {ct0 : Array TypeId} {ct1 : Array TypeId} {ct2 : Array TypeId} {ct3 : Array TypeId} {ct4 : Array TypeId} {ct5 : Array TypeId} {ct6 : Array TypeId} {ct7 : Array TypeId} {i0 i1 i2 i3 i4 i5 i6 i7 i8 i9 i10 i11 i12 i13 i14 i15 i16 i17 i18 i19 i20 i21 i22 i23 i24 i25 i26 i27 : Nat} {t0 t1 t2 t3 t4 t5 t6 t7 t8 t9 t10 t11 t12 t13 t14 t15 t16 t17 t18 t19 t20 t21 t22 t23 t24 t25 t26 t27 t28 t29 t30 t31 t32 t33 t34 t35 t36 t37 t38 t39 t40 t41 t42 t43 t44 t45 t46 t47 t48 t49 t50 t51 t52 t53 t54 t55 t56 t57 t58 t59 t60 t61 t62 t63 t64 t65 t66 t67 t68 t69 t70 t71 t72 t73 t74 t75 t76 t77 t78 t79 t80 t81 t82 t83 t84 t85 t86 t87 t88 t89 t90 t91 t92 t93 t94 t95 t96 t97 t98 t99 t100 t101 : TypeId} {p0 p1 p2 p3 p4 p5 p6 p7 p8 p9 p10 p11 p12 p13 p14 p15 p16 p17 p18 p19 p20 p21 p22 p23 p24 p25 p26 p27 p28 p29 p30 p31 p32 p33 p34 p35 p36 p37 p38 p39 p40 p41 p42 p43 p44 p45 p46 p47 p48 p49 p50 p51 p52 p53 p54 p55 p56 p57 p58 p59 p60 p61 p62 p63 p64 p65 p66 p67 p68 p69 p70 p71 p72 p73 p74 p75 p76 p77 p78 p79 p80 p81 p82 p83 p84 p85 p86 p87 p88 p89 p90 p91 p92 p93 p94 p95 p96 p97 p98 p99 p100 p101 : String} {e0 e1 e2 e3 e4 e5 e6 e7 e8 e9 e10 e11 e12 e13 e14 e15 e16 e17 e18 e19 e20 e21 e22 e23 e24 e25 e26 e27 e28 e29 e30 e31 e32 e33 e34 e35 e36 e37 e38 e39 e40 e41 e42 e43 e44 e45 e46 e47 e48 e49 e50 e51 e52 e53 e54 e55 e56 e57 e58 e59 e60 e61 e62 e63 e64 e65 e66 e67 e68 e69 e70 e71 e72 e73 e74 e75 e76 e77 e78 e79 e80 e81 e82 e83 e84 e85 e86 e87 e88 e89 e90 e91 e92 e93 e94 e95 e96 e97 e98 e99 e100 e101 : Array Edge} {fd : Fd}
    (hf : P.funcs[f]? = some fn) (hname : (fn.name == "runtime.NumGoroutine") = false) (hres : fn.results = #[.tmp 4]) (hN : fn.ntmps = 91)
    (hbody : fn.body = some (.seq (Code.region i0 ⟨[⟨some 2, .box T45 (.tmp 0), t0, p0, e0, none⟩, ⟨some 3, .box T26 (.tmp 1), t1, p1, e1, none⟩,
    oA 4 (.const (.bool false)) t2 p2 e2]⟩ false) (.seq (.seq (Code.region i1 ⟨[oF 9 T45 2 0 t3 p3 e3,
    oL 10 T3 9 t4 p4 e4]⟩ false) (.block 0 (.seq (Code.region i2 ⟨[⟨some 12, .binOp .eql T3 (.tmp 10) (.const (.int .i64 0)) T3, t5, p5, e5, none⟩,
    oT 11 12 t6 p6 e6]⟩ false) (.cond (.tmp 11) (.seq (Code.region i3 ⟨[oF 13 T26 3 0 t7 p7 e7,
    oL 14 T2 13 t8 p8 e8, ⟨some 15, .binOp .and T2 (.tmp 14) (.const (.int .i64 1)) T2, t9, p9, e9, none⟩,
    oF 16 T45 2 5 t10 p10 e10,
    oL 17 T2 16 t11 p11 e11, ⟨some 18, .binOp .eql T2 (.tmp 15) (.tmp 17) T2, t12, p12, e12, none⟩,
    oT 4 18 t13 p13 e13]⟩ false) .ret) (.seq (Code.region i4 ⟨[⟨some 20, .binOp .eql T3 (.tmp 10) (.const (.int .i64 7)) T3, t14, p14, e14, none⟩,
    oT 19 20 t15 p15 e15]⟩ false) (.cond (.tmp 19) (.seq (.seq (Code.region i5 ⟨[oF 21 T26 3 1 t16 p16 e16,
    oL 22 T22 21 t17 p17 e17, ⟨some 23, .call ⟨.builtin .len, #[(.tmp 22)], #[T22]⟩, t18, p18, e18, none⟩, ⟨some 24, .move (.const (.int .i64 0)), t19, p19, e19, none⟩]⟩ false) (.block 1 (.loop (.seq (Code.region i6 ⟨[⟨some 25, .binOp .lss T3 (.tmp 24) (.tmp 23) T3, t20, p20, e20, none⟩]⟩ false) (.seq (.cond (.tmp 25) .skip
  (.exit 1)) (.seq (.block 2 (.seq (Code.region i7 ⟨[oM 26 24 t21 p21 e21, ⟨some 27, .indexAddr T22 (.tmp 22) (.tmp 24), t22, p22, e22, none⟩,
    oL 28 T5 27 t23 p23 e23,
    oT 5 26 t24 p24 e24,
    oT 6 28 t25 p25 e25]⟩ false) (.seq (Code.region i8 ⟨[oM 29 5 t26 p26 e26, ⟨some 30, .binOp .lss T3 (.tmp 29) (.const (.int .i64 16)) T3, t27, p27, e27, none⟩,
    oM 31 30 t28 p28 e28, ⟨some 32, .move (.tmp 6), t29, p29, e29, some (2, true)⟩, ⟨some 33, .binOp .neq T5 (.tmp 32) (.const (.int .u8 0)) T5, t30, p30, e30, some (2, true)⟩, ⟨some 34, .pick (.tmp 31) (.tmp 33) (.const (.bool false)), t31, p31, e31, none⟩]⟩ false) (.cond (.tmp 34) (.seq (Code.region i9 ⟨[oA 4 (.const (.bool false)) t32 p32 e32]⟩ false) .ret) .skip))))
  (Code.region i10 ⟨[⟨some 35, .binOp .add T3 (.tmp 24) (.const (.int .i64 1)) T3, t33, p33, e33, none⟩,
    oM 24 35 t34 p34 e34]⟩ false))))))) (.seq (Code.region i11 ⟨[oA 4 (.const (.bool true)) t35 p35 e35]⟩ false) .ret)) (.seq (.seq (Code.region i12 ⟨[⟨some 37, .binOp .eql T3 (.tmp 10) (.const (.int .i64 8)) T3, t36, p36, e36, none⟩,
    oT 36 37 t37 p37 e37]⟩ false) (.cond (.tmp 36) .skip
  (Code.region i13 ⟨[⟨some 38, .binOp .eql T3 (.tmp 10) (.const (.int .i64 9)) T3, t38, p38, e38, none⟩,
    oT 36 38 t39 p39 e39]⟩ false))) (.cond (.tmp 36) (.seq (.seq (Code.region i14 ⟨[oF 39 T45 2 3 t40 p40 e40,
    oL 40 T3 39 t41 p41 e41, ⟨some 41, .binOp .geq T3 (.tmp 40) (.const (.int .i64 0)) T3, t42, p42, e42, none⟩]⟩ false) (.cond (.tmp 41) (.seq (Code.region i15 ⟨[oF 42 T26 3 2 t43 p43 e43,
    oL 43 T4 42 t44 p44 e44,
    oT 4 43 t45 p45 e45]⟩ false) .ret) .skip)) (.seq (Code.region i16 ⟨[oF 44 T26 3 1 t46 p46 e46,
    oL 45 T22 44 t47 p47 e47, ⟨some 46, .call ⟨.builtin .len, #[(.tmp 45)], #[T22]⟩, t48, p48, e48, none⟩, ⟨some 47, .binOp .eql T3 (.tmp 46) (.const (.int .i64 0)) T3, t49, p49, e49, none⟩,
    oT 4 47 t50 p50 e50]⟩ false) .ret)) (.seq (Code.region i17 ⟨[⟨some 49, .binOp .eql T3 (.tmp 10) (.const (.int .i64 11)) T3, t51, p51, e51, none⟩,
    oT 48 49 t52 p52 e52]⟩ false) (.cond (.tmp 48) (.seq (Code.region i18 ⟨[oF 50 T26 3 3 t53 p53 e53,
    oL 51 T23 50 t54 p54 e54, ⟨some 52, .call ⟨.builtin .len, #[(.tmp 51)], #[T23]⟩, t55, p55, e55, none⟩, ⟨some 53, .binOp .eql T3 (.tmp 52) (.const (.int .i64 0)) T3, t56, p56, e56, none⟩,
    oT 4 53 t57 p57 e57]⟩ false) .ret) (.seq (Code.region i19 ⟨[⟨some 55, .binOp .eql T3 (.tmp 10) (.const (.int .i64 10)) T3, t58, p58, e58, none⟩,
    oT 54 55 t59 p59 e59]⟩ false) (.cond (.tmp 54) (.seq (.seq (Code.region i20 ⟨[oF 56 T45 2 7 t60 p60 e60,
    oL 57 T29 56 t61 p61 e61, ⟨some 58, .call ⟨.builtin .len, #[(.tmp 57)], #[T29]⟩, t62, p62, e62, none⟩, ⟨some 59, .move (.const (.int .i64 0)), t63, p63, e63, none⟩]⟩ false) (.block 3 (.loop (.seq (Code.region i21 ⟨[⟨some 60, .binOp .lss T3 (.tmp 59) (.tmp 58) T3, t64, p64, e64, none⟩]⟩ false) (.seq (.cond (.tmp 60) .skip
  (.exit 3)) (.seq (.block 4 (.seq (Code.region i22 ⟨[oM 61 59 t65 p65 e65, ⟨some 62, .indexAddr T29 (.tmp 57) (.tmp 59), t66, p66, e66, none⟩,
    oL 63 T45 62 t67 p67 e67, ⟨some 8, .alloc T45, t68, p68, e68, none⟩,
    oT 7 61 t69 p69 e69,
    oS T45 8 63 t70 p70 e70]⟩ false) (.seq (Code.region i23 ⟨[oL 64 T45 8 t71 p71 e71,
    oL 65 T26 3 t72 p72 e72,
    oM 66 7 t73 p73 e73,
    oC 67 f56 #[(.tmp 65), (.tmp 66)] ct0 t74 p74 e74,
    oC 68 f58 #[(.tmp 64), (.tmp 67)] ct1 t75 p75 e75, ⟨some 69, .unOp .not T4 (.tmp 68), t76, p76, e76, none⟩]⟩ true) (.cond (.tmp 69) (.seq (Code.region i24 ⟨[oA 4 (.const (.bool false)) t77 p77 e77]⟩ false) .ret) .skip))))
  (Code.region i25 ⟨[⟨some 70, .binOp .add T3 (.tmp 59) (.const (.int .i64 1)) T3, t78, p78, e78, none⟩,
    oM 59 70 t79 p79 e79]⟩ false))))))) (.seq (Code.region i26 ⟨[oF 71 T45 2 7 t80 p80 e80,
    oL 72 T29 71 t81 p81 e81,
    oF 73 T26 3 4 t82 p82 e82,
    oL 74 T24 73 t83 p83 e83,
    oC 75 f60 #[(.tmp 72), (.tmp 74)] ct2 t84 p84 e84, ⟨some 76, .call ⟨.builtin .len, #[(.tmp 75)], #[T24]⟩, t85, p85, e85, none⟩, ⟨some 77, .binOp .eql T3 (.tmp 76) (.const (.int .i64 0)) T3, t86, p86, e86, none⟩,
    oT 4 77 t87 p87 e87]⟩ false) .ret)) .skip)))))))))))) (.seq (Code.region i27 ⟨[oF 78 T26 3 0 t88 p88 e88,
    oL 79 T2 78 t89 p89 e89,
    oF 80 T45 2 0 t90 p90 e90,
    oL 81 T3 80 t91 p91 e91,
    oC 82 f95 #[(.tmp 81)] ct3 t92 p92 e92,
    oC 83 f94 #[(.tmp 79), (.tmp 82)] ct4 t93 p93 e93,
    oF 84 T45 2 5 t94 p94 e94,
    oL 85 T2 84 t95 p95 e95,
    oF 86 T45 2 0 t96 p96 e96,
    oL 87 T3 86 t97 p97 e97,
    oC 88 f95 #[(.tmp 87)] ct5 t98 p98 e98,
    oC 89 f94 #[(.tmp 85), (.tmp 88)] ct6 t99 p99 e99,
    oC 90 f13 #[(.tmp 83), (.tmp 89)] ct7 t100 p100 e100,
    oT 4 90 t101 p101 e101]⟩ true) .ret))))
    (hFlT45 : Flat P T45 zF) (hcT3 : scal P T3 = true) (hFlT26 : Flat P T26 zT) (hcT4 : scal P T4 = true) (hcT22 : scal P T22 = true) (hsT22 : slTy P T22 = true) (hcT23 : scal P T23 = true) (hsT23 : slTy P T23 = true) (hcT2 : scal P T2 = true) (he27 : edgeOk 0 [e88, e89, e90, e91, e92, e93, e94, e95, e96, e97, e98, e99, e100, e101] [[], [0], [], [2], [3], [1, 4], [], [6], [], [8], [9], [7, 10], [5, 11], [0, 1, 2, 3, 4, 5, 6, 7, 8, 9, 10, 11, 12]] = true) (hmx : P.follows .mixedOrders = true) (h0 : ¬ fd.kind = 0) (h7 : ¬ fd.kind = 7) (h10 : ¬ fd.kind = 10) (hFx : FixM P f94) (hWi : WidthM P f95) (hSa : SameDM P f13) : UsualM P f fd := by
  refine ⟨enters_of hf hname hbody, ?_⟩;intro w A B cs ct t hr ht
  cases t with
  | mk n s nl l u =>
  obtain ⟨sv, lv, uv, rfl, hn, hs, hl, hu⟩ := repT_iff.1 ht;obtain ⟨fsv, rfl, hsub⟩ := repF_iff.1 hr;obtain ⟨sq, scap, rfl, -, -, -⟩ := hs.slice2;obtain ⟨lq, lcap, rfl, -, -, -⟩ := hl.sl2;refine calls_of_wp hf hbody ?_;generalize ha0 : ({ tmps := #[Value.agg ([.int .i64 fd.kind, .int .i64 fd.fr, .int .i64 fd.to, .int .i64 fd.nul, .int .i64 fd.tag, .int .i64 fd.df, .int .i64 fd.of, fsv] : List Value).toArray, Value.agg ([.int .i64 n, .slice sq s.length scap, .bool nl, .slice lq l.length lcap, uv] : List Value).toArray] ++ Array.replicate (fn.ntmps - (#[Value.agg ([.int .i64 fd.kind, .int .i64 fd.fr, .int .i64 fd.to, .int .i64 fd.nul, .int .i64 fd.tag, .int .i64 fd.df, .int .i64 fd.of, fsv] : List Value).toArray, Value.agg ([.int .i64 n, .slice sq s.length scap, .bool nl, .slice lq l.length lcap, uv] : List Value).toArray] : Array Value).size) undef, defers := [] } : Act) = a0;have hz0 : a0.tmps.size = 91 := by subst ha0; simp [hN]
  have hd0 : a0.defers = [] := by subst ha0; rfl
  have g0_0 : get a0 0 = .agg ([.int .i64 fd.kind, .int .i64 fd.fr, .int .i64 fd.to, .int .i64 fd.nul, .int .i64 fd.tag, .int .i64 fd.df, .int .i64 fd.of, fsv] : List Value).toArray := by subst ha0; exact gAr rfl
  have g0_1 : get a0 1 = .agg ([.int .i64 n, .slice sq s.length scap, .bool nl, .slice lq l.length lcap, uv] : List Value).toArray := by subst ha0; exact gAr rfl
  refine wT fun K1 hK1 => ?_;refine wC (wp_boxL (cs := [.int .i64 fd.kind, .int .i64 fd.fr, .int .i64 fd.to, .int .i64 fd.nul, .int .i64 fd.tag, .int .i64 fd.df, .int .i64 fd.of, fsv]) (eK g0_0) ?_);rintro w2 f2 sz2 r2 th2;have hF3 : Fr [] w w2 := f2;refine wC (wp_boxL (cs := [.int .i64 n, .slice sq s.length scap, .bool nl, .slice lq l.length lcap, uv]) (eK g0_1) ?_);rintro w4 f4 sz4 r4 th4;have hF5 : Fr [] w w4 := hF3.tr f4;have rb6 := f4.range r2 .nil;refine wC (wAs (v := .bool false) rfl ?_);refine wEk hz0 hd0 fun a7 ha7 hz7 hd7 => ?_;have g7_2 : get a7 2 = .pointer (some ⟨w.heap.size, 0, none⟩) := kG ha7 hz0;have g7_3 : get a7 3 = .pointer (some ⟨w2.heap.size, 0, none⟩) := kG ha7 hz0;refine hK1 a7 w4 (tUp ?_);refine tId (wp_seq_k fun K8 hK8 => ?_);refine wS fun K9 hK9 => ?_;refine wC (wFa (b := w.heap.size) (i := 0) (hFlT45.fld (by decide)) (eK g7_2) ?_);rw [show (0 + 0 : Nat) = 0 from rfl];refine wC (wL0 (j := 0) (v := .int .i64 fd.kind) hcT3 (eS hz7) rb6 rfl ?_);refine wEk hz7 hd7 fun a10 ha10 hz10 hd10 => ?_;have g10_2 := kP ha10 g7_2;have g10_3 := kP ha10 g7_3;have g10_10 : get a10 10 = .int .i64 fd.kind := kG ha10 hz7
  by_cases h8 : fd.kind = 8 ∨ fd.kind = 9
  · by_cases h8' : fd.kind = 8
    · by_cases hnn : fd.nul ≥ 0
      · refine hK9 a10 w4 ?_;refine wp_blockT ?_;refine wS fun K11 hK11 => ?_;refine wC (wp_eqlF (k1 := .i64) (i := fd.kind) (j := 0) h0 (eK g10_10) rfl ?_);refine wC (wAs (v := .bool false) (eS hz10) ?_);refine wEk hz10 hd10 fun a12 ha12 hz12 hd12 => ?_;have g12_2 := kP ha12 g10_2;have g12_3 := kP ha12 g10_3;have g12_10 := kP ha12 g10_10;have g12_11 : get a12 11 = .bool false := kG ha12 hz10;refine hK11 a12 w4 ?_;refine wp_cond_split (t := false) (eK g12_11) (fun h => by cases h) (fun _ => ?_);refine wS fun K14 hK14 => ?_;refine wC (wp_eqlF (k1 := .i64) (i := fd.kind) (j := 7) h7 (eK g12_10) rfl ?_);refine wC (wAs (v := .bool false) (eS hz12) ?_);refine wEk hz12 hd12 fun a15 ha15 hz15 hd15 => ?_;have g15_2 := kP ha15 g12_2;have g15_3 := kP ha15 g12_3;have g15_10 := kP ha15 g12_10;have g15_19 : get a15 19 = .bool false := kG ha15 hz12;refine hK14 a15 w4 ?_;refine wp_cond_split (t := false) (eK g15_19) (fun h => by cases h) (fun _ => ?_);refine wp_seq_k fun K17 hK17 => ?_;refine wS fun K18 hK18 => ?_;refine wC (wp_eqlT (k1 := .i64) (i := fd.kind) (j := 8) h8' (eK g15_10) rfl ?_);refine wC (wAs (v := .bool true) (eS hz15) ?_);refine wEk hz15 hd15 fun a19 ha19 hz19 hd19 => ?_;have g19_2 := kP ha19 g15_2;have g19_3 := kP ha19 g15_3;have g19_36 : get a19 36 = .bool true := kG ha19 hz15;refine hK18 a19 w4 ?_;refine wp_cond_split (t := true) (eK g19_36) (fun _ => ?_) (fun h => by cases h);refine wp_skip ?_;refine hK17 a19 w4 ?_;refine wp_cond_split (t := true) (eK g19_36) (fun _ => ?_) (fun h => by cases h);refine wp_seq_k fun K22 hK22 => ?_;refine wS fun K23 hK23 => ?_;refine wC (wFa (b := w.heap.size) (i := 0) (hFlT45.fld (by decide)) (eK g19_2) ?_);rw [show (0 + 3 : Nat) = 3 from rfl];refine wC (wL0 (j := 3) (v := .int .i64 fd.nul) hcT3 (eS hz19) rb6 rfl ?_);refine wC (wp_geqT (k1 := .i64) (i := fd.nul) (j := 0) hnn (eS hz19) rfl ?_);refine wEk hz19 hd19 fun a24 ha24 hz24 hd24 => ?_;have g24_3 := kP ha24 g19_3;have g24_41 : get a24 41 = .bool true := kG ha24 hz19;refine hK23 a24 w4 ?_;refine wp_cond_split (t := true) (eK g24_41) (fun _ => ?_) (fun h => by cases h);refine wS fun K26 hK26 => ?_;refine wC (wFa (b := w2.heap.size) (i := 0) (hFlT26.fld (by decide)) (eK g24_3) ?_);rw [show (0 + 2 : Nat) = 2 from rfl];refine wC (wL0 (j := 2) (v := .bool nl) hcT4 (eS hz24) r4 rfl ?_);refine wC (wAs (v := .bool nl) (eS hz24) ?_);refine wEk hz24 hd24 fun a27 ha27 hz27 hd27 => ?_;have g27_4 : get a27 4 = .bool nl := kG ha27 hz24;refine hK26 a27 w4 ?_;refine wp_ret ?_;have hW : usualW fd (.mk n s nl l u) = (nl) := by rw [usualW_eq, if_neg h0, if_neg h7, if_pos h8, if_pos hnn]; rfl
        exact ⟨hd27, _, rIs hres g27_4, by rw [hW], hF5⟩
      refine hK9 a10 w4 ?_;refine wp_blockT ?_;refine wS fun K28 hK28 => ?_;refine wC (wp_eqlF (k1 := .i64) (i := fd.kind) (j := 0) h0 (eK g10_10) rfl ?_);refine wC (wAs (v := .bool false) (eS hz10) ?_);refine wEk hz10 hd10 fun a29 ha29 hz29 hd29 => ?_;have g29_2 := kP ha29 g10_2;have g29_3 := kP ha29 g10_3;have g29_10 := kP ha29 g10_10;have g29_11 : get a29 11 = .bool false := kG ha29 hz10;refine hK28 a29 w4 ?_;refine wp_cond_split (t := false) (eK g29_11) (fun h => by cases h) (fun _ => ?_);refine wS fun K31 hK31 => ?_;refine wC (wp_eqlF (k1 := .i64) (i := fd.kind) (j := 7) h7 (eK g29_10) rfl ?_);refine wC (wAs (v := .bool false) (eS hz29) ?_);refine wEk hz29 hd29 fun a32 ha32 hz32 hd32 => ?_;have g32_2 := kP ha32 g29_2;have g32_3 := kP ha32 g29_3;have g32_10 := kP ha32 g29_10;have g32_19 : get a32 19 = .bool false := kG ha32 hz29;refine hK31 a32 w4 ?_;refine wp_cond_split (t := false) (eK g32_19) (fun h => by cases h) (fun _ => ?_);refine wp_seq_k fun K34 hK34 => ?_;refine wS fun K35 hK35 => ?_;refine wC (wp_eqlT (k1 := .i64) (i := fd.kind) (j := 8) h8' (eK g32_10) rfl ?_);refine wC (wAs (v := .bool true) (eS hz32) ?_);refine wEk hz32 hd32 fun a36 ha36 hz36 hd36 => ?_;have g36_2 := kP ha36 g32_2;have g36_3 := kP ha36 g32_3;have g36_36 : get a36 36 = .bool true := kG ha36 hz32;refine hK35 a36 w4 ?_;refine wp_cond_split (t := true) (eK g36_36) (fun _ => ?_) (fun h => by cases h);refine wp_skip ?_;refine hK34 a36 w4 ?_;refine wp_cond_split (t := true) (eK g36_36) (fun _ => ?_) (fun h => by cases h);refine wp_seq_k fun K39 hK39 => ?_;refine wS fun K40 hK40 => ?_;refine wC (wFa (b := w.heap.size) (i := 0) (hFlT45.fld (by decide)) (eK g36_2) ?_);rw [show (0 + 3 : Nat) = 3 from rfl];refine wC (wL0 (j := 3) (v := .int .i64 fd.nul) hcT3 (eS hz36) rb6 rfl ?_);refine wC (wp_geqF (k1 := .i64) (i := fd.nul) (j := 0) hnn (eS hz36) rfl ?_);refine wEk hz36 hd36 fun a41 ha41 hz41 hd41 => ?_;have g41_3 := kP ha41 g36_3;have g41_41 : get a41 41 = .bool false := kG ha41 hz36;refine hK40 a41 w4 ?_;refine wp_cond_split (t := false) (eK g41_41) (fun h => by cases h) (fun _ => ?_);refine wp_skip ?_;refine hK39 a41 w4 ?_;refine wS fun K43 hK43 => ?_;refine wC (wFa (b := w2.heap.size) (i := 0) (hFlT26.fld (by decide)) (eK g41_3) ?_);rw [show (0 + 1 : Nat) = 1 from rfl];refine wC (wL0 (j := 1) (v := .slice sq s.length scap) hcT22 (eS hz41) r4 rfl ?_);refine wC (wp_lenS (n := s.length) hsT22 (eS hz41) ?_);refine wC (wp_eql (k1 := .i64) (i := ((s.length : Nat) : Int)) (j := 0) (eS hz41) rfl ?_);refine wC (wAs (v := .bool ((((s.length : Nat) : Int) : Int) == (0 : Int))) (eS hz41) ?_);refine wEk hz41 hd41 fun a44 ha44 hz44 hd44 => ?_;have g44_4 : get a44 4 = .bool ((((s.length : Nat) : Int) : Int) == (0 : Int)) := kG ha44 hz41;refine hK43 a44 w4 ?_;refine wp_ret ?_;have hW : usualW fd (.mk n s nl l u) = (((((s.length : Nat) : Int) : Int) == (0 : Int))) := by rw [usualW_eq, if_neg h0, if_neg h7, if_pos h8, if_neg hnn]; cases s <;> rfl
      exact ⟨hd44, _, rIs hres g44_4, by rw [hW], hF5⟩
    have h9 : fd.kind = 9 := by omega
    by_cases hnn : fd.nul ≥ 0
    · refine hK9 a10 w4 ?_;refine wp_blockT ?_;refine wS fun K45 hK45 => ?_;refine wC (wp_eqlF (k1 := .i64) (i := fd.kind) (j := 0) h0 (eK g10_10) rfl ?_);refine wC (wAs (v := .bool false) (eS hz10) ?_);refine wEk hz10 hd10 fun a46 ha46 hz46 hd46 => ?_;have g46_2 := kP ha46 g10_2;have g46_3 := kP ha46 g10_3;have g46_10 := kP ha46 g10_10;have g46_11 : get a46 11 = .bool false := kG ha46 hz10;refine hK45 a46 w4 ?_;refine wp_cond_split (t := false) (eK g46_11) (fun h => by cases h) (fun _ => ?_);refine wS fun K48 hK48 => ?_;refine wC (wp_eqlF (k1 := .i64) (i := fd.kind) (j := 7) h7 (eK g46_10) rfl ?_);refine wC (wAs (v := .bool false) (eS hz46) ?_);refine wEk hz46 hd46 fun a49 ha49 hz49 hd49 => ?_;have g49_2 := kP ha49 g46_2;have g49_3 := kP ha49 g46_3;have g49_10 := kP ha49 g46_10;have g49_19 : get a49 19 = .bool false := kG ha49 hz46;refine hK48 a49 w4 ?_;refine wp_cond_split (t := false) (eK g49_19) (fun h => by cases h) (fun _ => ?_);refine wp_seq_k fun K51 hK51 => ?_;refine wS fun K52 hK52 => ?_;refine wC (wp_eqlF (k1 := .i64) (i := fd.kind) (j := 8) h8' (eK g49_10) rfl ?_);refine wC (wAs (v := .bool false) (eS hz49) ?_);refine wEk hz49 hd49 fun a53 ha53 hz53 hd53 => ?_;have g53_2 := kP ha53 g49_2;have g53_3 := kP ha53 g49_3;have g53_10 := kP ha53 g49_10;have g53_36 : get a53 36 = .bool false := kG ha53 hz49;refine hK52 a53 w4 ?_;refine wp_cond_split (t := false) (eK g53_36) (fun h => by cases h) (fun _ => ?_);refine wp_reg ?_;refine wC (wp_eqlT (k1 := .i64) (i := fd.kind) (j := 9) h9 (eK g53_10) rfl ?_);refine wC (wAs (v := .bool true) (eS hz53) ?_);refine wEk hz53 hd53 fun a55 ha55 hz55 hd55 => ?_;have g55_2 := kP ha55 g53_2;have g55_3 := kP ha55 g53_3;have g55_36 : get a55 36 = .bool true := kG ha55 hz53;refine hK51 a55 w4 ?_;refine wp_cond_split (t := true) (eK g55_36) (fun _ => ?_) (fun h => by cases h);refine wp_seq_k fun K57 hK57 => ?_;refine wS fun K58 hK58 => ?_;refine wC (wFa (b := w.heap.size) (i := 0) (hFlT45.fld (by decide)) (eK g55_2) ?_);rw [show (0 + 3 : Nat) = 3 from rfl];refine wC (wL0 (j := 3) (v := .int .i64 fd.nul) hcT3 (eS hz55) rb6 rfl ?_);refine wC (wp_geqT (k1 := .i64) (i := fd.nul) (j := 0) hnn (eS hz55) rfl ?_);refine wEk hz55 hd55 fun a59 ha59 hz59 hd59 => ?_;have g59_3 := kP ha59 g55_3;have g59_41 : get a59 41 = .bool true := kG ha59 hz55;refine hK58 a59 w4 ?_;refine wp_cond_split (t := true) (eK g59_41) (fun _ => ?_) (fun h => by cases h);refine wS fun K61 hK61 => ?_;refine wC (wFa (b := w2.heap.size) (i := 0) (hFlT26.fld (by decide)) (eK g59_3) ?_);rw [show (0 + 2 : Nat) = 2 from rfl];refine wC (wL0 (j := 2) (v := .bool nl) hcT4 (eS hz59) r4 rfl ?_);refine wC (wAs (v := .bool nl) (eS hz59) ?_);refine wEk hz59 hd59 fun a62 ha62 hz62 hd62 => ?_;have g62_4 : get a62 4 = .bool nl := kG ha62 hz59;refine hK61 a62 w4 ?_;refine wp_ret ?_;have hW : usualW fd (.mk n s nl l u) = (nl) := by rw [usualW_eq, if_neg h0, if_neg h7, if_pos h8, if_pos hnn]; rfl
      exact ⟨hd62, _, rIs hres g62_4, by rw [hW], hF5⟩
    refine hK9 a10 w4 ?_;refine wp_blockT ?_;refine wS fun K63 hK63 => ?_;refine wC (wp_eqlF (k1 := .i64) (i := fd.kind) (j := 0) h0 (eK g10_10) rfl ?_);refine wC (wAs (v := .bool false) (eS hz10) ?_);refine wEk hz10 hd10 fun a64 ha64 hz64 hd64 => ?_;have g64_2 := kP ha64 g10_2;have g64_3 := kP ha64 g10_3;have g64_10 := kP ha64 g10_10;have g64_11 : get a64 11 = .bool false := kG ha64 hz10;refine hK63 a64 w4 ?_;refine wp_cond_split (t := false) (eK g64_11) (fun h => by cases h) (fun _ => ?_);refine wS fun K66 hK66 => ?_;refine wC (wp_eqlF (k1 := .i64) (i := fd.kind) (j := 7) h7 (eK g64_10) rfl ?_);refine wC (wAs (v := .bool false) (eS hz64) ?_);refine wEk hz64 hd64 fun a67 ha67 hz67 hd67 => ?_;have g67_2 := kP ha67 g64_2;have g67_3 := kP ha67 g64_3;have g67_10 := kP ha67 g64_10;have g67_19 : get a67 19 = .bool false := kG ha67 hz64;refine hK66 a67 w4 ?_;refine wp_cond_split (t := false) (eK g67_19) (fun h => by cases h) (fun _ => ?_);refine wp_seq_k fun K69 hK69 => ?_;refine wS fun K70 hK70 => ?_;refine wC (wp_eqlF (k1 := .i64) (i := fd.kind) (j := 8) h8' (eK g67_10) rfl ?_);refine wC (wAs (v := .bool false) (eS hz67) ?_);refine wEk hz67 hd67 fun a71 ha71 hz71 hd71 => ?_;have g71_2 := kP ha71 g67_2;have g71_3 := kP ha71 g67_3;have g71_10 := kP ha71 g67_10;have g71_36 : get a71 36 = .bool false := kG ha71 hz67;refine hK70 a71 w4 ?_;refine wp_cond_split (t := false) (eK g71_36) (fun h => by cases h) (fun _ => ?_);refine wp_reg ?_;refine wC (wp_eqlT (k1 := .i64) (i := fd.kind) (j := 9) h9 (eK g71_10) rfl ?_);refine wC (wAs (v := .bool true) (eS hz71) ?_);refine wEk hz71 hd71 fun a73 ha73 hz73 hd73 => ?_;have g73_2 := kP ha73 g71_2;have g73_3 := kP ha73 g71_3;have g73_36 : get a73 36 = .bool true := kG ha73 hz71;refine hK69 a73 w4 ?_;refine wp_cond_split (t := true) (eK g73_36) (fun _ => ?_) (fun h => by cases h);refine wp_seq_k fun K75 hK75 => ?_;refine wS fun K76 hK76 => ?_;refine wC (wFa (b := w.heap.size) (i := 0) (hFlT45.fld (by decide)) (eK g73_2) ?_);rw [show (0 + 3 : Nat) = 3 from rfl];refine wC (wL0 (j := 3) (v := .int .i64 fd.nul) hcT3 (eS hz73) rb6 rfl ?_);refine wC (wp_geqF (k1 := .i64) (i := fd.nul) (j := 0) hnn (eS hz73) rfl ?_);refine wEk hz73 hd73 fun a77 ha77 hz77 hd77 => ?_;have g77_3 := kP ha77 g73_3;have g77_41 : get a77 41 = .bool false := kG ha77 hz73;refine hK76 a77 w4 ?_;refine wp_cond_split (t := false) (eK g77_41) (fun h => by cases h) (fun _ => ?_);refine wp_skip ?_;refine hK75 a77 w4 ?_;refine wS fun K79 hK79 => ?_;refine wC (wFa (b := w2.heap.size) (i := 0) (hFlT26.fld (by decide)) (eK g77_3) ?_);rw [show (0 + 1 : Nat) = 1 from rfl];refine wC (wL0 (j := 1) (v := .slice sq s.length scap) hcT22 (eS hz77) r4 rfl ?_);refine wC (wp_lenS (n := s.length) hsT22 (eS hz77) ?_);refine wC (wp_eql (k1 := .i64) (i := ((s.length : Nat) : Int)) (j := 0) (eS hz77) rfl ?_);refine wC (wAs (v := .bool ((((s.length : Nat) : Int) : Int) == (0 : Int))) (eS hz77) ?_);refine wEk hz77 hd77 fun a80 ha80 hz80 hd80 => ?_;have g80_4 : get a80 4 = .bool ((((s.length : Nat) : Int) : Int) == (0 : Int)) := kG ha80 hz77;refine hK79 a80 w4 ?_;refine wp_ret ?_;have hW : usualW fd (.mk n s nl l u) = (((((s.length : Nat) : Int) : Int) == (0 : Int))) := by rw [usualW_eq, if_neg h0, if_neg h7, if_pos h8, if_neg hnn]; cases s <;> rfl
    exact ⟨hd80, _, rIs hres g80_4, by rw [hW], hF5⟩
  by_cases h11 : fd.kind = 11
  · refine hK9 a10 w4 ?_;refine wp_blockT ?_;refine wS fun K81 hK81 => ?_;refine wC (wp_eqlF (k1 := .i64) (i := fd.kind) (j := 0) h0 (eK g10_10) rfl ?_);refine wC (wAs (v := .bool false) (eS hz10) ?_);refine wEk hz10 hd10 fun a82 ha82 hz82 hd82 => ?_;have g82_3 := kP ha82 g10_3;have g82_10 := kP ha82 g10_10;have g82_11 : get a82 11 = .bool false := kG ha82 hz10;refine hK81 a82 w4 ?_;refine wp_cond_split (t := false) (eK g82_11) (fun h => by cases h) (fun _ => ?_);refine wS fun K84 hK84 => ?_;refine wC (wp_eqlF (k1 := .i64) (i := fd.kind) (j := 7) h7 (eK g82_10) rfl ?_);refine wC (wAs (v := .bool false) (eS hz82) ?_);refine wEk hz82 hd82 fun a85 ha85 hz85 hd85 => ?_;have g85_3 := kP ha85 g82_3;have g85_10 := kP ha85 g82_10;have g85_19 : get a85 19 = .bool false := kG ha85 hz82;refine hK84 a85 w4 ?_;refine wp_cond_split (t := false) (eK g85_19) (fun h => by cases h) (fun _ => ?_);refine wp_seq_k fun K87 hK87 => ?_;refine wS fun K88 hK88 => ?_;refine wC (wp_eqlF (k1 := .i64) (i := fd.kind) (j := 8) (by omega) (eK g85_10) rfl ?_);refine wC (wAs (v := .bool false) (eS hz85) ?_);refine wEk hz85 hd85 fun a89 ha89 hz89 hd89 => ?_;have g89_3 := kP ha89 g85_3;have g89_10 := kP ha89 g85_10;have g89_36 : get a89 36 = .bool false := kG ha89 hz85;refine hK88 a89 w4 ?_;refine wp_cond_split (t := false) (eK g89_36) (fun h => by cases h) (fun _ => ?_);refine wp_reg ?_;refine wC (wp_eqlF (k1 := .i64) (i := fd.kind) (j := 9) (by omega) (eK g89_10) rfl ?_);refine wC (wAs (v := .bool false) (eS hz89) ?_);refine wEk hz89 hd89 fun a91 ha91 hz91 hd91 => ?_;have g91_3 := kP ha91 g89_3;have g91_10 := kP ha91 g89_10;have g91_36 : get a91 36 = .bool false := kG ha91 hz89;refine hK87 a91 w4 ?_;refine wp_cond_split (t := false) (eK g91_36) (fun h => by cases h) (fun _ => ?_);refine wS fun K93 hK93 => ?_;refine wC (wp_eqlT (k1 := .i64) (i := fd.kind) (j := 11) h11 (eK g91_10) rfl ?_);refine wC (wAs (v := .bool true) (eS hz91) ?_);refine wEk hz91 hd91 fun a94 ha94 hz94 hd94 => ?_;have g94_3 := kP ha94 g91_3;have g94_48 : get a94 48 = .bool true := kG ha94 hz91;refine hK93 a94 w4 ?_;refine wp_cond_split (t := true) (eK g94_48) (fun _ => ?_) (fun h => by cases h);refine wS fun K96 hK96 => ?_;refine wC (wFa (b := w2.heap.size) (i := 0) (hFlT26.fld (by decide)) (eK g94_3) ?_);rw [show (0 + 3 : Nat) = 3 from rfl];refine wC (wL0 (j := 3) (v := .slice lq l.length lcap) hcT23 (eS hz94) r4 rfl ?_);refine wC (wp_lenS (n := l.length) hsT23 (eS hz94) ?_);refine wC (wp_eql (k1 := .i64) (i := ((l.length : Nat) : Int)) (j := 0) (eS hz94) rfl ?_);refine wC (wAs (v := .bool ((((l.length : Nat) : Int) : Int) == (0 : Int))) (eS hz94) ?_);refine wEk hz94 hd94 fun a97 ha97 hz97 hd97 => ?_;have g97_4 : get a97 4 = .bool ((((l.length : Nat) : Int) : Int) == (0 : Int)) := kG ha97 hz94;refine hK96 a97 w4 ?_;refine wp_ret ?_;have hW : usualW fd (.mk n s nl l u) = (((((l.length : Nat) : Int) : Int) == (0 : Int))) := by rw [usualW_eq, if_neg h0, if_neg h7, if_neg h8, if_pos h11]; cases l <;> rfl
    exact ⟨hd97, _, rIs hres g97_4, by rw [hW], hF5⟩
  refine hK9 a10 w4 ?_;refine wp_blockT ?_;refine wS fun K98 hK98 => ?_;refine wC (wp_eqlF (k1 := .i64) (i := fd.kind) (j := 0) h0 (eK g10_10) rfl ?_);refine wC (wAs (v := .bool false) (eS hz10) ?_);refine wEk hz10 hd10 fun a99 ha99 hz99 hd99 => ?_;have g99_2 := kP ha99 g10_2;have g99_3 := kP ha99 g10_3;have g99_10 := kP ha99 g10_10;have g99_11 : get a99 11 = .bool false := kG ha99 hz10;refine hK98 a99 w4 ?_;refine wp_cond_split (t := false) (eK g99_11) (fun h => by cases h) (fun _ => ?_);refine wS fun K101 hK101 => ?_;refine wC (wp_eqlF (k1 := .i64) (i := fd.kind) (j := 7) h7 (eK g99_10) rfl ?_);refine wC (wAs (v := .bool false) (eS hz99) ?_);refine wEk hz99 hd99 fun a102 ha102 hz102 hd102 => ?_;have g102_2 := kP ha102 g99_2;have g102_3 := kP ha102 g99_3;have g102_10 := kP ha102 g99_10;have g102_19 : get a102 19 = .bool false := kG ha102 hz99;refine hK101 a102 w4 ?_;refine wp_cond_split (t := false) (eK g102_19) (fun h => by cases h) (fun _ => ?_);refine wp_seq_k fun K104 hK104 => ?_;refine wS fun K105 hK105 => ?_;refine wC (wp_eqlF (k1 := .i64) (i := fd.kind) (j := 8) (by omega) (eK g102_10) rfl ?_);refine wC (wAs (v := .bool false) (eS hz102) ?_);refine wEk hz102 hd102 fun a106 ha106 hz106 hd106 => ?_;have g106_2 := kP ha106 g102_2;have g106_3 := kP ha106 g102_3;have g106_10 := kP ha106 g102_10;have g106_36 : get a106 36 = .bool false := kG ha106 hz102;refine hK105 a106 w4 ?_;refine wp_cond_split (t := false) (eK g106_36) (fun h => by cases h) (fun _ => ?_);refine wp_reg ?_;refine wC (wp_eqlF (k1 := .i64) (i := fd.kind) (j := 9) (by omega) (eK g106_10) rfl ?_);refine wC (wAs (v := .bool false) (eS hz106) ?_);refine wEk hz106 hd106 fun a108 ha108 hz108 hd108 => ?_;have g108_2 := kP ha108 g106_2;have g108_3 := kP ha108 g106_3;have g108_10 := kP ha108 g106_10;have g108_36 : get a108 36 = .bool false := kG ha108 hz106;refine hK104 a108 w4 ?_;refine wp_cond_split (t := false) (eK g108_36) (fun h => by cases h) (fun _ => ?_);refine wS fun K110 hK110 => ?_;refine wC (wp_eqlF (k1 := .i64) (i := fd.kind) (j := 11) h11 (eK g108_10) rfl ?_);refine wC (wAs (v := .bool false) (eS hz108) ?_);refine wEk hz108 hd108 fun a111 ha111 hz111 hd111 => ?_;have g111_2 := kP ha111 g108_2;have g111_3 := kP ha111 g108_3;have g111_10 := kP ha111 g108_10;have g111_48 : get a111 48 = .bool false := kG ha111 hz108;refine hK110 a111 w4 ?_;refine wp_cond_split (t := false) (eK g111_48) (fun h => by cases h) (fun _ => ?_);refine wS fun K113 hK113 => ?_;refine wC (wp_eqlF (k1 := .i64) (i := fd.kind) (j := 10) h10 (eK g111_10) rfl ?_);refine wC (wAs (v := .bool false) (eS hz111) ?_);refine wEk hz111 hd111 fun a114 ha114 hz114 hd114 => ?_;have g114_2 := kP ha114 g111_2;have g114_3 := kP ha114 g111_3;have g114_54 : get a114 54 = .bool false := kG ha114 hz111;refine hK113 a114 w4 ?_;refine wp_cond_split (t := false) (eK g114_54) (fun h => by cases h) (fun _ => ?_);refine wp_skip ?_;refine hK8 a114 w4 (tUp ?_);refine tId (wp_seq_k fun K116 hK116 => ?_);refine wp_drawR (os := [oF 78 T26 3 0 t88 p88 e88, oL 79 T2 78 t89 p89 e89, oF 80 T45 2 0 t90 p90 e90, oL 81 T3 80 t91 p91 e91, oC 82 f95 #[(.tmp 81)] ct3 t92 p92 e92, oC 83 f94 #[(.tmp 79), (.tmp 82)] ct4 t93 p93 e93, oF 84 T45 2 5 t94 p94 e94, oL 85 T2 84 t95 p95 e95, oF 86 T45 2 0 t96 p96 e96, oL 87 T3 86 t97 p97 e97, oC 88 f95 #[(.tmp 87)] ct5 t98 p98 e98, oC 89 f94 #[(.tmp 85), (.tmp 88)] ct6 t99 p99 e99, oC 90 f13 #[(.tmp 83), (.tmp 89)] ct7 t100 p100 e100]) (rest := [oT 4 90 t101 p101 e101]) [spC [] (.pointer (some ⟨w2.heap.size, 0, none⟩)), spC [0] (.int .i64 n), spC [] (.pointer (some ⟨w.heap.size, 0, none⟩)), spC [2] (.int .i64 fd.kind), spC [3] (.int .i64 ((widthW fd.kind : Nat) : Int)), spR [1, 4] (fun x w' => Own w' (From w4.heap.size w') 1 x (fxW n (widthW fd.kind)).length (octets (fxW n (widthW fd.kind)))), spC [] (.pointer (some ⟨w.heap.size, 5, none⟩)), spC [6] (.int .i64 fd.df), spC [] (.pointer (some ⟨w.heap.size, 0, none⟩)), spC [8] (.int .i64 fd.kind), spC [9] (.int .i64 ((widthW fd.kind : Nat) : Int)), spR [7, 10] (fun x w' => Own w' (From w4.heap.size w') 1 x (fxW fd.df (widthW fd.kind)).length (octets (fxW fd.df (widthW fd.kind)))), spR [5, 11] (fun x w' => x = .bool (decide (fxW n (widthW fd.kind) = fxW fd.df (widthW fd.kind))))] 78 [] hmx he27 (by simp [shape]) (by simp [plainO]) (by simp [spC, spR]) (by simp; omega) ⟨lCc _ _ _, lCc _ _ _, lCc _ _ _, lCc _ _ _, lCc _ _ _, (fun v w1 w2 f h => h.upTo f (From.mono f.size)), lCc _ _ _, lCc _ _ _, lCc _ _ _, lCc _ _ _, lCc _ _ _, (fun v w1 w2 f h => h.upTo f (From.mono f.size)), (fun v w1 w2 f h => h), trivial⟩ ?_ ?_
  · refine oCs ?_ ?_
    · refine op_c fun a' w' hk' hf' hd' K' hK' => ?_;refine wFa (b := w2.heap.size) (i := 0) (hFlT26.fld (by decide)) (by rw [eTm, hk'.get 3 (by omega), g114_3]) ?_;rw [show (0 + 0 : Nat) = 0 from rfl];exact hK'
    refine oCs ?_ ?_
    · refine op_c fun a' w' hk' hf' hd' K' hK' => ?_;refine wL0 (j := 0) (v := .int .i64 n) hcT2 (by rw [eTm]; exact hd'.c (nd' := []) 0 (by simp) rfl) (hf'.range r4 .nil) rfl ?_;exact hK'
    refine oCs ?_ ?_
    · refine op_c fun a' w' hk' hf' hd' K' hK' => ?_;refine wFa (b := w.heap.size) (i := 0) (hFlT45.fld (by decide)) (by rw [eTm, hk'.get 2 (by omega), g114_2]) ?_;rw [show (0 + 0 : Nat) = 0 from rfl];exact hK'
    refine oCs ?_ ?_
    · refine op_c fun a' w' hk' hf' hd' K' hK' => ?_;refine wL0 (j := 0) (v := .int .i64 fd.kind) hcT3 (by rw [eTm]; exact hd'.c (nd' := []) 2 (by simp) rfl) (hf'.range rb6 .nil) rfl ?_;exact hK'
    refine oCs ?_ ?_
    · refine op_c fun a' w' hk' hf' hd' K' hK' => ?_;refine wCr (R := fun x wz => x = .int .i64 (widthW fd.kind : Nat) ∧ wz = w') (vs := #[.int .i64 fd.kind]) hWi.enters (by simp only [List.map_toArray, List.map_cons, List.map_nil]; rw [show a'.eval (.tmp 81) = Value.int .i64 fd.kind from (by rw [eTm]; exact hd'.c (nd' := [2]) 3 (by simp) rfl)]) ((hWi.call w' fd.kind).mono (by rintro e wz ⟨rfl, rfl⟩; exact ⟨_, rfl, rfl, rfl⟩)) ?_;rintro _ _ ⟨rfl, rfl⟩;exact hK'
    refine oCs ?_ ?_
    · refine op_r fun a' w' hk' hf' hd' K' hK' => ?_;refine wCr (R := fun vz wz => Fr [] w' wz ∧ Own wz (From w'.heap.size wz) 1 vz (fxW n (widthW fd.kind)).length (octets (fxW n (widthW fd.kind)))) (vs := #[.int .i64 n, .int .i64 ((widthW fd.kind : Nat) : Int)]) hFx.enters (by simp only [List.map_toArray, List.map_cons, List.map_nil]; rw [show a'.eval (.tmp 79) = Value.int .i64 n from (by rw [eTm]; exact hd'.c (nd' := [0]) 1 (by simp) rfl), show a'.eval (.tmp 82) = Value.int .i64 ((widthW fd.kind : Nat) : Int) from (by rw [eTm]; exact hd'.c (nd' := [3]) 4 (by simp) rfl)]) (calls_fresh (hFx.call w' n (widthW fd.kind) (widthW_le _))) ?_;rintro x117 w117 ⟨fr117, ow117⟩;exact hK' x117 w117 (ow117.from hf'.size) fr117
    refine oCs ?_ ?_
    · refine op_c fun a' w' hk' hf' hd' K' hK' => ?_;refine wFa (b := w.heap.size) (i := 0) (hFlT45.fld (by decide)) (by rw [eTm, hk'.get 2 (by omega), g114_2]) ?_;rw [show (0 + 5 : Nat) = 5 from rfl];exact hK'
    refine oCs ?_ ?_
    · refine op_c fun a' w' hk' hf' hd' K' hK' => ?_;refine wL0 (j := 5) (v := .int .i64 fd.df) hcT2 (by rw [eTm]; exact hd'.c (nd' := []) 6 (by simp) rfl) (hf'.range rb6 .nil) rfl ?_;exact hK'
    refine oCs ?_ ?_
    · refine op_c fun a' w' hk' hf' hd' K' hK' => ?_;refine wFa (b := w.heap.size) (i := 0) (hFlT45.fld (by decide)) (by rw [eTm, hk'.get 2 (by omega), g114_2]) ?_;rw [show (0 + 0 : Nat) = 0 from rfl];exact hK'
    refine oCs ?_ ?_
    · refine op_c fun a' w' hk' hf' hd' K' hK' => ?_;refine wL0 (j := 0) (v := .int .i64 fd.kind) hcT3 (by rw [eTm]; exact hd'.c (nd' := []) 8 (by simp) rfl) (hf'.range rb6 .nil) rfl ?_;exact hK'
    refine oCs ?_ ?_
    · refine op_c fun a' w' hk' hf' hd' K' hK' => ?_;refine wCr (R := fun x wz => x = .int .i64 (widthW fd.kind : Nat) ∧ wz = w') (vs := #[.int .i64 fd.kind]) hWi.enters (by simp only [List.map_toArray, List.map_cons, List.map_nil]; rw [show a'.eval (.tmp 87) = Value.int .i64 fd.kind from (by rw [eTm]; exact hd'.c (nd' := [8]) 9 (by simp) rfl)]) ((hWi.call w' fd.kind).mono (by rintro e wz ⟨rfl, rfl⟩; exact ⟨_, rfl, rfl, rfl⟩)) ?_;rintro _ _ ⟨rfl, rfl⟩;exact hK'
    refine oCs ?_ ?_
    · refine op_r fun a' w' hk' hf' hd' K' hK' => ?_;refine wCr (R := fun vz wz => Fr [] w' wz ∧ Own wz (From w'.heap.size wz) 1 vz (fxW fd.df (widthW fd.kind)).length (octets (fxW fd.df (widthW fd.kind)))) (vs := #[.int .i64 fd.df, .int .i64 ((widthW fd.kind : Nat) : Int)]) hFx.enters (by simp only [List.map_toArray, List.map_cons, List.map_nil]; rw [show a'.eval (.tmp 85) = Value.int .i64 fd.df from (by rw [eTm]; exact hd'.c (nd' := [6]) 7 (by simp) rfl), show a'.eval (.tmp 88) = Value.int .i64 ((widthW fd.kind : Nat) : Int) from (by rw [eTm]; exact hd'.c (nd' := [9]) 10 (by simp) rfl)]) (calls_fresh (hFx.call w' fd.df (widthW fd.kind) (widthW_le _))) ?_;rintro x118 w118 ⟨fr118, ow118⟩;exact hK' x118 w118 (ow118.from hf'.size) fr118
    refine oCs ?_ ?_
    · refine op_r fun a' w' hk' hf' hd' K' hK' => ?_;have hx5 : Own w' (From w4.heap.size w') 1 (get a' 83) (fxW n (widthW fd.kind)).length (octets (fxW n (widthW fd.kind))) := hd'.at (d := 5) (by simp) rfl;have hx11 : Own w' (From w4.heap.size w') 1 (get a' 89) (fxW fd.df (widthW fd.kind)).length (octets (fxW fd.df (widthW fd.kind))) := hd'.at (d := 11) (by simp) rfl;refine wCr (R := fun x wz => x = .bool (decide (fxW n (widthW fd.kind) = fxW fd.df (widthW fd.kind))) ∧ Fr [] w' wz) (vs := #[(get a' 83), (get a' 89)]) hSa.enters (by simp only [List.map_toArray, List.map_cons, List.map_nil]; rw [show a'.eval (.tmp 83) = (get a' 83) from (by rw [eTm]), show a'.eval (.tmp 89) = (get a' 89) from (by rw [eTm])]) ((hSa.call w' _ _ _ _ _ _ (hx5.octE (by rw [fxL]; have := widthW_le fd.kind; omega)) (hx11.octE (by rw [fxL]; have := widthW_le fd.kind; omega)) (by rw [fxL, fxL])).mono (by rintro e wz ⟨rfl, h⟩; exact ⟨_, rfl, rfl, h⟩)) ?_;rintro x wz ⟨rfl, fr⟩;exact hK' _ wz rfl fr
    exact opsOk_nil
  intro a119 w119 k119 f119 hd_119;have hz119 : a119.tmps.size = 91 := k119.size.trans hz114;have hd119 : a119.defers = [] := k119.defers.trans hd114;have hF120 : Fr [] w w119 := hF5.tr f119;have rb121 := f119.range rb6 .nil;have rb122 := f119.range r4 .nil;have hb12 : get a119 90 = .bool (decide (fxW n (widthW fd.kind) = fxW fd.df (widthW fd.kind))) := hd_119.at (d := 12) (by simp) rfl;refine wC (wAs (v := .bool (decide (fxW n (widthW fd.kind) = fxW fd.df (widthW fd.kind)))) (by rw [eTm, hb12]) ?_);refine wEk hz119 hd119 fun a123 ha123 hz123 hd123 => ?_;have g123_4 : get a123 4 = .bool (decide (fxW n (widthW fd.kind) = fxW fd.df (widthW fd.kind))) := kG ha123 hz119;refine hK116 a123 w119 (tUp ?_);refine wp_ret ?_;have hW : usualW fd (.mk n s nl l u) = (decide (fxW n (widthW fd.kind) = fxW fd.df (widthW fd.kind))) := by rw [usualW_eq, if_neg h0, if_neg h7, if_neg h8, if_neg h11, if_neg h10]; rfl
  exact ⟨hd123, _, rIs hres g123_4, by rw [hW], hF120⟩
end Go.Kq

namespace Go.Kq
open Go
def Inv (f : Rd) (ver : Int) (fl : Bool) (ap : V → List UInt8) (out : List UInt8) : Prop :=
  ∀ rest nl, (nl = true → out ++ rest = []) → ∃ x, f ver fl ⟨out ++ rest, nl, false⟩ = some (x, ⟨rest, nl, false⟩) ∧ ap x = out
def InvL (f : Rd) (ver : Int) (fl : Bool) (gs : List (V → List UInt8)) (out : List UInt8) : Prop :=
  ∀ rest nl, (nl = true → out ++ rest = []) → ∃ xs, f ver fl ⟨out ++ rest, nl, false⟩ = some (.l xs, ⟨rest, nl, false⟩) ∧ apAll gs xs = out
theorem invl_nil {ver : Int} {fl : Bool} : InvL rdSt0 ver fl [] [] := fun rest nl _ => ⟨[], rfl, rfl⟩
theorem invl_cons {f g : Rd} {ver : Int} {fl : Bool} {a : V → List UInt8} {gs : List (V → List UInt8)} {o1 o2 : List UInt8} (h1 : Inv f ver fl a o1) (h2 : InvL g ver fl gs o2) : InvL (rdCons f g) ver fl (a :: gs) (o1 ++ o2) := by
  intro rest nl hn;obtain ⟨x, hx, hax⟩ := h1 (o2 ++ rest) nl (by rw [← List.append_assoc]; exact hn);obtain ⟨xs, hxs, haxs⟩ := h2 rest nl (fun h => by have := hn h; simp only [List.append_eq_nil_iff] at this ⊢; exact ⟨this.1.2, this.2⟩);refine ⟨x :: xs, ?_, by simp only [apAll, hax, haxs]⟩;rw [List.append_assoc];simp only [rdCons, hx, hxs, consV]
theorem inv_st {f : Rd} {ver : Int} {fl : Bool} {gs : List (V → List UInt8)} {o : List UInt8} (h : InvL f ver fl gs o) : Inv f ver fl (apSt gs) o := by
  intro rest nl hn;obtain ⟨xs, h1, h2⟩ := h rest nl hn;exact ⟨.l xs, h1, h2⟩
theorem inv_if {p : Int → Bool} {dv : V} {f : Rd} {ver : Int} {fl : Bool} {a : V → List UInt8} {o : List UInt8} (h : p ver = true → Inv f ver fl a o) : Inv (rdIf p dv f) ver fl (fun x => if p ver then a x else []) (if p ver then o else []) := by
  intro rest nl hn
  by_cases hp : p ver = true
  · simp only [hp, if_true] at hn ⊢;obtain ⟨x, h1, h2⟩ := h hp rest nl hn;exact ⟨x, by simp only [rdIf, hp, if_true]; exact h1, h2⟩
  have hp : p ver = false := by simpa using hp
  exact ⟨dv, by simp [rdIf, hp], by simp [hp]⟩
theorem inv_two {g1 g2 : RSt → V × RSt} {ver : Int} {fl : Bool} {a1 a2 : V → List UInt8} {o1 o2 : List UInt8} (h1 : fl = true → Inv (rdOne fun _ _ => g1) ver fl a1 o1) (h2 : fl = false → Inv (rdOne fun _ _ => g2) ver fl a2 o2) :
    Inv (rdOne fun _ fl st => if fl then g1 st else g2 st) ver fl (fun x => if fl then a1 x else a2 x) (if fl then o1 else o2) := by
  intro rest nl hn
  cases fl with
  | true => exact h1 rfl rest nl hn
  | false => exact h2 rfl rest nl hn
theorem u8_mod (n : Nat) : (UInt8.ofNat n).toNat = n % 256 := by simp
theorem beNat_f2 (i : Int) : ((Lib.beNat (fxW i 2) : Nat) : Int) = i % 65536 := by
  simp only [fxW, be2, u8_mod, Nat.reduceMul, Nat.reducePow]; omega
theorem beNat_f4 (i : Int) : ((Lib.beNat (fxW i 4) : Nat) : Int) = i % 4294967296 := by
  simp only [fxW, be4, u8_mod, Nat.reduceMul, Nat.reducePow]; omega
theorem rdTake_app {k : Nat} {o rest : List UInt8} {nl : Bool} (h : o.length = k) : rdTake k ⟨o ++ rest, nl, false⟩ = (some o, ⟨rest, nl, false⟩) := by
  subst h;simp [rdTake]
theorem rdNum_app {kd : IntKind} {k : Nat} {i : Int} {rest : List UInt8} {nl : Bool} : rdNum kd k ⟨fxW i k ++ rest, nl, false⟩ = (kd.wrap (Lib.beNat (fxW i k)), ⟨rest, nl, false⟩) := by
  simp only [rdNum, rdTake_app (fxL i k)]
theorem inv_num {kd : IntKind} {k : Nat} {i : Int} {ver : Int} {fl : Bool} (h : fxW (kd.wrap (Lib.beNat (fxW i k))) k = fxW i k) : Inv (rdOne fun _ _ => gNum kd k) ver fl (apInt k) (fxW i k) := by
  intro rest nl _;refine ⟨.n (kd.wrap (Lib.beNat (fxW i k))), ?_, h⟩;simp only [rdOne, gNum, rdNum_app]
theorem inv_i16 {i ver : Int} {fl : Bool} : Inv (rdOne fun _ _ => gNum .i16 2) ver fl (apInt 2) (fxW i 2) := inv_num (by rw [fixedW_w16, beNat_f2, fixedW_mod2])
theorem inv_i32 {i ver : Int} {fl : Bool} : Inv (rdOne fun _ _ => gNum .i32 4) ver fl (apInt 4) (fxW i 4) := inv_num (by rw [fixedW_w32, beNat_f4, fixedW_mod4])
theorem inv_u16 {i ver : Int} {fl : Bool} : Inv (rdOne fun _ _ => gNum .u16 2) ver fl (apInt 2) (fxW i 2) := inv_num (by rw [beNat_f2, show IntKind.u16.wrap (i % 65536) = i % 65536 from by simp [IntKind.wrap, IntKind.signed, IntKind.bits], fixedW_mod2])
theorem rdSpan_app {o rest : List UInt8} {l : Int} {nl : Bool} (h : l = o.length) (hn : nl = true → o ++ rest = []) : ∃ y, rdSpan l ⟨o ++ rest, nl, false⟩ = (y, ⟨rest, nl, false⟩) ∧ y.getD [] = o ∧ (nl = false → y = some o) := by
  subst h
  cases nl with
  | true =>
    have := hn rfl;simp only [List.append_eq_nil_iff] at this;obtain ⟨rfl, rfl⟩ := this;exact ⟨none, by simp [rdSpan], rfl, by simp⟩
  | false =>
    refine ⟨some o, ?_, rfl, fun _ => rfl⟩;have h1 : ¬ (((o ++ rest).length : Int) < (o.length : Int) ∨ (o.length : Int) < 0) := by rw [List.length_append]; omega
    simp only [rdSpan, if_neg h1];simp
theorem nl_false {nl : Bool} {o r : List UInt8} (h : nl = true → o ++ r = []) (ho : o ≠ []) : nl = false := by
  cases nl with
  | false => rfl
  | true => exact absurd (List.append_eq_nil_iff.1 (h rfl)).1 ho
theorem fixedW_ne {i : Int} {k : Nat} (hk : 0 < k) : fxW i k ≠ [] := by
  intro h; have := fxL i k; rw [h] at this; simp at this; omega
theorem rd16 {n : Nat} (h : n ≤ 32767) {rest : List UInt8} {nl : Bool} : rdNum .i16 2 ⟨fxW (n : Int) 2 ++ rest, nl, false⟩ = ((n : Int), ⟨rest, nl, false⟩) := by
  rw [rdNum_app, beNat_f2]
  congr 1
  simp [IntKind.wrap, IntKind.signed, IntKind.bits]; omega
theorem rd32 {n : Nat} (h : n ≤ 2147483647) {rest : List UInt8} {nl : Bool} : rdNum .i32 4 ⟨fxW (n : Int) 4 ++ rest, nl, false⟩ = ((n : Int), ⟨rest, nl, false⟩) := by
  rw [rdNum_app, beNat_f4]
  congr 1
  simp [IntKind.wrap, IntKind.signed, IntKind.bits]; omega
theorem inv_str {s : List UInt8} (h : s.length ≤ 32767) {ver : Int} {fl : Bool} : Inv (rdOne fun _ _ => gStr) ver fl apStr (fxW s.length 2 ++ s) := by
  intro rest nl hn;have hnl := nl_false hn (by simp [fixedW_ne]);subst hnl;obtain ⟨y, h1, h2, _⟩ := rdSpan_app (o := s) (rest := rest) (l := s.length) (nl := false) rfl (by simp);refine ⟨.s s, ?_, rfl⟩;simp only [rdOne, gStr, rdString, List.append_assoc, rd16 h, h1, h2]
theorem uvGo_uvW : ∀ (k n : Nat) (rest : List UInt8), n * 8 < 128 ^ (k + 1) → uvGo (k + 1) (uvW n ++ rest) = some (n, (uvW n).length)
  | 0, n, rest, h => by
    have hn : n < 16 := by simp at h; omega
    rw [uvW, if_neg (by omega)];have h1 : (UInt8.ofNat n).toNat = n := by rw [u8_mod]; omega
    simp [uvGo, h1]
    omega
  | k + 1, n, rest, h => by
    rw [uvW]
    split
    · rename_i hn
      have h1 : (UInt8.ofNat (n % 128 + 128)).toNat = n % 128 + 128 := by rw [u8_mod]; omega
      have hp : 128 ^ (k + 1 + 1) = 128 * 128 ^ (k + 1) := by rw [Nat.pow_succ]; omega
      rw [hp] at h;have ih := uvGo_uvW k (n / 128) rest (by omega);rw [List.cons_append];simp only [uvGo, h1, ih];simp
      rw [if_neg (by omega)]; congr 2; omega
    have h1 : (UInt8.ofNat n).toNat = n := by rw [u8_mod]; omega
    simp [uvGo, h1]
    omega
theorem rdUv_app {n : Nat} (h : n < 4294967296) {rest : List UInt8} {nl : Bool} : rdUv ⟨uvW n ++ rest, nl, false⟩ = (n, ⟨rest, nl, false⟩) := by
  have h1 : uv (uvW n ++ rest) = some (n, (uvW n).length) := uvGo_uvW 4 n rest (by simp; omega);simp [rdUv, h1]
theorem uvW_ne (n : Nat) : uvW n ≠ [] := by
  intro h; have := uvW_pos n; rw [h] at this; simp at this
theorem inv_cstr {s : List UInt8} (h : s.length ≤ 32767) {ver : Int} {fl : Bool} : Inv (rdOne fun _ _ => gCStr) ver fl apCStr (uvW (s.length + 1) ++ s) := by
  intro rest nl hn;have hnl := nl_false hn (by simp [uvW_ne]);subst hnl;obtain ⟨y, h1, h2, _⟩ := rdSpan_app (o := s) (rest := rest) (l := s.length) (nl := false) rfl (by simp);refine ⟨.s s, ?_, rfl⟩;have e : ((s.length + 1 : Nat) : Int) - 1 = s.length := by omega
  simp only [rdOne, gCStr, rdCString, List.append_assoc, rdUv_app (show s.length + 1 < 4294967296 by omega), e, h1, h2]
theorem rdMany_app {f : Rd} {ver : Int} {fl : Bool} {a : V → List UInt8} : ∀ (os : List (List UInt8)) (rest : List UInt8), (∀ o ∈ os, Inv f ver fl a o) →
    ∃ xs, rdMany f ver fl os.length ⟨os.flatten ++ rest, false, false⟩ = some (xs, ⟨rest, false, false⟩) ∧ xs.length = os.length ∧ (xs.map a).flatten = os.flatten
  | [], rest, _ => ⟨[], rfl, rfl, rfl⟩
  | o :: os, rest, h => by
    obtain ⟨x, h1, h2⟩ := h o (by simp) (os.flatten ++ rest) false (by simp);obtain ⟨xs, h3, h4, h5⟩ := rdMany_app os rest fun o ho => h o (by simp [ho]);refine ⟨x :: xs, ?_, by simp [h4], by simp [h2, h5]⟩;simp only [List.flatten_cons, List.append_assoc, List.length_cons, rdMany, h1, h3]
theorem flatten_len {os : List (List UInt8)} (h : ∀ o ∈ os, 1 ≤ o.length) : os.length ≤ os.flatten.length := by
  induction os with
  | nil => simp
  | cons o os ih =>
    have h1 := h o (by simp);have h2 := ih fun o ho => h o (by simp [ho]);simp only [List.flatten_cons, List.length_append, List.length_cons]; omega
def LenI (len : RSt → V × RSt) (lo : List UInt8) (n : Nat) : Prop := lo ≠ [] ∧ ∀ rest : List UInt8, n ≤ rest.length → len ⟨lo ++ rest, false, false⟩ = (.n n, ⟨rest, false, false⟩)
theorem len_fixed {n : Nat} (h : n ≤ 32767) : LenI gALen (fxW n 4) n := by
  refine ⟨fixedW_ne (by omega), fun rest hr => ?_⟩;have h0 : ¬ ((rest.length : Int) < (n : Int)) := by omega
  simp only [gALen, rdArrayLen, rd32 (show n ≤ 2147483647 by omega), h0, if_false]
theorem len_uv {n : Nat} (h : n ≤ 32767) : LenI gCALen (uvW (n + 1)) n := by
  refine ⟨uvW_ne _, fun rest hr => ?_⟩;have h0 : ¬ ((rest.length : Int) < (n : Int)) := by omega
  have e : IntKind.i32.wrap (IntKind.i32.wrap ((n + 1 : Nat) : Int) - 1) = (n : Int) := by
    simp [IntKind.wrap, IntKind.signed, IntKind.bits]; omega
  simp only [gCALen, rdCArrayLen, rdUv_app (show n + 1 < 4294967296 by omega), e, h0, if_false]
theorem inv_arr {len : Int → Bool → RSt → V × RSt} {f : Rd} {ver : Int} {fl : Bool} {a : V → List UInt8} {la : Nat → List UInt8} {lo : List UInt8} {os : List (List UInt8)} (hl : LenI (len ver fl) lo os.length) (hla : la os.length = lo) (ho : ∀ o ∈ os, Inv f ver fl a o) (h1 : ∀ o ∈ os, 1 ≤ o.length) :
    Inv (rdArr len f) ver fl (fun x => la x.items.length ++ (x.items.map a).flatten) (lo ++ os.flatten) := by
  intro rest nl hn;have hnl := nl_false hn (by simp [hl.1]);subst hnl;have h2 := hl.2 (os.flatten ++ rest) (by rw [List.length_append]; have := flatten_len h1; omega);obtain ⟨xs, h3, h4, h5⟩ := rdMany_app os rest ho;simp only [rdArr, List.append_assoc, h2]
  by_cases h0 : os.length = 0
  · have : os = [] := List.eq_nil_of_length_eq_zero h0;subst this;exact ⟨.nil, by simp, by simp [V.items, ← hla]⟩
  refine ⟨.l xs, ?_, by simp [V.items, h4, h5, hla]⟩;have h6 : (0 : Int) < os.length := by omega
  have h7 : os ≠ [] := by rintro rfl; exact h0 rfl
  simp [h7, h3]
end Go.Kq

namespace Go.Kq
open Go Go.Proofs
theorem knownW_le : ∀ {fs : List Fd}, (∀ f ∈ fs, f.tag < 4294967295) → knownW fs ≤ 4294967295
  | [], _ => by simp [knownW]
  | f :: fs, h => by
    have h1 := h f (by simp);have h2 := knownW_le fun g hg => h g (List.mem_cons_of_mem f hg);unfold knownW
    split <;> omega
theorem bodyW_step {fs : List Fd} {ver : Int} {encs : List (List UInt8)} {j : Nat} {fd : Fd} (h : fs[j]? = some fd) : bodyW fs ver encs (j + 1) = bodyW fs ver encs j ++ if (decide (fd.tag < 0) && fd.has ver) = true then encs.getD j [] else [] := by
  unfold bodyW;rw [List.range_succ, List.flatMap_append];simp [h]
def Gap (a b c : Nat) (w : World) (x : Nat) : Prop := (a ≤ x ∧ x < b) ∨ (c ≤ x ∧ x < w.heap.size)
theorem Gap.mono {a b c : Nat} {w w' : World} (h : w.heap.size ≤ w'.heap.size) (x : Nat) (hx : Gap a b c w x) : Gap a b c w' x := by
  rcases hx with hx | hx
  · exact .inl hx
  exact .inr ⟨hx.1, by omega⟩
theorem gap_or {a b c : Nat} {w w' : World} (h1 : c ≤ w.heap.size) (h2 : w.heap.size ≤ w'.heap.size) (x : Nat) (hx : Gap a b c w x ∨ (w.heap.size ≤ x ∧ x < w'.heap.size)) : Gap a b c w' x := by
  rcases hx with hx | hx
  · exact Gap.mono h2 x hx
  exact .inr ⟨by omega, hx.2⟩
section
variable {fs : List Fd} {t : T} {encs : List (List UInt8)}
def knAt (fs : List Fd) (t : T) (encs : List (List UInt8)) (tag i : Nat) : List (Nat × List UInt8) := match fs[i]? with
  | some f => if decide (f.tag = ((tag : Nat) : Int)) && !usualW f (atT t.l i) then [(tag, encs.getD i [])] else []
  | none => []
def knIn (fs : List Fd) (t : T) (encs : List (List UInt8)) (tag n : Nat) : List (Nat × List UInt8) := (List.range n).flatMap (knAt fs t encs tag)
def knUp (fs : List Fd) (t : T) (encs : List (List UInt8)) (n : Nat) : List (Nat × List UInt8) := (List.range n).flatMap fun tag => knIn fs t encs tag fs.length
def knTo (fs : List Fd) (t : T) (encs : List (List UInt8)) (k j : Nat) : List (Nat × List UInt8) := knUp fs t encs k ++ knIn fs t encs k j
theorem knowns_eq : knownsW fs t encs = knUp fs t encs (knownW fs) := rfl
theorem knTo_zero {k : Nat} : knTo fs t encs k 0 = knUp fs t encs k := by simp [knTo, knIn]
theorem knTo_all {k : Nat} : knTo fs t encs k fs.length = knUp fs t encs (k + 1) := by simp [knTo, knUp, List.range_succ]
theorem knTo_succ {k j : Nat} : knTo fs t encs k (j + 1) = knTo fs t encs k j ++ knAt fs t encs k j := by simp [knTo, knIn, List.range_succ]
theorem knIn_pre {k j : Nat} : ∀ d : Nat, ∃ r, knIn fs t encs k (j + d) = knIn fs t encs k j ++ r
  | 0 => ⟨[], by simp⟩
  | d + 1 => by
    obtain ⟨r, h⟩ := knIn_pre (k := k) (j := j) d;exact ⟨r ++ knAt fs t encs k (j + d), by rw [← List.append_assoc, ← h]; simp [knIn, ← Nat.add_assoc, List.range_succ]⟩
theorem knUp_pre {k : Nat} : ∀ d : Nat, ∃ r, knUp fs t encs (k + d) = knUp fs t encs k ++ r
  | 0 => ⟨[], by simp⟩
  | d + 1 => by
    obtain ⟨r, h⟩ := knUp_pre (k := k) d;exact ⟨r ++ knIn fs t encs (k + d) fs.length, by rw [← List.append_assoc, ← h]; simp [knUp, ← Nat.add_assoc, List.range_succ]⟩
theorem knTo_pre {k j : Nat} (hk : k < knownW fs) (hj : j ≤ fs.length) : ∃ r, knownsW fs t encs = knTo fs t encs k j ++ r := by
  obtain ⟨r1, h1⟩ := knUp_pre (fs := fs) (t := t) (encs := encs) (k := k + 1) (knownW fs - (k + 1));obtain ⟨r2, h2⟩ := knIn_pre (fs := fs) (t := t) (encs := encs) (k := k) (j := j) (fs.length - j);rw [show k + 1 + (knownW fs - (k + 1)) = knownW fs from by omega] at h1;rw [show j + (fs.length - j) = fs.length from by omega] at h2;refine ⟨r2 ++ r1, ?_⟩;rw [knowns_eq, h1, ← knTo_all];simp only [knTo, h2, List.append_assoc]
theorem pairs_len : ∀ (l : List (Nat × List UInt8)), l.length ≤ (l.flatMap pairW).length
  | [] => by simp
  | p :: l => by
    have h1 := pairs_len l;have h2 : 1 ≤ (pairW p).length := by
      have : uvW p.1 ≠ [] := uvW_ne _;have h3 : 0 < (uvW p.1).length := List.length_pos_iff.2 this;simp only [pairW, List.length_append]; omega
    simp only [List.flatMap_cons, List.length_append, List.length_cons]; omega
end
set_option maxHeartbeats 16000000 in
theorem partk_m {P : Program} {f : FuncId} {fn : Func} {T3 T4 T22 T24 T26 T29 T45 T59 T61 T76 : TypeId} {f54 f55 f56 f57 f58 f59 f60 f61 : FuncId} {ct0 : Array TypeId} {ct1 : Array TypeId} {ct2 : Array TypeId} {ct3 : Array TypeId} {ct4 : Array TypeId} {ct5 : Array TypeId} {ct6 : Array TypeId} {ct7 : Array TypeId} {ct8 : Array TypeId} {ct9 : Array TypeId} {ct10 : Array TypeId} {ct11 : Array TypeId} {ct12 : Array TypeId} {ct13 : Array TypeId} {ct14 : Array TypeId} {i0 i1 i2 i3 i4 i5 i6 i7 i8 i9 i10 i11 i12 i13 i14 i15 i16 i17 i18 i19 i20 i21 i22 i23 i24 i25 i26 i27 i28 i29 i30 : Nat} {t0 t1 t2 t3 t4 t5 t6 t7 t8 t9 t10 t11 t12 t13 t14 t15 t16 t17 t18 t19 t20 t21 t22 t23 t24 t25 t26 t27 t28 t29 t30 t31 t32 t33 t34 t35 t36 t37 t38 t39 t40 t41 t42 t43 t44 t45 t46 t47 t48 t49 t50 t51 t52 t53 t54 t55 t56 t57 t58 t59 t60 t61 t62 t63 t64 t65 t66 t67 t68 t69 t70 t71 t72 t73 t74 t75 t76 t77 t78 t79 t80 t81 t82 t83 t84 t85 t86 t87 t88 t89 t90 t91 t92 t93 t94 t95 t96 t97 t98 t99 t100 t101 t102 t103 t104 t105 t106 t107 t108 t109 t110 t111 t112 t113 t114 t115 t116 t117 t118 t119 t120 t121 t122 t123 t124 t125 t126 t127 t128 t129 t130 t131 t132 t133 t134 t135 t136 t137 : TypeId} {p0 p1 p2 p3 p4 p5 p6 p7 p8 p9 p10 p11 p12 p13 p14 p15 p16 p17 p18 p19 p20 p21 p22 p23 p24 p25 p26 p27 p28 p29 p30 p31 p32 p33 p34 p35 p36 p37 p38 p39 p40 p41 p42 p43 p44 p45 p46 p47 p48 p49 p50 p51 p52 p53 p54 p55 p56 p57 p58 p59 p60 p61 p62 p63 p64 p65 p66 p67 p68 p69 p70 p71 p72 p73 p74 p75 p76 p77 p78 p79 p80 p81 p82 p83 p84 p85 p86 p87 p88 p89 p90 p91 p92 p93 p94 p95 p96 p97 p98 p99 p100 p101 p102 p103 p104 p105 p106 p107 p108 p109 p110 p111 p112 p113 p114 p115 p116 p117 p118 p119 p120 p121 p122 p123 p124 p125 p126 p127 p128 p129 p130 p131 p132 p133 p134 p135 p136 p137 : String} {e0 e1 e2 e3 e4 e5 e6 e7 e8 e9 e10 e11 e12 e13 e14 e15 e16 e17 e18 e19 e20 e21 e22 e23 e24 e25 e26 e27 e28 e29 e30 e31 e32 e33 e34 e35 e36 e37 e38 e39 e40 e41 e42 e43 e44 e45 e46 e47 e48 e49 e50 e51 e52 e53 e54 e55 e56 e57 e58 e59 e60 e61 e62 e63 e64 e65 e66 e67 e68 e69 e70 e71 e72 e73 e74 e75 e76 e77 e78 e79 e80 e81 e82 e83 e84 e85 e86 e87 e88 e89 e90 e91 e92 e93 e94 e95 e96 e97 e98 e99 e100 e101 e102 e103 e104 e105 e106 e107 e108 e109 e110 e111 e112 e113 e114 e115 e116 e117 e118 e119 e120 e121 e122 e123 e124 e125 e126 e127 e128 e129 e130 e131 e132 e133 e134 e135 e136 e137 : Array Edge} {te te8 teT : TypeId} {tb : Nat} {fs : List Fd}
    (hf : P.funcs[f]? = some fn) (hname : (fn.name == "runtime.NumGoroutine") = false) (hres : fn.results = #[.tmp 8]) (hN : fn.ntmps = 132)
    (hbody : fn.body = some (.seq (Code.region i0 ⟨[⟨some 7, .box T26 (.tmp 3), t0, p0, e0, none⟩,
    oA 8 (.const (.slice none 0 0)) t1 p1 e1]⟩ false) (.seq (Code.region i1 ⟨[oA 9 (.const (.slice none 0 0)) t2 p2 e2,
    oA 10 (.const (.slice none 0 0)) t3 p3 e3]⟩ false) (.seq (Code.region i2 ⟨[oA 11 (.const (.int .i64 0)) t4 p4 e4]⟩ false) (.seq (.seq (Code.region i3 ⟨[oM 21 0 t5 p5 e5, ⟨some 22, .call ⟨.builtin .len, #[(.tmp 21)], #[T29]⟩, t6, p6, e6, none⟩, ⟨some 23, .move (.const (.int .i64 0)), t7, p7, e7, none⟩]⟩ false) (.block 0 (.loop (.seq (Code.region i4 ⟨[⟨some 24, .binOp .lss T3 (.tmp 23) (.tmp 22) T3, t8, p8, e8, none⟩]⟩ false) (.seq (.cond (.tmp 24) .skip
  (.exit 0)) (.seq (.block 1 (.seq (Code.region i5 ⟨[oM 25 23 t9 p9 e9, ⟨some 26, .indexAddr T29 (.tmp 21) (.tmp 23), t10, p10, e10, none⟩,
    oL 27 T45 26 t11 p11 e11, ⟨some 13, .alloc T45, t12, p12, e12, none⟩,
    oT 12 25 t13 p13 e13,
    oS T45 13 27 t14 p14 e14]⟩ false) (.seq (Code.region i6 ⟨[oF 28 T45 13 4 t15 p15 e15,
    oL 29 T3 28 t16 p16 e16, ⟨some 30, .binOp .lss T3 (.tmp 29) (.const (.int .i64 0)) T3, t17, p17, e17, none⟩,
    oM 31 30 t18 p18 e18, ⟨some 32, .load T45 (.tmp 13), t19, p19, e19, some (3, true)⟩, ⟨some 33, .move (.tmp 1), t20, p20, e20, some (3, true)⟩, ⟨some 34, .call ⟨.value (.func f54), #[(.tmp 32), (.tmp 33)], ct0⟩, t21, p21, e21, some (3, true)⟩, ⟨some 35, .pick (.tmp 31) (.tmp 34) (.const (.bool false)), t22, p22, e22, none⟩]⟩ false) (.cond (.tmp 35) (Code.region i7 ⟨[oM 36 9 t23 p23 e23,
    oL 37 T45 13 t24 p24 e24,
    oM 38 1 t25 p25 e25,
    oM 39 2 t26 p26 e26,
    oL 40 T26 7 t27 p27 e27,
    oM 41 12 t28 p28 e28,
    oC 42 f56 #[(.tmp 40), (.tmp 41)] ct1 t29 p29 e29,
    oC 43 f55 #[(.tmp 37), (.tmp 38), (.tmp 39), (.tmp 42)] ct2 t30 p30 e30, ⟨some 44, .call ⟨.builtin .append, #[(.tmp 36), (.tmp 43)], #[T22, T22]⟩, t31, p31, e31, none⟩,
    oT 9 44 t32 p32 e32]⟩ true) .skip))))
  (Code.region i8 ⟨[⟨some 45, .binOp .add T3 (.tmp 23) (.const (.int .i64 1)) T3, t33, p33, e33, none⟩,
    oM 23 45 t34 p34 e34]⟩ false))))))) (.seq (.seq (Code.region i9 ⟨[oM 46 2 t35 p35 e35, ⟨some 47, .unOp .not T4 (.tmp 46), t36, p36, e36, none⟩]⟩ false) (.cond (.tmp 47) (.seq (Code.region i10 ⟨[oM 48 9 t37 p37 e37,
    oT 8 48 t38 p38 e38]⟩ false) .ret) .skip)) (.seq (.seq (Code.region i11 ⟨[oM 49 0 t39 p39 e39,
    oC 50 f57 #[(.tmp 49)] ct3 t40 p40 e40, ⟨some 51, .convert T59 T3 (.tmp 50), t41, p41, e41, none⟩, ⟨some 52, .move (.const (.int .i64 0)), t42, p42, e42, none⟩]⟩ false) (.block 2 (.loop (.seq (Code.region i12 ⟨[⟨some 53, .binOp .lss T3 (.tmp 52) (.tmp 51) T3, t43, p43, e43, none⟩]⟩ false) (.seq (.cond (.tmp 53) .skip
  (.exit 2)) (.seq (.block 3 (.seq (Code.region i13 ⟨[oM 54 52 t44 p44 e44,
    oT 14 54 t45 p45 e45]⟩ false) (.seq (Code.region i14 ⟨[oM 55 0 t46 p46 e46, ⟨some 56, .call ⟨.builtin .len, #[(.tmp 55)], #[T29]⟩, t47, p47, e47, none⟩, ⟨some 57, .move (.const (.int .i64 0)), t48, p48, e48, none⟩]⟩ false) (.block 4 (.loop (.seq (Code.region i15 ⟨[⟨some 58, .binOp .lss T3 (.tmp 57) (.tmp 56) T3, t49, p49, e49, none⟩]⟩ false) (.seq (.cond (.tmp 58) .skip
  (.exit 4)) (.seq (.block 5 (.seq (Code.region i16 ⟨[oM 59 57 t50 p50 e50, ⟨some 60, .indexAddr T29 (.tmp 55) (.tmp 57), t51, p51, e51, none⟩,
    oL 61 T45 60 t52 p52 e52, ⟨some 16, .alloc T45, t53, p53, e53, none⟩,
    oT 15 59 t54 p54 e54,
    oS T45 16 61 t55 p55 e55]⟩ false) (.seq (Code.region i17 ⟨[oF 62 T45 16 4 t56 p56 e56,
    oL 63 T3 62 t57 p57 e57,
    oM 64 14 t58 p58 e58, ⟨some 65, .binOp .eql T3 (.tmp 63) (.tmp 64) T3, t59, p59, e59, none⟩,
    oM 66 65 t60 p60 e60, ⟨some 67, .load T45 (.tmp 16), t61, p61, e61, some (4, true)⟩, ⟨some 68, .load T26 (.tmp 7), t62, p62, e62, some (4, true)⟩, ⟨some 69, .move (.tmp 15), t63, p63, e63, some (4, true)⟩, ⟨some 70, .call ⟨.value (.func f56), #[(.tmp 68), (.tmp 69)], ct4⟩, t64, p64, e64, some (4, true)⟩, ⟨some 71, .call ⟨.value (.func f58), #[(.tmp 67), (.tmp 70)], ct5⟩, t65, p65, e65, some (4, true)⟩, ⟨some 72, .unOp .not T4 (.tmp 71), t66, p66, e66, some (4, true)⟩, ⟨some 73, .pick (.tmp 66) (.tmp 72) (.const (.bool false)), t67, p67, e67, none⟩]⟩ true) (.cond (.tmp 73) (.seq (Code.region i18 ⟨[oL 74 T45 16 t68 p68 e68,
    oM 75 1 t69 p69 e69,
    oM 76 2 t70 p70 e70,
    oL 77 T26 7 t71 p71 e71,
    oM 78 15 t72 p72 e72,
    oC 79 f56 #[(.tmp 77), (.tmp 78)] ct6 t73 p73 e73,
    oC 80 f55 #[(.tmp 74), (.tmp 75), (.tmp 76), (.tmp 79)] ct7 t74 p74 e74,
    oT 17 80 t75 p75 e75]⟩ true) (.seq (Code.region i19 ⟨[oM 81 10 t76 p76 e76,
    oM 82 14 t77 p77 e77, ⟨some 83, .convert T3 T76 (.tmp 82), t78, p78, e78, none⟩,
    oC 84 f59 #[(.tmp 83)] ct8 t79 p79 e79, ⟨some 85, .call ⟨.builtin .append, #[(.tmp 81), (.tmp 84)], #[T22, T22]⟩, t80, p80, e80, none⟩,
    oM 86 17 t81 p81 e81, ⟨some 87, .call ⟨.builtin .len, #[(.tmp 86)], #[T22]⟩, t82, p82, e82, none⟩, ⟨some 88, .convert T3 T76 (.tmp 87), t83, p83, e83, none⟩,
    oC 89 f59 #[(.tmp 88)] ct9 t84 p84 e84, ⟨some 90, .call ⟨.builtin .append, #[(.tmp 85), (.tmp 89)], #[T22, T22]⟩, t85, p85, e85, none⟩,
    oM 91 17 t86 p86 e86, ⟨some 92, .call ⟨.builtin .append, #[(.tmp 90), (.tmp 91)], #[T22, T22]⟩, t87, p87, e87, none⟩,
    oT 10 92 t88 p88 e88]⟩ false)
  (Code.region i20 ⟨[oM 93 11 t89 p89 e89, ⟨some 94, .binOp .add T3 (.tmp 93) (.const (.int .i64 1)) T3, t90, p90, e90, none⟩,
    oT 11 94 t91 p91 e91]⟩ false))) .skip))))
  (Code.region i21 ⟨[⟨some 95, .binOp .add T3 (.tmp 57) (.const (.int .i64 1)) T3, t92, p92, e92, none⟩,
    oM 57 95 t93 p93 e93]⟩ false)))))))))
  (Code.region i22 ⟨[⟨some 96, .binOp .add T3 (.tmp 52) (.const (.int .i64 1)) T3, t94, p94, e94, none⟩,
    oM 52 96 t95 p95 e95]⟩ false))))))) (.seq (.seq (Code.region i23 ⟨[oM 97 0 t96 p96 e96,
    oF 98 T26 7 4 t97 p97 e97,
    oL 99 T24 98 t98 p98 e98,
    oC 100 f60 #[(.tmp 97), (.tmp 99)] ct10 t99 p99 e99, ⟨some 101, .call ⟨.builtin .len, #[(.tmp 100)], #[T24]⟩, t100, p100, e100, none⟩, ⟨some 102, .move (.const (.int .i64 0)), t101, p101, e101, none⟩]⟩ false) (.block 6 (.loop (.seq (Code.region i24 ⟨[⟨some 103, .binOp .lss T3 (.tmp 102) (.tmp 101) T3, t102, p102, e102, none⟩]⟩ false) (.seq (.cond (.tmp 103) .skip
  (.exit 6)) (.seq (.block 7 (.seq (Code.region i25 ⟨[⟨some 104, .indexAddr T24 (.tmp 100) (.tmp 102), t103, p103, e103, none⟩,
    oL 105 T61 104 t104 p104 e104, ⟨some 19, .alloc T61, t105, p105, e105, none⟩,
    oS T61 19 105 t106 p106 e106]⟩ false) (.seq (Code.region i26 ⟨[oF 106 T61 19 1 t107 p107 e107,
    oL 107 T22 106 t108 p108 e108,
    oC 108 f61 #[(.tmp 107)] ct11 t109 p109 e109,
    oT 20 108 t110 p110 e110]⟩ false) (.seq (Code.region i27 ⟨[oM 109 10 t111 p111 e111,
    oF 110 T61 19 0 t112 p112 e112,
    oL 111 T59 110 t113 p113 e113, ⟨some 112, .convert T59 T76 (.tmp 111), t114, p114, e114, none⟩,
    oC 113 f59 #[(.tmp 112)] ct12 t115 p115 e115, ⟨some 114, .call ⟨.builtin .append, #[(.tmp 109), (.tmp 113)], #[T22, T22]⟩, t116, p116, e116, none⟩,
    oM 115 20 t117 p117 e117, ⟨some 116, .call ⟨.builtin .len, #[(.tmp 115)], #[T22]⟩, t118, p118, e118, none⟩, ⟨some 117, .convert T3 T76 (.tmp 116), t119, p119, e119, none⟩,
    oC 118 f59 #[(.tmp 117)] ct13 t120 p120 e120, ⟨some 119, .call ⟨.builtin .append, #[(.tmp 114), (.tmp 118)], #[T22, T22]⟩, t121, p121, e121, none⟩,
    oM 120 20 t122 p122 e122, ⟨some 121, .call ⟨.builtin .append, #[(.tmp 119), (.tmp 120)], #[T22, T22]⟩, t123, p123, e123, none⟩,
    oT 10 121 t124 p124 e124]⟩ false)
  (Code.region i28 ⟨[oM 122 11 t125 p125 e125, ⟨some 123, .binOp .add T3 (.tmp 122) (.const (.int .i64 1)) T3, t126, p126, e126, none⟩,
    oT 11 123 t127 p127 e127]⟩ false)))))
  (Code.region i29 ⟨[⟨some 124, .binOp .add T3 (.tmp 102) (.const (.int .i64 1)) T3, t128, p128, e128, none⟩,
    oM 102 124 t129 p129 e129]⟩ false))))))) (.seq (Code.region i30 ⟨[oM 125 9 t130 p130 e130,
    oM 126 11 t131 p131 e131, ⟨some 127, .convert T3 T76 (.tmp 126), t132, p132, e132, none⟩,
    oC 128 f59 #[(.tmp 127)] ct14 t133 p133 e133, ⟨some 129, .call ⟨.builtin .append, #[(.tmp 125), (.tmp 128)], #[T22, T22]⟩, t134, p134, e134, none⟩,
    oM 130 10 t135 p135 e135, ⟨some 131, .call ⟨.builtin .append, #[(.tmp 129), (.tmp 130)], #[T22, T22]⟩, t136, p136, e136, none⟩,
    oT 8 131 t137 p137 e137]⟩ false) .ret)))))))))
    (hs_T22 : sliceOf P T22 te 1 1 = true) (hz_T22 : zeroIs P te [.int .u8 0]) (hsT29 : slTy P T29 = true) (hs_T29 : sliceOf P T29 te8 8 tb = true) (hFlT45 : Flat P T45 zF) (hcT3 : scal P T3 = true) (hFlT26 : Flat P T26 zT) (he7 : edgeOk 0 [e23, e24, e25, e26, e27, e28, e29, e30, e31, e32] [[], [], [], [], [], [], [4, 5], [1, 2, 3, 6], [0, 1, 2, 3, 4, 5, 6, 7], [0, 1, 2, 3, 4, 5, 6, 7, 8]] = true) (hmx : P.follows .mixedOrders = true) (hT59_u32 : intOf P T59 .u32 = true) (hT3_i64 : intOf P T3 .i64 = true) (he17 : edgeOk 0 [e56, e57, e58, e59, e60, e61, e62, e63, e64, e65, e66, e67] [[], [0], [], [1, 2], [3], [4], [4], [4], [4, 6, 7], [4, 5, 8], [4, 9], [4, 10]] = true) (he18 : edgeOk 0 [e68, e69, e70, e71, e72, e73, e74, e75] [[], [], [], [], [], [3, 4], [0, 1, 2, 5], [0, 1, 2, 3, 4, 5, 6]] = true) (hT76_u64 : intOf P T76 .u64 = true) (hsT22 : slTy P T22 = true) (hcT24 : scal P T24 = true) (hsT24 : slTy P T24 = true) (hs_T24 : sliceOf P T24 teT 2 32 = true) (hFlT61 : Flat P T61 zTag) (hcT22 : scal P T22 = true) (hcT59 : scal P T59 = true) (htg : ∀ f ∈ fs, f.tag < 4294967295) (hFi : ∀ fd ∈ fs, FieldM P f55 fd (fieldW fd)) (hUsm : ∀ fd ∈ fs, 0 ≤ fd.tag → UsualM P f58 fd) (hHa : HasM P f54) (hAt : AtM P f56) (hKn : KnownM P f57) (hUn : UnkM P f60) (hWh : WholeM P f61) (hUv : UvWM P f59) : PartM P f fs (partW fs) := by
  refine ⟨enters_of hf hname hbody, ?_⟩;intro w A B v ver flex ct t hfs ht hA hB hlen
  cases t with
  | mk n s nl l u =>
  have ht0 := ht;obtain ⟨sv, lv, uv, rfl, hn, hs, hl, hu⟩ := repT_iff.1 ht;obtain ⟨encs, hencs⟩ : ∃ x, x = fieldsW fs ver flex l 0 := ⟨_, rfl⟩;obtain ⟨q, cap, hv, hbig, hk⟩ := hfs.slice;subst hv;have hknl := knownW_le htg;have hPW : partW fs ver flex (.mk n s nl l u) = if flex then bodyW fs ver encs fs.length ++ (uvW ((knownsW fs (.mk n s nl l u) encs).length + (unksW fs (.mk n s nl l u)).length) ++ ((knownsW fs (.mk n s nl l u) encs).flatMap pairW ++ (unksW fs (.mk n s nl l u)).flatMap pairW)) else bodyW fs ver encs fs.length := by rw [hencs, ← List.flatMap_append]; rfl
  rw [hPW] at hlen;have hb0 : (bodyW fs ver encs fs.length).length ≤ 4294967296 := by
    split at hlen
    · simp only [List.length_append] at hlen; omega
    exact hlen
  refine calls_of_wp hf hbody ?_;generalize ha0 : ({ tmps := #[Value.slice q fs.length cap, Value.int .i64 ver, Value.bool flex, Value.agg ([.int .i64 n, sv, .bool nl, lv, uv] : List Value).toArray] ++ Array.replicate (fn.ntmps - (#[Value.slice q fs.length cap, Value.int .i64 ver, Value.bool flex, Value.agg ([.int .i64 n, sv, .bool nl, lv, uv] : List Value).toArray] : Array Value).size) undef, defers := [] } : Act) = a0;have hz0 : a0.tmps.size = 132 := by subst ha0; simp [hN]
  have hd0 : a0.defers = [] := by subst ha0; rfl
  have g0_0 : get a0 0 = .slice q fs.length cap := by subst ha0; exact gAr rfl
  have g0_1 : get a0 1 = .int .i64 ver := by subst ha0; exact gAr rfl
  have g0_2 : get a0 2 = .bool flex := by subst ha0; exact gAr rfl
  have g0_3 : get a0 3 = .agg ([.int .i64 n, sv, .bool nl, lv, uv] : List Value).toArray := by subst ha0; exact gAr rfl
  refine wT fun K1 hK1 => ?_;refine wC (wp_boxL (cs := [.int .i64 n, sv, .bool nl, lv, uv]) (eK g0_3) ?_);rintro w2 f2 sz2 r2 th2;have hF3 : Fr [] w w2 := f2;refine wC (wAs (v := .slice none 0 0) rfl ?_);refine wEk hz0 hd0 fun a4 ha4 hz4 hd4 => ?_;have g4_0 := kP ha4 g0_0;have g4_1 := kP ha4 g0_1;have g4_2 := kP ha4 g0_2;have g4_3 := kP ha4 g0_3;have g4_7 : get a4 7 = .pointer (some ⟨w.heap.size, 0, none⟩) := kG ha4 hz0;have g4_8 : get a4 8 = .slice none 0 0 := kG ha4 hz0;refine hK1 a4 w2 (tUp ?_);refine tId (wp_seq_k fun K5 hK5 => ?_);have hS0 : w.heap.size + 1 ≤ w2.heap.size := by omega
  refine wp_reg ?_;refine wC (wAs (v := .slice none 0 0) rfl ?_);refine wC (wAs (v := .slice none 0 0) rfl ?_);refine wEk hz4 hd4 fun a6 ha6 hz6 hd6 => ?_;have g6_0 := kP ha6 g4_0;have g6_1 := kP ha6 g4_1;have g6_2 := kP ha6 g4_2;have g6_3 := kP ha6 g4_3;have g6_7 := kP ha6 g4_7;have g6_8 := kP ha6 g4_8;have g6_9 : get a6 9 = .slice none 0 0 := kG ha6 hz4;have g6_10 : get a6 10 = .slice none 0 0 := kG ha6 hz4;refine hK5 a6 w2 (tUp ?_);refine wT fun K7 hK7 => ?_;refine wC (wAs (v := .int .i64 0) rfl ?_);refine wEk hz6 hd6 fun a8 ha8 hz8 hd8 => ?_;have g8_0 := kP ha8 g6_0;have g8_1 := kP ha8 g6_1;have g8_2 := kP ha8 g6_2;have g8_3 := kP ha8 g6_3;have g8_7 := kP ha8 g6_7;have g8_8 := kP ha8 g6_8;have g8_9 := kP ha8 g6_9;have g8_10 := kP ha8 g6_10;have g8_11 : get a8 11 = .int .i64 0 := kG ha8 hz6;refine hK7 a8 w2 (tUp ?_);refine tId (wp_seq_k fun K9 hK9 => ?_);refine wS fun K10 hK10 => ?_;refine wC (wMv (v := .slice q fs.length cap) (eK g8_0) ?_);refine wC (wp_lenS (n := fs.length) hsT29 (eS hz8) ?_);refine wC (wMv (v := .int .i64 0) rfl ?_);refine wEk hz8 hd8 fun a11 ha11 hz11 hd11 => ?_;have g11_0 := kP ha11 g8_0;have g11_1 := kP ha11 g8_1;have g11_2 := kP ha11 g8_2;have g11_3 := kP ha11 g8_3;have g11_7 := kP ha11 g8_7;have g11_8 := kP ha11 g8_8;have g11_9 := kP ha11 g8_9;have g11_10 := kP ha11 g8_10;have g11_11 := kP ha11 g8_11;have g11_21 : get a11 21 = .slice q fs.length cap := kG ha11 hz8;have g11_22 : get a11 22 = .int .i64 ((fs.length : Nat) : Int) := kG ha11 hz8;have g11_23 : get a11 23 = .int .i64 0 := kG ha11 hz8;refine hK10 a11 w2 ?_;refine wp_block (wp_loop_ghost (fun (m : Nat) a' w' => ∃ (j : Nat) (v9 : Value), a'.tmps.size = 132 ∧ a'.defers = [] ∧ get a' 0 = .slice q fs.length cap ∧ get a' 1 = .int .i64 ver ∧ get a' 2 = .bool flex ∧ get a' 3 = .agg ([.int .i64 n, sv, .bool nl, lv, uv] : List Value).toArray ∧ get a' 7 = .pointer (some ⟨w.heap.size, 0, none⟩) ∧ get a' 8 = .slice none 0 0 ∧ get a' 9 = v9 ∧ get a' 10 = .slice none 0 0 ∧ get a' 11 = .int .i64 0 ∧ get a' 21 = .slice q fs.length cap ∧ get a' 22 = .int .i64 ((fs.length : Nat) : Int) ∧ get a' 23 = .int .i64 (j : Int) ∧ j + m = fs.length ∧ Own w' (From w2.heap.size w') 1 v9 (bodyW fs ver encs j).length (octets (bodyW fs ver encs j)) ∧ w'.rangeAt w.heap.size 0 [.int .i64 n, sv, .bool nl, lv, uv] ∧ Fr [] w w' ∧ w2.heap.size ≤ w'.heap.size) fs.length ?_ ?_)
  · exact ⟨0, .slice none 0 0, hz11, hd11, g11_0, g11_1, g11_2, g11_3, g11_7, g11_8, g11_9, g11_10, g11_11, g11_21, g11_22, g11_23, by omega, Own.nil, r2, hF3, (Fr.refl [] w2).size⟩
  rintro m a12 w12 ⟨j, v9, hz12, hd12, g12_0, g12_1, g12_2, g12_3, g12_7, g12_8, g12_9, g12_10, g12_11, g12_21, g12_22, g12_23, hjm, ho, hbl, hfl, hSl⟩;refine wS fun K13 hK13 => ?_;refine wC (wp_lss (k1 := .i64) (i := (j : Int)) (j := ((fs.length : Nat) : Int)) (eK g12_23) (eK g12_22) ?_);refine wEk hz12 hd12 fun a14 ha14 hz14 hd14 => ?_;have g14_0 := kP ha14 g12_0;have g14_1 := kP ha14 g12_1;have g14_2 := kP ha14 g12_2;have g14_3 := kP ha14 g12_3;have g14_7 := kP ha14 g12_7;have g14_8 := kP ha14 g12_8;have g14_9 := kP ha14 g12_9;have g14_10 := kP ha14 g12_10;have g14_11 := kP ha14 g12_11;have g14_21 := kP ha14 g12_21;have g14_22 := kP ha14 g12_22;have g14_23 := kP ha14 g12_23;have g14_24 : get a14 24 = .bool (decide (((j : Int) : Int) < (((fs.length : Nat) : Int) : Int))) := kG ha14 hz12;refine hK13 a14 w12 ?_;refine wp_seq_k fun K15 hK15 => ?_;refine wp_cond_split (t := decide (((j : Int) : Int) < (((fs.length : Nat) : Int) : Int))) (eK g14_24) (fun hc16 => ?_) (fun hc16 => ?_)
  · have hjl : j < fs.length := by simpa using hc16
    obtain ⟨fd, hfd⟩ : ∃ fd, fs[j]? = some fd := ⟨fs[j], by simp [hjl]⟩;obtain ⟨bl, ol, cl, hq, hbl2, hrl, hrep⟩ := hk j fd hfd;obtain ⟨fsv, rfl, hsub⟩ := repF_iff.1 hrep;have hFm := hFi fd (List.mem_of_getElem? hfd);have henc : encs.getD j [] = fieldW fd ver flex (atT l j) := by rw [hencs, fieldsW_at fs ver flex l 0 j fd hfd, Nat.zero_add]
    have hbs := bodyW_step (ver := ver) (encs := encs) hfd;have hble := bodyW_le (ver := ver) (encs := encs) (fs := fs) (n := j + 1) (m := fs.length) (by omega);rw [henc] at hbs;refine wp_skip ?_;refine hK15 a14 w12 ?_;refine wp_seq_k fun K17 hK17 => ?_;refine wp_blockT ?_;refine wS fun K18 hK18 => ?_;refine wC (wMv (v := .int .i64 (j : Int)) (eK g14_23) ?_);refine wC (wp_ixN (b := bl) (o := ol) (i := j) hs_T29 (by rw [eTm, nZ (by decide), g14_21, hq]) (eK g14_23) hjl ?_);refine wC (wp_loadFlat (cs := [.int .i64 fd.kind, .int .i64 fd.fr, .int .i64 fd.to, .int .i64 fd.nul, .int .i64 fd.tag, .int .i64 fd.df, .int .i64 fd.of, fsv]) (b := bl) (o := ol + j * 8) hFlT45 rfl (eS hz14) (hfl.range hrl .nil) ?_);refine wC (wp_allocL hFlT45 ?_);rintro w19 f19 sz19 r19 th19;have hF20 : Fr [] w w19 := hfl.tr f19;have hL20_w12 : Fr [] w12 w19 := (Fr.refl [] w12).tr f19;have rb21 := f19.range hbl .nil;refine wC (wAs (v := .int .i64 (j : Int)) (eS hz14) ?_);refine wC (wp_storeL (cs := [.int .i64 fd.kind, .int .i64 fd.fr, .int .i64 fd.to, .int .i64 fd.nul, .int .i64 fd.tag, .int .i64 fd.df, .int .i64 fd.of, fsv]) (o := 0) hFlT45 rfl (eS hz14) (eS hz14) (by intro u hu; simp at hu; rcases hu with rfl | rfl | rfl | rfl | rfl | rfl | rfl | rfl <;> first | rfl | exact hsub.one) th19 ?_);rintro w22 f22 sz22 r22 th22;have hF22 : Fr [] w w22 := hF20.trans f22 (fun r hr => .inl (by simp at hr; subst hr; have := hfl.size; simp only; omega));have rb23 := f22.range rb21 (.cons (.inl (by simp only; omega)) .nil);have hL22_w12 : Fr [] w12 w22 := hL20_w12.trans f22 (fun r hr => .inl (by simp at hr; subst hr; have := (Fr.refl [] w12).size; simp only; omega));refine wEk hz14 hd14 fun a24 ha24 hz24 hd24 => ?_;have g24_0 := kP ha24 g14_0;have g24_1 := kP ha24 g14_1;have g24_2 := kP ha24 g14_2;have g24_3 := kP ha24 g14_3;have g24_7 := kP ha24 g14_7;have g24_8 := kP ha24 g14_8;have g24_9 := kP ha24 g14_9;have g24_10 := kP ha24 g14_10;have g24_11 := kP ha24 g14_11;have g24_12 : get a24 12 = .int .i64 (j : Int) := kG ha24 hz14;have g24_13 : get a24 13 = .pointer (some ⟨w12.heap.size, 0, none⟩) := kG ha24 hz14;have g24_21 := kP ha24 g14_21;have g24_22 := kP ha24 g14_22;have g24_23 := kP ha24 g14_23;refine hK18 a24 w22 ?_;refine wp_seq_k fun K25 hK25 => ?_
    by_cases hft : fd.tag < 0
    · refine wp_regG ?_;refine gCn ?_;refine wFa (b := w12.heap.size) (i := 0) (hFlT45.fld (by decide)) (eK g24_13) ?_;rw [show (0 + 4 : Nat) = 4 from rfl];refine gCn ?_;refine wL0 (j := 4) (v := .int .i64 fd.tag) hcT3 (eS hz24) r22 rfl ?_;refine gCn ?_;refine wp_lssT (k1 := .i64) (i := fd.tag) (j := 0) hft (eS hz24) rfl ?_;refine gCn ?_;refine wMv (v := .bool true) (eS hz24) ?_;refine wg_yes (dj := 31) rfl (lZ hz24) (gS hz24) ?_;refine wp_loadFlat (cs := [.int .i64 fd.kind, .int .i64 fd.fr, .int .i64 fd.to, .int .i64 fd.nul, .int .i64 fd.tag, .int .i64 fd.df, .int .i64 fd.of, fsv]) (b := w12.heap.size) (o := 0) hFlT45 rfl (eK g24_13) r22 ?_;refine wg_yes (dj := 31) rfl (lZ hz24) (gS hz24) ?_;refine wMv (v := .int .i64 ver) (eK g24_1) ?_;refine wg_yes (dj := 31) rfl (lZ hz24) (gS hz24) ?_;refine wCr (R := fun x wz => x = .bool (fd.has ver) ∧ Fr [] w22 wz) (vs := #[.agg ([.int .i64 fd.kind, .int .i64 fd.fr, .int .i64 fd.to, .int .i64 fd.nul, .int .i64 fd.tag, .int .i64 fd.df, .int .i64 fd.of, fsv] : List Value).toArray, .int .i64 ver]) hHa.enters (mX2 (eS hz24) (eS hz24)) ((hHa.call w22 A _ fd ver (hrep.kept hF22 (by simp) (fun _ h => h))).mono (by rintro e w' ⟨rfl, hf⟩; exact ⟨_, rfl, rfl, hf⟩)) ?_;rintro x26 w26 ⟨rfl, fr26⟩;have hF27 : Fr [] w w26 := hF22.tr fr26;have hL27_w12 : Fr [] w12 w26 := hL22_w12.tr fr26;have rb28 := fr26.range rb23 .nil;have rb29 := fr26.range r22 .nil;refine gCn ?_;refine wp_pickYes (v := .bool (fd.has ver)) (eS hz24) (eS hz24) ?_;refine wg_end fun a30 ha30 => ?_;have hz30 := kS ha30 hz24;have hd30 := kD ha30 hd24;have g30_0 := kP ha30 g24_0;have g30_1 := kP ha30 g24_1;have g30_2 := kP ha30 g24_2;have g30_3 := kP ha30 g24_3;have g30_7 := kP ha30 g24_7;have g30_8 := kP ha30 g24_8;have g30_9 := kP ha30 g24_9;have g30_10 := kP ha30 g24_10;have g30_11 := kP ha30 g24_11;have g30_12 := kP ha30 g24_12;have g30_13 := kP ha30 g24_13;have g30_21 := kP ha30 g24_21;have g30_22 := kP ha30 g24_22;have g30_23 := kP ha30 g24_23;have g30_35 : get a30 35 = .bool (fd.has ver) := kG ha30 hz24;refine hK25 a30 w26 ?_;refine wp_cond_split (t := (fd.has ver)) (eK g30_35) (fun hc31 => ?_) (fun hc31 => ?_)
      · have hcond : (decide (fd.tag < 0) && fd.has ver) = true := by simp [hft, hc31]
        refine wp_drawR (os := [oM 36 9 t23 p23 e23, oL 37 T45 13 t24 p24 e24, oM 38 1 t25 p25 e25, oM 39 2 t26 p26 e26, oL 40 T26 7 t27 p27 e27, oM 41 12 t28 p28 e28, oC 42 f56 #[(.tmp 40), (.tmp 41)] ct1 t29 p29 e29, oC 43 f55 #[(.tmp 37), (.tmp 38), (.tmp 39), (.tmp 42)] ct2 t30 p30 e30]) (rest := [⟨some 44, .call ⟨.builtin .append, #[(.tmp 36), (.tmp 43)], #[T22, T22]⟩, t31, p31, e31, none⟩, oT 9 44 t32 p32 e32]) [spC [] (v9), spC [] (.agg ([.int .i64 fd.kind, .int .i64 fd.fr, .int .i64 fd.to, .int .i64 fd.nul, .int .i64 fd.tag, .int .i64 fd.df, .int .i64 fd.of, fsv] : List Value).toArray), spC [] (.int .i64 ver), spC [] (.bool flex), spC [] (.agg ([.int .i64 n, sv, .bool nl, lv, uv] : List Value).toArray), spC [] (.int .i64 (j : Int)), spR [4, 5] (fun x w' => ∃ cs : List Value, x = .agg cs.toArray ∧ RepT w' B cs (atT l j)), spR [1, 2, 3, 6] (fun x w' => Own w' (From w26.heap.size w') 1 x (fieldW fd ver flex (atT l j)).length (octets (fieldW fd ver flex (atT l j))))] 36 [] hmx he7 (by simp [shape]) (by simp [plainO]) (by simp [spC, spR]) (by simp; omega) ⟨lCc _ _ _, lCc _ _ _, lCc _ _ _, lCc _ _ _, lCc _ _ _, lCc _ _ _, (fun v w1 w2 f h => by obtain ⟨cs, h1, h2⟩ := h; exact ⟨cs, h1, h2.kept f (by simp) (fun _ h => h)⟩), (fun v w1 w2 f h => h.upTo f (From.mono f.size)), trivial⟩ ?_ ?_
        · refine oCs ?_ ?_
          · refine op_c fun a' w' hk' hf' hd' K' hK' => ?_;refine wMv (v := v9) (by rw [eTm, hk'.get 9 (by omega), g30_9]) ?_;exact hK'
          refine oCs ?_ ?_
          · refine op_c fun a' w' hk' hf' hd' K' hK' => ?_;refine wp_loadFlat (cs := [.int .i64 fd.kind, .int .i64 fd.fr, .int .i64 fd.to, .int .i64 fd.nul, .int .i64 fd.tag, .int .i64 fd.df, .int .i64 fd.of, fsv]) (b := w12.heap.size) (o := 0) hFlT45 rfl (by rw [eTm, hk'.get 13 (by omega), g30_13]) (hf'.range rb29 .nil) ?_;exact hK'
          refine oCs ?_ ?_
          · refine op_c fun a' w' hk' hf' hd' K' hK' => ?_;refine wMv (v := .int .i64 ver) (by rw [eTm, hk'.get 1 (by omega), g30_1]) ?_;exact hK'
          refine oCs ?_ ?_
          · refine op_c fun a' w' hk' hf' hd' K' hK' => ?_;refine wMv (v := .bool flex) (by rw [eTm, hk'.get 2 (by omega), g30_2]) ?_;exact hK'
          refine oCs ?_ ?_
          · refine op_c fun a' w' hk' hf' hd' K' hK' => ?_;refine wp_loadFlat (cs := [.int .i64 n, sv, .bool nl, lv, uv]) (b := w.heap.size) (o := 0) hFlT26 rfl (by rw [eTm, hk'.get 7 (by omega), g30_7]) (hf'.range rb28 .nil) ?_;exact hK'
          refine oCs ?_ ?_
          · refine op_c fun a' w' hk' hf' hd' K' hK' => ?_;refine wMv (v := .int .i64 (j : Int)) (by rw [eTm, hk'.get 12 (by omega), g30_12]) ?_;exact hK'
          refine oCs ?_ ?_
          · refine op_r fun a' w' hk' hf' hd' K' hK' => ?_;refine wCr (R := fun x wz => ∃ cs : List Value, x = .agg cs.toArray ∧ Fr [] w' wz ∧ ((∀ b, B b → b < w'.heap.size) → RepT wz B cs (atT l j))) (vs := #[.agg ([.int .i64 n, sv, .bool nl, lv, uv] : List Value).toArray, .int .i64 (j : Int)]) hAt.enters (by simp only [List.map_toArray, List.map_cons, List.map_nil]; rw [show a'.eval (.tmp 40) = Value.agg ([.int .i64 n, sv, .bool nl, lv, uv] : List Value).toArray from (by rw [eTm]; exact hd'.c (nd' := []) 4 (by simp) rfl), show a'.eval (.tmp 41) = Value.int .i64 (j : Int) from (by rw [eTm]; exact hd'.c (nd' := []) 5 (by simp) rfl)]) ((hAt.call w' B _ (.mk n s nl l u) j (ht0.kept (hF27.tr hf') (by simp) (fun _ h => h))).mono (by rintro e wz ⟨cs, rfl, h1, h2⟩; exact ⟨_, rfl, cs, rfl, h1, h2⟩)) ?_;rintro _ w32 ⟨cs32, rfl, fr32, hr32⟩;exact hK' _ w32 ⟨cs32, rfl, hr32 (fun b hb => Nat.lt_of_lt_of_le (hB b hb) (hF27.tr hf').size)⟩ fr32
          refine oCs ?_ ?_
          · refine op_r fun a' w' hk' hf' hd' K' hK' => ?_;obtain ⟨ct', hct, hrt'⟩ : ∃ cs : List Value, get a' 42 = .agg cs.toArray ∧ RepT w' B cs (atT l j) := hd'.at (d := 6) (by simp) rfl;refine wCr (R := fun vz wz => Fr [] w' wz ∧ Own wz (From w'.heap.size wz) 1 vz (fieldW fd ver flex (atT l j)).length (octets (fieldW fd ver flex (atT l j)))) (vs := #[.agg ([.int .i64 fd.kind, .int .i64 fd.fr, .int .i64 fd.to, .int .i64 fd.nul, .int .i64 fd.tag, .int .i64 fd.df, .int .i64 fd.of, fsv] : List Value).toArray, .int .i64 ver, .bool flex, .agg ct'.toArray]) hFm.enters (by simp only [List.map_toArray, List.map_cons, List.map_nil]; rw [show a'.eval (.tmp 37) = Value.agg ([.int .i64 fd.kind, .int .i64 fd.fr, .int .i64 fd.to, .int .i64 fd.nul, .int .i64 fd.tag, .int .i64 fd.df, .int .i64 fd.of, fsv] : List Value).toArray from (by rw [eTm]; exact hd'.c (nd' := []) 1 (by simp) rfl), show a'.eval (.tmp 38) = Value.int .i64 ver from (by rw [eTm]; exact hd'.c (nd' := []) 2 (by simp) rfl), show a'.eval (.tmp 39) = Value.bool flex from (by rw [eTm]; exact hd'.c (nd' := []) 3 (by simp) rfl), show a'.eval (.tmp 42) = Value.agg ct'.toArray from (by rw [eTm]; exact hct)]) (calls_fresh (hFm.call w' A B ver flex _ ct' (atT l j) (hrep.kept (hF27.tr hf') (by simp) (fun _ h => h)) hrt' (fun b hb => Nat.lt_of_lt_of_le (hA b hb) (hF27.tr hf').size) (fun b hb => Nat.lt_of_lt_of_le (hB b hb) (hF27.tr hf').size) (by rw [hbs, if_pos hcond, List.length_append] at hble; omega))) ?_;rintro x33 w33 ⟨fr33, ow33⟩;exact hK' x33 w33 (ow33.from hf'.size) fr33
          exact opsOk_nil
        intro a34 w34 k34 f34 hd_34;have g34_0 : get a34 0 = .slice q fs.length cap := by rw [k34.get 0 (by omega), g30_0]
        have g34_1 : get a34 1 = .int .i64 ver := by rw [k34.get 1 (by omega), g30_1]
        have g34_2 : get a34 2 = .bool flex := by rw [k34.get 2 (by omega), g30_2]
        have g34_3 : get a34 3 = .agg ([.int .i64 n, sv, .bool nl, lv, uv] : List Value).toArray := by rw [k34.get 3 (by omega), g30_3]
        have g34_7 : get a34 7 = .pointer (some ⟨w.heap.size, 0, none⟩) := by rw [k34.get 7 (by omega), g30_7]
        have g34_8 : get a34 8 = .slice none 0 0 := by rw [k34.get 8 (by omega), g30_8]
        have g34_10 : get a34 10 = .slice none 0 0 := by rw [k34.get 10 (by omega), g30_10]
        have g34_11 : get a34 11 = .int .i64 0 := by rw [k34.get 11 (by omega), g30_11]
        have g34_21 : get a34 21 = .slice q fs.length cap := by rw [k34.get 21 (by omega), g30_21]
        have g34_22 : get a34 22 = .int .i64 ((fs.length : Nat) : Int) := by rw [k34.get 22 (by omega), g30_22]
        have g34_23 : get a34 23 = .int .i64 (j : Int) := by rw [k34.get 23 (by omega), g30_23]
        have hz34 : a34.tmps.size = 132 := k34.size.trans hz30;have hd34 : a34.defers = [] := k34.defers.trans hd30;have g34_36 : get a34 36 = v9 := hd_34.c (nd' := []) 0 (by simp) rfl;have hF35 : Fr [] w w34 := hF27.tr f34;have hL35_w12 : Fr [] w12 w34 := hL27_w12.tr f34;have rb36 := f34.range rb28 .nil;have rb37 := f34.range rb29 .nil;have hv : Own w34 (From w26.heap.size w34) 1 (get a34 43) (fieldW fd ver flex (atT l j)).length (octets (fieldW fd ver flex (atT l j))) := hd_34.at (d := 7) (by simp) rfl;rw [wCo];have ob38 := ho.upTo hL35_w12 (From.mono hL35_w12.size);have hSl38 : w2.heap.size ≤ w34.heap.size := Nat.le_trans hSl hL35_w12.size;refine wp_appO hs_T22 hz_T22 (eK g34_36) rfl ob38 (hv.octE (by rw [hbs, if_pos hcond, List.length_append] at hble; omega)) (by rw [hbs, if_pos hcond, List.length_append] at hble; omega) ?_;rintro v38 w38 fa38 oa38 sp38 bk38;have ho38 := oa38.imp_A (new_or hSl38 fa38.size);have hF38 : Fr [] w w38 := fr_own hF35 fa38 (ob38.from (s0 := w.heap.size) (by omega)) (fun b hb => hb.1);have rb39 := fa38.range rb36 (fun r hr => .inl fun e => by have := (ob38.spare_in r hr).1; have := hS0; omega);refine wC (wAs (v := v38) (eS hz34) ?_);refine wEk hz34 hd34 fun a40 ha40 hz40 hd40 => ?_;have g40_0 := kP ha40 g34_0;have g40_1 := kP ha40 g34_1;have g40_2 := kP ha40 g34_2;have g40_3 := kP ha40 g34_3;have g40_7 := kP ha40 g34_7;have g40_8 := kP ha40 g34_8;have g40_9 : get a40 9 = v38 := kG ha40 hz34;have g40_10 := kP ha40 g34_10;have g40_11 := kP ha40 g34_11;have g40_21 := kP ha40 g34_21;have g40_22 := kP ha40 g34_22;have g40_23 := kP ha40 g34_23;have hSN := Nat.le_trans hSl38 fa38.size;refine hK17 a40 w38 ?_;refine wp_reg ?_;refine wC (wp_add (k1 := .i64) (i := (j : Int)) (j := 1) (eK g40_23) rfl ?_);rw [show (IntKind.i64.wrap (((j : Int) : Int) + (1 : Int)) : Int) = (((j + 1 : Nat) : Int) : Int) from by simp only [IntKind.wrap, IntKind.bits, IntKind.signed]; simp; omega];refine wC (wMv (v := .int .i64 ((j + 1 : Nat) : Int)) (eS hz40) ?_);refine wEk hz40 hd40 fun a41 ha41 hz41 hd41 => ?_;have g41_0 := kP ha41 g40_0;have g41_1 := kP ha41 g40_1;have g41_2 := kP ha41 g40_2;have g41_3 := kP ha41 g40_3;have g41_7 := kP ha41 g40_7;have g41_8 := kP ha41 g40_8;have g41_9 := kP ha41 g40_9;have g41_10 := kP ha41 g40_10;have g41_11 := kP ha41 g40_11;have g41_21 := kP ha41 g40_21;have g41_22 := kP ha41 g40_22;have g41_23 : get a41 23 = .int .i64 ((j + 1 : Nat) : Int) := kG ha41 hz40;refine ⟨m - 1, by omega, j + 1, _, hz41, hd41, g41_0, g41_1, g41_2, g41_3, g41_7, g41_8, g41_9, g41_10, g41_11, g41_21, g41_22, g41_23, by omega, ?_, rb39, hF38, ?_⟩
        · rw [hbs, if_pos hcond]; exact ho38
        exact hSN
      have hcond : (decide (fd.tag < 0) && fd.has ver) = false := by simp [hft, hc31]
      refine wp_skip ?_;refine hK17 a30 w26 ?_;refine wp_reg ?_;refine wC (wp_add (k1 := .i64) (i := (j : Int)) (j := 1) (eK g30_23) rfl ?_);rw [show (IntKind.i64.wrap (((j : Int) : Int) + (1 : Int)) : Int) = (((j + 1 : Nat) : Int) : Int) from by simp only [IntKind.wrap, IntKind.bits, IntKind.signed]; simp; omega];refine wC (wMv (v := .int .i64 ((j + 1 : Nat) : Int)) (eS hz30) ?_);refine wEk hz30 hd30 fun a42 ha42 hz42 hd42 => ?_;have g42_0 := kP ha42 g30_0;have g42_1 := kP ha42 g30_1;have g42_2 := kP ha42 g30_2;have g42_3 := kP ha42 g30_3;have g42_7 := kP ha42 g30_7;have g42_8 := kP ha42 g30_8;have g42_9 := kP ha42 g30_9;have g42_10 := kP ha42 g30_10;have g42_11 := kP ha42 g30_11;have g42_21 := kP ha42 g30_21;have g42_22 := kP ha42 g30_22;have g42_23 : get a42 23 = .int .i64 ((j + 1 : Nat) : Int) := kG ha42 hz30;refine ⟨m - 1, by omega, j + 1, _, hz42, hd42, g42_0, g42_1, g42_2, g42_3, g42_7, g42_8, g42_9, g42_10, g42_11, g42_21, g42_22, g42_23, by omega, ?_, rb28, hF27, ?_⟩
      · rw [hbs, hcond, if_neg (by simp), List.append_nil]; exact ho.upTo hL27_w12 (From.mono hL27_w12.size)
      exact Nat.le_trans hSl hL27_w12.size
    have hcond : (decide (fd.tag < 0) && fd.has ver) = false := by simp [hft]
    refine wp_regG ?_;refine gCn ?_;refine wFa (b := w12.heap.size) (i := 0) (hFlT45.fld (by decide)) (eK g24_13) ?_;rw [show (0 + 4 : Nat) = 4 from rfl];refine gCn ?_;refine wL0 (j := 4) (v := .int .i64 fd.tag) hcT3 (eS hz24) r22 rfl ?_;refine gCn ?_;refine wp_lssF (k1 := .i64) (i := fd.tag) (j := 0) hft (eS hz24) rfl ?_;refine gCn ?_;refine wMv (v := .bool false) (eS hz24) ?_;refine wg_noT (dj := 31) rfl (lZ hz24) (gS hz24) ?_;refine wg_noT (dj := 31) rfl (lZ hz24) (gS hz24) ?_;refine wg_noT (dj := 31) rfl (lZ hz24) (gS hz24) ?_;refine gCn ?_;refine wp_pickNo (v := .bool false) (eS hz24) rfl ?_;refine wg_end fun a43 ha43 => ?_;have hz43 := kS ha43 hz24;have hd43 := kD ha43 hd24;have g43_0 := kP ha43 g24_0;have g43_1 := kP ha43 g24_1;have g43_2 := kP ha43 g24_2;have g43_3 := kP ha43 g24_3;have g43_7 := kP ha43 g24_7;have g43_8 := kP ha43 g24_8;have g43_9 := kP ha43 g24_9;have g43_10 := kP ha43 g24_10;have g43_11 := kP ha43 g24_11;have g43_21 := kP ha43 g24_21;have g43_22 := kP ha43 g24_22;have g43_23 := kP ha43 g24_23;have g43_35 : get a43 35 = .bool false := kG ha43 hz24;refine hK25 a43 w22 ?_;refine wp_cond_split (t := false) (eK g43_35) (fun h => by cases h) (fun _ => ?_);refine wp_skip ?_;refine hK17 a43 w22 ?_;refine wp_reg ?_;refine wC (wp_add (k1 := .i64) (i := (j : Int)) (j := 1) (eK g43_23) rfl ?_);rw [show (IntKind.i64.wrap (((j : Int) : Int) + (1 : Int)) : Int) = (((j + 1 : Nat) : Int) : Int) from by simp only [IntKind.wrap, IntKind.bits, IntKind.signed]; simp; omega];refine wC (wMv (v := .int .i64 ((j + 1 : Nat) : Int)) (eS hz43) ?_);refine wEk hz43 hd43 fun a45 ha45 hz45 hd45 => ?_;have g45_0 := kP ha45 g43_0;have g45_1 := kP ha45 g43_1;have g45_2 := kP ha45 g43_2;have g45_3 := kP ha45 g43_3;have g45_7 := kP ha45 g43_7;have g45_8 := kP ha45 g43_8;have g45_9 := kP ha45 g43_9;have g45_10 := kP ha45 g43_10;have g45_11 := kP ha45 g43_11;have g45_21 := kP ha45 g43_21;have g45_22 := kP ha45 g43_22;have g45_23 : get a45 23 = .int .i64 ((j + 1 : Nat) : Int) := kG ha45 hz43;refine ⟨m - 1, by omega, j + 1, _, hz45, hd45, g45_0, g45_1, g45_2, g45_3, g45_7, g45_8, g45_9, g45_10, g45_11, g45_21, g45_22, g45_23, by omega, ?_, rb23, hF22, ?_⟩
    · rw [hbs, hcond, if_neg (by simp), List.append_nil]; exact ho.upTo hL22_w12 (From.mono hL22_w12.size)
    exact Nat.le_trans hSl hL22_w12.size
  have hj0 : j = fs.length := by simp at hc16; omega
  rw [hj0] at ho;refine wp_exit ?_;show K9 a14 w12
  refine hK9 a14 w12 (tUp ?_);refine tId (wp_seq_k fun K46 hK46 => ?_);refine wS fun K47 hK47 => ?_;refine wC (wMv (v := .bool flex) (eK g14_2) ?_);refine wC (wp_not (b := flex) (eS hz14) ?_);refine wEk hz14 hd14 fun a48 ha48 hz48 hd48 => ?_;have g48_0 := kP ha48 g14_0;have g48_1 := kP ha48 g14_1;have g48_2 := kP ha48 g14_2;have g48_3 := kP ha48 g14_3;have g48_7 := kP ha48 g14_7;have g48_8 := kP ha48 g14_8;have g48_9 := kP ha48 g14_9;have g48_10 := kP ha48 g14_10;have g48_11 := kP ha48 g14_11;have g48_21 := kP ha48 g14_21;have g48_22 := kP ha48 g14_22;have g48_23 := kP ha48 g14_23;have g48_47 : get a48 47 = .bool (!flex) := kG ha48 hz14;refine hK47 a48 w12 ?_;refine wp_cond_split (t := !flex) (eK g48_47) (fun hc49 => ?_) (fun hc49 => ?_)
  · have hfx : flex = false := by simpa using hc49
    refine wS fun K50 hK50 => ?_;refine wC (wMv (v := v9) (eK g48_9) ?_);refine wC (wAs (v := v9) (eS hz48) ?_);refine wEk hz48 hd48 fun a51 ha51 hz51 hd51 => ?_;have g51_8 : get a51 8 = v9 := kG ha51 hz48;refine hK50 a51 w12 ?_;refine wp_ret ?_;rw [hPW, hfx, if_neg (by simp)];exact ⟨hd51, _, rIs hres g51_8, _, rfl, hfl, ho.from (by omega)⟩
  have hfx : flex = true := by simpa using hc49
  have hlenF : (bodyW fs ver encs fs.length).length + (uvW ((knownsW fs (.mk n s nl l u) encs).length + (unksW fs (.mk n s nl l u)).length)).length + ((knownsW fs (.mk n s nl l u) encs).flatMap pairW).length + ((unksW fs (.mk n s nl l u)).flatMap pairW).length ≤ 4294967296 := by rw [hfx, if_pos rfl] at hlen; simp only [List.length_append] at hlen; omega
  have hkl0 := pairs_len (knownsW fs (.mk n s nl l u) encs);refine wp_skip ?_;refine hK46 a48 w12 (tUp ?_);refine tId (wp_seq_k fun K52 hK52 => ?_);refine wS fun K53 hK53 => ?_;refine wC (wMv (v := .slice q fs.length cap) (eK g48_0) ?_);refine wC (wCr (R := fun x wz => x = .int .u32 ((knownW fs : Nat) : Int) ∧ Fr [] w12 wz) (vs := #[.slice q fs.length cap]) hKn.enters (mX1 (eS hz48)) ((hKn.call w12 A _ fs (hfs.kept hfl (by simp) (fun _ h => h)) htg).mono (by rintro e w' ⟨rfl, hf⟩; exact ⟨_, rfl, rfl, hf⟩)) ?_);rintro x54 w54 ⟨rfl, fr54⟩;have hF55 : Fr [] w w54 := hfl.tr fr54;have hL55_w12 : Fr [] w12 w54 := (Fr.refl [] w12).tr fr54;have rb56 := fr54.range hbl .nil;refine wC (wCv (k1 := .u32) (i := ((knownW fs : Nat) : Int)) hT59_u32 hT3_i64 (eS hz48) ?_);rw [show (IntKind.i64.wrap (((knownW fs : Nat) : Int) : Int)) = (((knownW fs : Nat) : Int) : Int) from by simp only [IntKind.wrap, IntKind.bits, IntKind.signed]; simp; omega];refine wC (wMv (v := .int .i64 0) rfl ?_);refine wEk hz48 hd48 fun a57 ha57 hz57 hd57 => ?_;have g57_0 := kP ha57 g48_0;have g57_1 := kP ha57 g48_1;have g57_2 := kP ha57 g48_2;have g57_3 := kP ha57 g48_3;have g57_7 := kP ha57 g48_7;have g57_8 := kP ha57 g48_8;have g57_9 := kP ha57 g48_9;have g57_10 := kP ha57 g48_10;have g57_11 := kP ha57 g48_11;have g57_21 := kP ha57 g48_21;have g57_22 := kP ha57 g48_22;have g57_23 := kP ha57 g48_23;have g57_51 : get a57 51 = .int .i64 ((knownW fs : Nat) : Int) := kG ha57 hz48;have g57_52 : get a57 52 = .int .i64 0 := kG ha57 hz48;have ho1 := ho.upTo hL55_w12 (From.mono hL55_w12.size);have hb9 : ∀ b, blk v9 = some b → b < w54.heap.size := fun b hb => (ho1.blk_lt hb).2;have hS1 : w2.heap.size ≤ w54.heap.size := Nat.le_trans hSl hL55_w12.size;refine hK53 a57 w54 ?_;refine wp_block (wp_loop_ghost (fun (m2 : Nat) a' w' => ∃ (k : Nat) (v10 : Value), a'.tmps.size = 132 ∧ a'.defers = [] ∧ get a' 0 = .slice q fs.length cap ∧ get a' 1 = .int .i64 ver ∧ get a' 2 = .bool flex ∧ get a' 3 = .agg ([.int .i64 n, sv, .bool nl, lv, uv] : List Value).toArray ∧ get a' 7 = .pointer (some ⟨w.heap.size, 0, none⟩) ∧ get a' 8 = .slice none 0 0 ∧ get a' 9 = v9 ∧ get a' 10 = v10 ∧ get a' 11 = .int .i64 (((knUp fs (.mk n s nl l u) encs k).length : Nat) : Int) ∧ get a' 21 = .slice q fs.length cap ∧ get a' 22 = .int .i64 ((fs.length : Nat) : Int) ∧ get a' 23 = .int .i64 (j : Int) ∧ get a' 51 = .int .i64 ((knownW fs : Nat) : Int) ∧ get a' 52 = .int .i64 (k : Int) ∧ k + m2 = knownW fs ∧ Own w' (From w2.heap.size w') 1 v9 ((bodyW fs ver encs fs.length)).length (octets (bodyW fs ver encs fs.length)) ∧ Own w' (From w54.heap.size w') 1 v10 (((knUp fs (.mk n s nl l u) encs k).flatMap pairW)).length (octets ((knUp fs (.mk n s nl l u) encs k).flatMap pairW)) ∧ w'.rangeAt w.heap.size 0 [.int .i64 n, sv, .bool nl, lv, uv] ∧ Fr [] w w' ∧ w54.heap.size ≤ w'.heap.size) (knownW fs) ?_ ?_)
  · exact ⟨0, .slice none 0 0, hz57, hd57, g57_0, g57_1, g57_2, g57_3, g57_7, g57_8, g57_9, g57_10, g57_11, g57_21, g57_22, g57_23, g57_51, g57_52, by omega, ho1, Own.nil, rb56, hF55, Nat.le_refl _⟩
  rintro m2 a58 w58 ⟨k, v10, hz58, hd58, g58_0, g58_1, g58_2, g58_3, g58_7, g58_8, g58_9, g58_10, g58_11, g58_21, g58_22, g58_23, g58_51, g58_52, hkm, ho2, ho10, hbl3, hfl2, hSl2⟩;refine wS fun K59 hK59 => ?_;refine wC (wp_lss (k1 := .i64) (i := (k : Int)) (j := ((knownW fs : Nat) : Int)) (eK g58_52) (eK g58_51) ?_);refine wEk hz58 hd58 fun a60 ha60 hz60 hd60 => ?_;have g60_0 := kP ha60 g58_0;have g60_1 := kP ha60 g58_1;have g60_2 := kP ha60 g58_2;have g60_3 := kP ha60 g58_3;have g60_7 := kP ha60 g58_7;have g60_8 := kP ha60 g58_8;have g60_9 := kP ha60 g58_9;have g60_10 := kP ha60 g58_10;have g60_11 := kP ha60 g58_11;have g60_21 := kP ha60 g58_21;have g60_22 := kP ha60 g58_22;have g60_23 := kP ha60 g58_23;have g60_51 := kP ha60 g58_51;have g60_52 := kP ha60 g58_52;have g60_53 : get a60 53 = .bool (decide (((k : Int) : Int) < (((knownW fs : Nat) : Int) : Int))) := kG ha60 hz58;refine hK59 a60 w58 ?_;refine wp_seq_k fun K61 hK61 => ?_;refine wp_cond_split (t := decide (((k : Int) : Int) < (((knownW fs : Nat) : Int) : Int))) (eK g60_53) (fun hc62 => ?_) (fun hc62 => ?_)
  · have hkl : k < knownW fs := by simpa using hc62
    refine wp_skip ?_;refine hK61 a60 w58 ?_;refine wp_seq_k fun K63 hK63 => ?_;refine wp_blockT ?_;refine wS fun K64 hK64 => ?_;refine wC (wMv (v := .int .i64 (k : Int)) (eK g60_52) ?_);refine wC (wAs (v := .int .i64 (k : Int)) (eS hz60) ?_);refine wEk hz60 hd60 fun a65 ha65 hz65 hd65 => ?_;have g65_0 := kP ha65 g60_0;have g65_1 := kP ha65 g60_1;have g65_2 := kP ha65 g60_2;have g65_3 := kP ha65 g60_3;have g65_7 := kP ha65 g60_7;have g65_8 := kP ha65 g60_8;have g65_9 := kP ha65 g60_9;have g65_10 := kP ha65 g60_10;have g65_11 := kP ha65 g60_11;have g65_14 : get a65 14 = .int .i64 (k : Int) := kG ha65 hz60;have g65_21 := kP ha65 g60_21;have g65_22 := kP ha65 g60_22;have g65_23 := kP ha65 g60_23;have g65_51 := kP ha65 g60_51;have g65_52 := kP ha65 g60_52;refine hK64 a65 w58 ?_;refine wS fun K66 hK66 => ?_;refine wC (wMv (v := .slice q fs.length cap) (eK g65_0) ?_);refine wC (wp_lenS (n := fs.length) hsT29 (eS hz65) ?_);refine wC (wMv (v := .int .i64 0) rfl ?_);refine wEk hz65 hd65 fun a67 ha67 hz67 hd67 => ?_;have g67_0 := kP ha67 g65_0;have g67_1 := kP ha67 g65_1;have g67_2 := kP ha67 g65_2;have g67_3 := kP ha67 g65_3;have g67_7 := kP ha67 g65_7;have g67_8 := kP ha67 g65_8;have g67_9 := kP ha67 g65_9;have g67_10 := kP ha67 g65_10;have g67_11 := kP ha67 g65_11;have g67_14 := kP ha67 g65_14;have g67_21 := kP ha67 g65_21;have g67_22 := kP ha67 g65_22;have g67_23 := kP ha67 g65_23;have g67_51 := kP ha67 g65_51;have g67_52 := kP ha67 g65_52;have g67_55 : get a67 55 = .slice q fs.length cap := kG ha67 hz65;have g67_56 : get a67 56 = .int .i64 ((fs.length : Nat) : Int) := kG ha67 hz65;have g67_57 : get a67 57 = .int .i64 0 := kG ha67 hz65;refine hK66 a67 w58 ?_;rw [← knTo_zero (fs := fs) (t := (.mk n s nl l u)) (encs := encs) (k := k)] at ho10 g67_11;refine wp_block (wp_loop_ghost (fun (m4 : Nat) a' w' => ∃ (j4 : Nat) (u10 : Value), a'.tmps.size = 132 ∧ a'.defers = [] ∧ get a' 0 = .slice q fs.length cap ∧ get a' 1 = .int .i64 ver ∧ get a' 2 = .bool flex ∧ get a' 3 = .agg ([.int .i64 n, sv, .bool nl, lv, uv] : List Value).toArray ∧ get a' 7 = .pointer (some ⟨w.heap.size, 0, none⟩) ∧ get a' 8 = .slice none 0 0 ∧ get a' 9 = v9 ∧ get a' 10 = u10 ∧ get a' 11 = .int .i64 (((knTo fs (.mk n s nl l u) encs k j4).length : Nat) : Int) ∧ get a' 14 = .int .i64 (k : Int) ∧ get a' 21 = .slice q fs.length cap ∧ get a' 22 = .int .i64 ((fs.length : Nat) : Int) ∧ get a' 23 = .int .i64 (j : Int) ∧ get a' 51 = .int .i64 ((knownW fs : Nat) : Int) ∧ get a' 52 = .int .i64 (k : Int) ∧ get a' 55 = .slice q fs.length cap ∧ get a' 56 = .int .i64 ((fs.length : Nat) : Int) ∧ get a' 57 = .int .i64 (j4 : Int) ∧ j4 + m4 = fs.length ∧ Own w' (From w2.heap.size w') 1 v9 ((bodyW fs ver encs fs.length)).length (octets (bodyW fs ver encs fs.length)) ∧ Own w' (From w54.heap.size w') 1 u10 (((knTo fs (.mk n s nl l u) encs k j4).flatMap pairW)).length (octets ((knTo fs (.mk n s nl l u) encs k j4).flatMap pairW)) ∧ w'.rangeAt w.heap.size 0 [.int .i64 n, sv, .bool nl, lv, uv] ∧ Fr [] w w' ∧ w54.heap.size ≤ w'.heap.size) fs.length ?_ ?_)
    · exact ⟨0, v10, hz67, hd67, g67_0, g67_1, g67_2, g67_3, g67_7, g67_8, g67_9, g67_10, g67_11, g67_14, g67_21, g67_22, g67_23, g67_51, g67_52, g67_55, g67_56, g67_57, by omega, ho2.upTo (Fr.refl [] w58) (From.mono (Fr.refl [] w58).size), ho10.upTo (Fr.refl [] w58) (From.mono (Fr.refl [] w58).size), hbl3, hfl2, Nat.le_trans hSl2 (Fr.refl [] w58).size⟩
    rintro m4 a68 w68 ⟨j4, u10, hz68, hd68, g68_0, g68_1, g68_2, g68_3, g68_7, g68_8, g68_9, g68_10, g68_11, g68_14, g68_21, g68_22, g68_23, g68_51, g68_52, g68_55, g68_56, g68_57, hjm4, ho4, hp4, hbl4, hfl4, hSl4⟩;refine wS fun K69 hK69 => ?_;refine wC (wp_lss (k1 := .i64) (i := (j4 : Int)) (j := ((fs.length : Nat) : Int)) (eK g68_57) (eK g68_56) ?_);refine wEk hz68 hd68 fun a70 ha70 hz70 hd70 => ?_;have g70_0 := kP ha70 g68_0;have g70_1 := kP ha70 g68_1;have g70_2 := kP ha70 g68_2;have g70_3 := kP ha70 g68_3;have g70_7 := kP ha70 g68_7;have g70_8 := kP ha70 g68_8;have g70_9 := kP ha70 g68_9;have g70_10 := kP ha70 g68_10;have g70_11 := kP ha70 g68_11;have g70_14 := kP ha70 g68_14;have g70_21 := kP ha70 g68_21;have g70_22 := kP ha70 g68_22;have g70_23 := kP ha70 g68_23;have g70_51 := kP ha70 g68_51;have g70_52 := kP ha70 g68_52;have g70_55 := kP ha70 g68_55;have g70_56 := kP ha70 g68_56;have g70_57 := kP ha70 g68_57;have g70_58 : get a70 58 = .bool (decide (((j4 : Int) : Int) < (((fs.length : Nat) : Int) : Int))) := kG ha70 hz68;refine hK69 a70 w68 ?_;refine wp_seq_k fun K71 hK71 => ?_;refine wp_cond_split (t := decide (((j4 : Int) : Int) < (((fs.length : Nat) : Int) : Int))) (eK g70_58) (fun hc72 => ?_) (fun hc72 => ?_)
    · have hjl : j4 < fs.length := by simpa using hc72
      obtain ⟨fd, hfd⟩ : ∃ fd, fs[j4]? = some fd := ⟨fs[j4], by simp [hjl]⟩;obtain ⟨bl, ol, cl, hq, hbl2, hrl, hrep⟩ := hk j4 fd hfd;obtain ⟨fsv, rfl, hsub⟩ := repF_iff.1 hrep;have hFm := hFi fd (List.mem_of_getElem? hfd);have henc : encs.getD j4 [] = fieldW fd ver flex (atT l j4) := by rw [hencs, fieldsW_at fs ver flex l 0 j4 fd hfd, Nat.zero_add]
      obtain ⟨kr, hkr⟩ := knTo_pre (fs := fs) (t := (.mk n s nl l u)) (encs := encs) hkl (show j4 + 1 ≤ fs.length from hjl);have hkpl : ((knTo fs (.mk n s nl l u) encs k (j4 + 1)).flatMap pairW).length ≤ ((knownsW fs (.mk n s nl l u) encs).flatMap pairW).length := by rw [hkr, List.flatMap_append, List.length_append]; omega
      have hkll := pairs_len (knTo fs (.mk n s nl l u) encs k (j4 + 1));have hks := knTo_succ (fs := fs) (t := (.mk n s nl l u)) (encs := encs) (k := k) (j := j4);refine wp_skip ?_;refine hK71 a70 w68 ?_;refine wp_seq_k fun K73 hK73 => ?_;refine wp_blockT ?_;refine wS fun K74 hK74 => ?_;refine wC (wMv (v := .int .i64 (j4 : Int)) (eK g70_57) ?_);refine wC (wp_ixN (b := bl) (o := ol) (i := j4) hs_T29 (by rw [eTm, nZ (by decide), g70_55, hq]) (eK g70_57) hjl ?_);refine wC (wp_loadFlat (cs := [.int .i64 fd.kind, .int .i64 fd.fr, .int .i64 fd.to, .int .i64 fd.nul, .int .i64 fd.tag, .int .i64 fd.df, .int .i64 fd.of, fsv]) (b := bl) (o := ol + j4 * 8) hFlT45 rfl (eS hz70) (hfl4.range hrl .nil) ?_);refine wC (wp_allocL hFlT45 ?_);rintro w75 f75 sz75 r75 th75;have hF76 : Fr [] w w75 := hfl4.tr f75;have hL76_w68 : Fr [] w68 w75 := (Fr.refl [] w68).tr f75;have rb77 := f75.range hbl4 .nil;refine wC (wAs (v := .int .i64 (j4 : Int)) (eS hz70) ?_);refine wC (wp_storeL (cs := [.int .i64 fd.kind, .int .i64 fd.fr, .int .i64 fd.to, .int .i64 fd.nul, .int .i64 fd.tag, .int .i64 fd.df, .int .i64 fd.of, fsv]) (o := 0) hFlT45 rfl (eS hz70) (eS hz70) (by intro u hu; simp at hu; rcases hu with rfl | rfl | rfl | rfl | rfl | rfl | rfl | rfl <;> first | rfl | exact hsub.one) th75 ?_);rintro w78 f78 sz78 r78 th78;have hF78 : Fr [] w w78 := hF76.trans f78 (fun r hr => .inl (by simp at hr; subst hr; have := hfl4.size; simp only; omega));have rb79 := f78.range rb77 (.cons (.inl (by simp only; omega)) .nil);have hL78_w68 : Fr [] w68 w78 := hL76_w68.trans f78 (fun r hr => .inl (by simp at hr; subst hr; have := (Fr.refl [] w68).size; simp only; omega));refine wEk hz70 hd70 fun a80 ha80 hz80 hd80 => ?_;have g80_0 := kP ha80 g70_0;have g80_1 := kP ha80 g70_1;have g80_2 := kP ha80 g70_2;have g80_3 := kP ha80 g70_3;have g80_7 := kP ha80 g70_7;have g80_8 := kP ha80 g70_8;have g80_9 := kP ha80 g70_9;have g80_10 := kP ha80 g70_10;have g80_11 := kP ha80 g70_11;have g80_14 := kP ha80 g70_14;have g80_15 : get a80 15 = .int .i64 (j4 : Int) := kG ha80 hz70;have g80_16 : get a80 16 = .pointer (some ⟨w68.heap.size, 0, none⟩) := kG ha80 hz70;have g80_21 := kP ha80 g70_21;have g80_22 := kP ha80 g70_22;have g80_23 := kP ha80 g70_23;have g80_51 := kP ha80 g70_51;have g80_52 := kP ha80 g70_52;have g80_55 := kP ha80 g70_55;have g80_56 := kP ha80 g70_56;have g80_57 := kP ha80 g70_57;refine hK74 a80 w78 ?_;refine wp_seq_k fun K81 hK81 => ?_
      by_cases hte : fd.tag = ((k : Nat) : Int)
      · have hUs := hUsm fd (List.mem_of_getElem? hfd) (by omega);refine wp_drawE0 [spC [] (.pointer (some ⟨w68.heap.size, 4, none⟩)), spC [0] (.int .i64 fd.tag), spC [] (.int .i64 (k : Int)), spC [1, 2] (.bool true), spC [3] (.bool true), spC [4] (.agg ([.int .i64 fd.kind, .int .i64 fd.fr, .int .i64 fd.to, .int .i64 fd.nul, .int .i64 fd.tag, .int .i64 fd.df, .int .i64 fd.of, fsv] : List Value).toArray), spC [4] (.agg ([.int .i64 n, sv, .bool nl, lv, uv] : List Value).toArray), spC [4] (.int .i64 (j4 : Int)), spR [4, 6, 7] (fun x w' => ∃ cs : List Value, x = .agg cs.toArray ∧ RepT w' B cs (atT l j4)), spR [4, 5, 8] (fun x w' => x = .bool (usualW fd (atT l j4))), spC [4, 9] (.bool (!(usualW fd (atT l j4)))), spC [4, 10] (.bool (!(usualW fd (atT l j4))))] 62 [] hmx he17 (by simp [shape]) (by simp [spC, spR]) (by simp; omega) ⟨lCc _ _ _, lCc _ _ _, lCc _ _ _, lCc _ _ _, lCc _ _ _, lCc _ _ _, lCc _ _ _, lCc _ _ _, (fun v w1 w2 f h => by obtain ⟨cs, h1, h2⟩ := h; exact ⟨cs, h1, h2.kept f (by simp) (fun _ h => h)⟩), (fun v w1 w2 f h => h), lCc _ _ _, lCc _ _ _, trivial⟩ ?_ ?_
        · refine oCs ?_ ?_
          · refine op_c fun a' w' hk' hf' hd' K' hK' => ?_;refine wFa (b := w68.heap.size) (i := 0) (hFlT45.fld (by decide)) (by rw [eTm, hk'.get 16 (by omega), g80_16]) ?_;rw [show (0 + 4 : Nat) = 4 from rfl];exact hK'
          refine oCs ?_ ?_
          · refine op_c fun a' w' hk' hf' hd' K' hK' => ?_;refine wL0 (j := 4) (v := .int .i64 fd.tag) hcT3 (by rw [eTm]; exact hd'.c (nd' := []) 0 (by simp) rfl) (hf'.range r78 .nil) rfl ?_;exact hK'
          refine oCs ?_ ?_
          · refine op_c fun a' w' hk' hf' hd' K' hK' => ?_;refine wMv (v := .int .i64 (k : Int)) (by rw [eTm, hk'.get 14 (by omega), g80_14]) ?_;exact hK'
          refine oCs ?_ ?_
          · refine op_c fun a' w' hk' hf' hd' K' hK' => ?_;refine wp_eqlT (k1 := .i64) (i := fd.tag) (j := (k : Int)) hte (by rw [eTm]; exact hd'.c (nd' := [0]) 1 (by simp) rfl) (by rw [eTm]; exact hd'.c (nd' := []) 2 (by simp) rfl) ?_;exact hK'
          refine oCs ?_ ?_
          · refine op_c fun a' w' hk' hf' hd' K' hK' => ?_;refine wMv (v := .bool true) (by rw [eTm]; exact hd'.c (nd' := [1, 2]) 3 (by simp) rfl) ?_;exact hK'
          refine oCs ?_ ?_
          · refine op_gy rfl (by decide) (fun a w h => h.c (nd' := [3]) 4 (by simp [spC, spR]) rfl) ?_;refine op_c fun a' w' hk' hf' hd' K' hK' => ?_;refine wp_loadFlat (cs := [.int .i64 fd.kind, .int .i64 fd.fr, .int .i64 fd.to, .int .i64 fd.nul, .int .i64 fd.tag, .int .i64 fd.df, .int .i64 fd.of, fsv]) (b := w68.heap.size) (o := 0) hFlT45 rfl (by rw [eTm, hk'.get 16 (by omega), g80_16]) (hf'.range r78 .nil) ?_;exact hK'
          refine oCs ?_ ?_
          · refine op_gy rfl (by decide) (fun a w h => h.c (nd' := [3]) 4 (by simp [spC, spR]) rfl) ?_;refine op_c fun a' w' hk' hf' hd' K' hK' => ?_;refine wp_loadFlat (cs := [.int .i64 n, sv, .bool nl, lv, uv]) (b := w.heap.size) (o := 0) hFlT26 rfl (by rw [eTm, hk'.get 7 (by omega), g80_7]) (hf'.range rb79 .nil) ?_;exact hK'
          refine oCs ?_ ?_
          · refine op_gy rfl (by decide) (fun a w h => h.c (nd' := [3]) 4 (by simp [spC, spR]) rfl) ?_;refine op_c fun a' w' hk' hf' hd' K' hK' => ?_;refine wMv (v := .int .i64 (j4 : Int)) (by rw [eTm, hk'.get 15 (by omega), g80_15]) ?_;exact hK'
          refine oCs ?_ ?_
          · refine op_gy rfl (by decide) (fun a w h => h.c (nd' := [3]) 4 (by simp [spC, spR]) rfl) ?_;refine op_r fun a' w' hk' hf' hd' K' hK' => ?_;refine wCr (R := fun x wz => ∃ cs : List Value, x = .agg cs.toArray ∧ Fr [] w' wz ∧ ((∀ b, B b → b < w'.heap.size) → RepT wz B cs (atT l j4))) (vs := #[.agg ([.int .i64 n, sv, .bool nl, lv, uv] : List Value).toArray, .int .i64 (j4 : Int)]) hAt.enters (by simp only [List.map_toArray, List.map_cons, List.map_nil]; rw [show a'.eval (.tmp 68) = Value.agg ([.int .i64 n, sv, .bool nl, lv, uv] : List Value).toArray from (by rw [eTm]; exact hd'.c (nd' := [4]) 6 (by simp) rfl), show a'.eval (.tmp 69) = Value.int .i64 (j4 : Int) from (by rw [eTm]; exact hd'.c (nd' := [4]) 7 (by simp) rfl)]) ((hAt.call w' B _ (.mk n s nl l u) j4 (ht0.kept (hF78.tr hf') (by simp) (fun _ h => h))).mono (by rintro e wz ⟨cs, rfl, h1, h2⟩; exact ⟨_, rfl, cs, rfl, h1, h2⟩)) ?_;rintro _ w82 ⟨cs82, rfl, fr82, hr82⟩;exact hK' _ w82 ⟨cs82, rfl, hr82 (fun b hb => Nat.lt_of_lt_of_le (hB b hb) (hF78.tr hf').size)⟩ fr82
          refine oCs ?_ ?_
          · refine op_gy rfl (by decide) (fun a w h => h.c (nd' := [3]) 4 (by simp [spC, spR]) rfl) ?_;refine op_r fun a' w' hk' hf' hd' K' hK' => ?_;obtain ⟨ct', hct, hrt'⟩ : ∃ cs : List Value, get a' 70 = .agg cs.toArray ∧ RepT w' B cs (atT l j4) := hd'.at (d := 8) (by simp) rfl;refine wCr (R := fun x wz => x = .bool (usualW fd (atT l j4)) ∧ Fr [] w' wz) (vs := #[.agg ([.int .i64 fd.kind, .int .i64 fd.fr, .int .i64 fd.to, .int .i64 fd.nul, .int .i64 fd.tag, .int .i64 fd.df, .int .i64 fd.of, fsv] : List Value).toArray, .agg ct'.toArray]) hUs.enters (by simp only [List.map_toArray, List.map_cons, List.map_nil]; rw [show a'.eval (.tmp 67) = Value.agg ([.int .i64 fd.kind, .int .i64 fd.fr, .int .i64 fd.to, .int .i64 fd.nul, .int .i64 fd.tag, .int .i64 fd.df, .int .i64 fd.of, fsv] : List Value).toArray from (by rw [eTm]; exact hd'.c (nd' := [4]) 5 (by simp) rfl), show a'.eval (.tmp 70) = Value.agg ct'.toArray from (by rw [eTm]; exact hct)]) ((hUs.call w' A B _ _ _ (hrep.kept (hF78.tr hf') (by simp) (fun _ h => h)) hrt').mono (by rintro e wz ⟨rfl, h⟩; exact ⟨_, rfl, rfl, h⟩)) ?_;rintro x wz ⟨rfl, fr⟩;exact hK' _ wz rfl fr
          refine oCs ?_ ?_
          · refine op_gy rfl (by decide) (fun a w h => h.c (nd' := [3]) 4 (by simp [spC, spR]) rfl) ?_;refine op_c fun a' w' hk' hf' hd' K' hK' => ?_;have hu9 : get a' 71 = .bool (usualW fd (atT l j4)) := hd'.at (d := 9) (by simp) rfl;refine wp_not (b := usualW fd (atT l j4)) (by rw [eTm]; exact hu9) ?_;exact hK'
          refine oCs ?_ ?_
          · refine op_c fun a' w' hk' hf' hd' K' hK' => ?_;refine wp_pickYes (v := .bool (!(usualW fd (atT l j4)))) (by rw [eTm]; exact hd'.c (nd' := [3]) 4 (by simp) rfl) (by rw [eTm]; exact hd'.c (nd' := [4, 9]) 10 (by simp) rfl) ?_;exact hK'
          exact opsOk_nil
        intro a83 w83 k83 f83 hd_83;have g83_0 : get a83 0 = .slice q fs.length cap := by rw [k83.get 0 (by omega), g80_0]
        have g83_1 : get a83 1 = .int .i64 ver := by rw [k83.get 1 (by omega), g80_1]
        have g83_2 : get a83 2 = .bool flex := by rw [k83.get 2 (by omega), g80_2]
        have g83_3 : get a83 3 = .agg ([.int .i64 n, sv, .bool nl, lv, uv] : List Value).toArray := by rw [k83.get 3 (by omega), g80_3]
        have g83_7 : get a83 7 = .pointer (some ⟨w.heap.size, 0, none⟩) := by rw [k83.get 7 (by omega), g80_7]
        have g83_8 : get a83 8 = .slice none 0 0 := by rw [k83.get 8 (by omega), g80_8]
        have g83_9 : get a83 9 = v9 := by rw [k83.get 9 (by omega), g80_9]
        have g83_10 : get a83 10 = u10 := by rw [k83.get 10 (by omega), g80_10]
        have g83_11 : get a83 11 = .int .i64 (((knTo fs (.mk n s nl l u) encs k j4).length : Nat) : Int) := by rw [k83.get 11 (by omega), g80_11]
        have g83_14 : get a83 14 = .int .i64 (k : Int) := by rw [k83.get 14 (by omega), g80_14]
        have g83_15 : get a83 15 = .int .i64 (j4 : Int) := by rw [k83.get 15 (by omega), g80_15]
        have g83_16 : get a83 16 = .pointer (some ⟨w68.heap.size, 0, none⟩) := by rw [k83.get 16 (by omega), g80_16]
        have g83_21 : get a83 21 = .slice q fs.length cap := by rw [k83.get 21 (by omega), g80_21]
        have g83_22 : get a83 22 = .int .i64 ((fs.length : Nat) : Int) := by rw [k83.get 22 (by omega), g80_22]
        have g83_23 : get a83 23 = .int .i64 (j : Int) := by rw [k83.get 23 (by omega), g80_23]
        have g83_51 : get a83 51 = .int .i64 ((knownW fs : Nat) : Int) := by rw [k83.get 51 (by omega), g80_51]
        have g83_52 : get a83 52 = .int .i64 (k : Int) := by rw [k83.get 52 (by omega), g80_52]
        have g83_55 : get a83 55 = .slice q fs.length cap := by rw [k83.get 55 (by omega), g80_55]
        have g83_56 : get a83 56 = .int .i64 ((fs.length : Nat) : Int) := by rw [k83.get 56 (by omega), g80_56]
        have g83_57 : get a83 57 = .int .i64 (j4 : Int) := by rw [k83.get 57 (by omega), g80_57]
        have hz83 : a83.tmps.size = 132 := k83.size.trans hz80;have hd83 : a83.defers = [] := k83.defers.trans hd80;have g83_73 : get a83 73 = .bool (!(usualW fd (atT l j4))) := hd_83.c (nd' := [4, 10]) 11 (by simp) rfl;have hF84 : Fr [] w w83 := hF78.tr f83;have hL84_w68 : Fr [] w68 w83 := hL78_w68.tr f83;have rb85 := f83.range rb79 .nil;have rb86 := f83.range r78 .nil;refine hK81 a83 w83 ?_;refine wp_cond_split (t := !(usualW fd (atT l j4))) (eK g83_73) (fun hc87 => ?_) (fun hc87 => ?_)
        · have hkn : knAt fs (.mk n s nl l u) encs k j4 = [(k, fieldW fd ver flex (atT l j4))] := by rw [← henc]; simpa [knAt, hfd, hte, T.l] using hc87
          refine wp_seq_k fun K88 hK88 => ?_;rw [hkn] at hks;have hpk : (knTo fs (.mk n s nl l u) encs k (j4 + 1)).flatMap pairW = (((knTo fs (.mk n s nl l u) encs k j4).flatMap pairW ++ uvW k) ++ uvW (fieldW fd ver flex (atT l j4)).length) ++ fieldW fd ver flex (atT l j4) := by rw [hks]; simp [List.flatMap_append, pairW]
          rw [hpk] at hkpl;simp only [List.length_append] at hkpl;have hkl2 : (knTo fs (.mk n s nl l u) encs k j4).length ≤ 4294967296 := by have := pairs_len (knTo fs (.mk n s nl l u) encs k j4); omega
          have hoA := hp4.upTo hL84_w68 (From.mono hL84_w68.size);refine wp_drawR (os := [oL 74 T45 16 t68 p68 e68, oM 75 1 t69 p69 e69, oM 76 2 t70 p70 e70, oL 77 T26 7 t71 p71 e71, oM 78 15 t72 p72 e72, oC 79 f56 #[(.tmp 77), (.tmp 78)] ct6 t73 p73 e73, oC 80 f55 #[(.tmp 74), (.tmp 75), (.tmp 76), (.tmp 79)] ct7 t74 p74 e74]) (rest := [oT 17 80 t75 p75 e75]) [spC [] (.agg ([.int .i64 fd.kind, .int .i64 fd.fr, .int .i64 fd.to, .int .i64 fd.nul, .int .i64 fd.tag, .int .i64 fd.df, .int .i64 fd.of, fsv] : List Value).toArray), spC [] (.int .i64 ver), spC [] (.bool flex), spC [] (.agg ([.int .i64 n, sv, .bool nl, lv, uv] : List Value).toArray), spC [] (.int .i64 (j4 : Int)), spR [3, 4] (fun x w' => ∃ cs : List Value, x = .agg cs.toArray ∧ RepT w' B cs (atT l j4)), spR [0, 1, 2, 5] (fun x w' => Own w' (From w83.heap.size w') 1 x (fieldW fd ver flex (atT l j4)).length (octets (fieldW fd ver flex (atT l j4))))] 74 [] hmx he18 (by simp [shape]) (by simp [plainO]) (by simp [spC, spR]) (by simp; omega) ⟨lCc _ _ _, lCc _ _ _, lCc _ _ _, lCc _ _ _, lCc _ _ _, (fun v w1 w2 f h => by obtain ⟨cs, h1, h2⟩ := h; exact ⟨cs, h1, h2.kept f (by simp) (fun _ h => h)⟩), (fun v w1 w2 f h => h.upTo f (From.mono f.size)), trivial⟩ ?_ ?_
          · refine oCs ?_ ?_
            · refine op_c fun a' w' hk' hf' hd' K' hK' => ?_;refine wp_loadFlat (cs := [.int .i64 fd.kind, .int .i64 fd.fr, .int .i64 fd.to, .int .i64 fd.nul, .int .i64 fd.tag, .int .i64 fd.df, .int .i64 fd.of, fsv]) (b := w68.heap.size) (o := 0) hFlT45 rfl (by rw [eTm, hk'.get 16 (by omega), g83_16]) (hf'.range rb86 .nil) ?_;exact hK'
            refine oCs ?_ ?_
            · refine op_c fun a' w' hk' hf' hd' K' hK' => ?_;refine wMv (v := .int .i64 ver) (by rw [eTm, hk'.get 1 (by omega), g83_1]) ?_;exact hK'
            refine oCs ?_ ?_
            · refine op_c fun a' w' hk' hf' hd' K' hK' => ?_;refine wMv (v := .bool flex) (by rw [eTm, hk'.get 2 (by omega), g83_2]) ?_;exact hK'
            refine oCs ?_ ?_
            · refine op_c fun a' w' hk' hf' hd' K' hK' => ?_;refine wp_loadFlat (cs := [.int .i64 n, sv, .bool nl, lv, uv]) (b := w.heap.size) (o := 0) hFlT26 rfl (by rw [eTm, hk'.get 7 (by omega), g83_7]) (hf'.range rb85 .nil) ?_;exact hK'
            refine oCs ?_ ?_
            · refine op_c fun a' w' hk' hf' hd' K' hK' => ?_;refine wMv (v := .int .i64 (j4 : Int)) (by rw [eTm, hk'.get 15 (by omega), g83_15]) ?_;exact hK'
            refine oCs ?_ ?_
            · refine op_r fun a' w' hk' hf' hd' K' hK' => ?_;refine wCr (R := fun x wz => ∃ cs : List Value, x = .agg cs.toArray ∧ Fr [] w' wz ∧ ((∀ b, B b → b < w'.heap.size) → RepT wz B cs (atT l j4))) (vs := #[.agg ([.int .i64 n, sv, .bool nl, lv, uv] : List Value).toArray, .int .i64 (j4 : Int)]) hAt.enters (by simp only [List.map_toArray, List.map_cons, List.map_nil]; rw [show a'.eval (.tmp 77) = Value.agg ([.int .i64 n, sv, .bool nl, lv, uv] : List Value).toArray from (by rw [eTm]; exact hd'.c (nd' := []) 3 (by simp) rfl), show a'.eval (.tmp 78) = Value.int .i64 (j4 : Int) from (by rw [eTm]; exact hd'.c (nd' := []) 4 (by simp) rfl)]) ((hAt.call w' B _ (.mk n s nl l u) j4 (ht0.kept (hF84.tr hf') (by simp) (fun _ h => h))).mono (by rintro e wz ⟨cs, rfl, h1, h2⟩; exact ⟨_, rfl, cs, rfl, h1, h2⟩)) ?_;rintro _ w89 ⟨cs89, rfl, fr89, hr89⟩;exact hK' _ w89 ⟨cs89, rfl, hr89 (fun b hb => Nat.lt_of_lt_of_le (hB b hb) (hF84.tr hf').size)⟩ fr89
            refine oCs ?_ ?_
            · refine op_r fun a' w' hk' hf' hd' K' hK' => ?_;obtain ⟨ct', hct, hrt'⟩ : ∃ cs : List Value, get a' 79 = .agg cs.toArray ∧ RepT w' B cs (atT l j4) := hd'.at (d := 5) (by simp) rfl;refine wCr (R := fun vz wz => Fr [] w' wz ∧ Own wz (From w'.heap.size wz) 1 vz (fieldW fd ver flex (atT l j4)).length (octets (fieldW fd ver flex (atT l j4)))) (vs := #[.agg ([.int .i64 fd.kind, .int .i64 fd.fr, .int .i64 fd.to, .int .i64 fd.nul, .int .i64 fd.tag, .int .i64 fd.df, .int .i64 fd.of, fsv] : List Value).toArray, .int .i64 ver, .bool flex, .agg ct'.toArray]) hFm.enters (by simp only [List.map_toArray, List.map_cons, List.map_nil]; rw [show a'.eval (.tmp 74) = Value.agg ([.int .i64 fd.kind, .int .i64 fd.fr, .int .i64 fd.to, .int .i64 fd.nul, .int .i64 fd.tag, .int .i64 fd.df, .int .i64 fd.of, fsv] : List Value).toArray from (by rw [eTm]; exact hd'.c (nd' := []) 0 (by simp) rfl), show a'.eval (.tmp 75) = Value.int .i64 ver from (by rw [eTm]; exact hd'.c (nd' := []) 1 (by simp) rfl), show a'.eval (.tmp 76) = Value.bool flex from (by rw [eTm]; exact hd'.c (nd' := []) 2 (by simp) rfl), show a'.eval (.tmp 79) = Value.agg ct'.toArray from (by rw [eTm]; exact hct)]) (calls_fresh (hFm.call w' A B ver flex _ ct' (atT l j4) (hrep.kept (hF84.tr hf') (by simp) (fun _ h => h)) hrt' (fun b hb => Nat.lt_of_lt_of_le (hA b hb) (hF84.tr hf').size) (fun b hb => Nat.lt_of_lt_of_le (hB b hb) (hF84.tr hf').size) (by omega))) ?_;rintro x90 w90 ⟨fr90, ow90⟩;exact hK' x90 w90 (ow90.from hf'.size) fr90
            exact opsOk_nil
          intro a91 w91 k91 f91 hd_91;have g91_0 : get a91 0 = .slice q fs.length cap := by rw [k91.get 0 (by omega), g83_0]
          have g91_1 : get a91 1 = .int .i64 ver := by rw [k91.get 1 (by omega), g83_1]
          have g91_2 : get a91 2 = .bool flex := by rw [k91.get 2 (by omega), g83_2]
          have g91_3 : get a91 3 = .agg ([.int .i64 n, sv, .bool nl, lv, uv] : List Value).toArray := by rw [k91.get 3 (by omega), g83_3]
          have g91_7 : get a91 7 = .pointer (some ⟨w.heap.size, 0, none⟩) := by rw [k91.get 7 (by omega), g83_7]
          have g91_8 : get a91 8 = .slice none 0 0 := by rw [k91.get 8 (by omega), g83_8]
          have g91_9 : get a91 9 = v9 := by rw [k91.get 9 (by omega), g83_9]
          have g91_10 : get a91 10 = u10 := by rw [k91.get 10 (by omega), g83_10]
          have g91_11 : get a91 11 = .int .i64 (((knTo fs (.mk n s nl l u) encs k j4).length : Nat) : Int) := by rw [k91.get 11 (by omega), g83_11]
          have g91_14 : get a91 14 = .int .i64 (k : Int) := by rw [k91.get 14 (by omega), g83_14]
          have g91_21 : get a91 21 = .slice q fs.length cap := by rw [k91.get 21 (by omega), g83_21]
          have g91_22 : get a91 22 = .int .i64 ((fs.length : Nat) : Int) := by rw [k91.get 22 (by omega), g83_22]
          have g91_23 : get a91 23 = .int .i64 (j : Int) := by rw [k91.get 23 (by omega), g83_23]
          have g91_51 : get a91 51 = .int .i64 ((knownW fs : Nat) : Int) := by rw [k91.get 51 (by omega), g83_51]
          have g91_52 : get a91 52 = .int .i64 (k : Int) := by rw [k91.get 52 (by omega), g83_52]
          have g91_55 : get a91 55 = .slice q fs.length cap := by rw [k91.get 55 (by omega), g83_55]
          have g91_56 : get a91 56 = .int .i64 ((fs.length : Nat) : Int) := by rw [k91.get 56 (by omega), g83_56]
          have g91_57 : get a91 57 = .int .i64 (j4 : Int) := by rw [k91.get 57 (by omega), g83_57]
          have hz91 : a91.tmps.size = 132 := k91.size.trans hz83;have hd91 : a91.defers = [] := k91.defers.trans hd83;have hF92 : Fr [] w w91 := hF84.tr f91;have hL92_w68 : Fr [] w68 w91 := hL84_w68.tr f91;have hL92_w83 : Fr [] w83 w91 := (Fr.refl [] w83).tr f91;have rb93 := f91.range rb85 .nil;have rb94 := f91.range rb86 .nil;have hv : Own w91 (From w83.heap.size w91) 1 (get a91 80) (fieldW fd ver flex (atT l j4)).length (octets (fieldW fd ver flex (atT l j4))) := hd_91.at (d := 6) (by simp) rfl;obtain ⟨q17, c17, hs17⟩ := hv.sl;rw [hs17] at hv;refine wC (wAs (v := .slice q17 ((fieldW fd ver flex (atT l j4)).length) c17) (by rw [eTm, hs17]) ?_);refine wEk hz91 hd91 fun a95 ha95 hz95 hd95 => ?_;have g95_0 := kP ha95 g91_0;have g95_1 := kP ha95 g91_1;have g95_2 := kP ha95 g91_2;have g95_3 := kP ha95 g91_3;have g95_7 := kP ha95 g91_7;have g95_8 := kP ha95 g91_8;have g95_9 := kP ha95 g91_9;have g95_10 := kP ha95 g91_10;have g95_11 := kP ha95 g91_11;have g95_14 := kP ha95 g91_14;have g95_17 : get a95 17 = .slice q17 ((fieldW fd ver flex (atT l j4)).length) c17 := kG ha95 hz91;have g95_21 := kP ha95 g91_21;have g95_22 := kP ha95 g91_22;have g95_23 := kP ha95 g91_23;have g95_51 := kP ha95 g91_51;have g95_52 := kP ha95 g91_52;have g95_55 := kP ha95 g91_55;have g95_56 := kP ha95 g91_56;have g95_57 := kP ha95 g91_57;refine hK88 a95 w91 ?_;refine wp_seq_k fun K96 hK96 => ?_;have hm0 : w54.heap.size ≤ w83.heap.size := Nat.le_trans hSl4 hL84_w68.size;have hm1 : w83.heap.size ≤ w91.heap.size := hL92_w83.size;have hoB : Own w91 (Gap w54.heap.size w83.heap.size w91.heap.size w91) 1 u10 _ _ := hoA.upTo hL92_w83 (fun b hb => .inl hb);have hvB : OctE w91 (fun b => w83.heap.size ≤ b ∧ b < w91.heap.size) _ _ := hv.octE (by omega);have hxB := ho4.upTo hL92_w68 (From.mono hL92_w68.size);have hSB : w91.heap.size ≤ w91.heap.size := Nat.le_refl _;refine wp_reg ?_;refine wC (wMv (v := u10) (eK g95_10) ?_);refine wC (wMv (v := .int .i64 (k : Int)) (eK g95_14) ?_);refine wC (wCv (k1 := .i64) (i := (k : Int)) hT3_i64 hT76_u64 (eS hz95) ?_);rw [show (IntKind.u64.wrap ((k : Int) : Int)) = (((k : Nat) : Int) : Int) from by simp only [IntKind.wrap, IntKind.bits, IntKind.signed]; simp; omega];refine wC (wCr (R := fun vz wz => Fr [] w91 wz ∧ Own wz (From w91.heap.size wz) 1 vz (uvW k).length (octets (uvW k))) (vs := #[.int .u64 ((k : Nat) : Int)]) hUv.enters (mX1 (eS hz95)) (calls_fresh (hUv.call w91 k (by omega))) ?_);rintro x97 w97 ⟨fr97, ow97⟩;have hF98 : Fr [] w w97 := hF92.tr fr97;have rb99 := fr97.range rb93 .nil;have rb100 := fr97.range rb94 .nil;have hy101 := hvB.kept fr97 (by simp) (fun _ h => h);have hx101 := hxB.upTo fr97 (From.mono fr97.size);have hS101 := Nat.le_trans hSB fr97.size;have hoo101 := hoB.upTo fr97 (Gap.mono fr97.size);rw [wCo];have ob102 := hoo101;have hSl102 : w91.heap.size ≤ w97.heap.size := hS101;refine wp_appO hs_T22 hz_T22 (eS hz95) (eS hz95) ob102 (ow97.octE (by omega)) (by omega) ?_;rintro v102 w102 fa102 oa102 sp102 bk102;have ho102 : Own w102 (Gap w54.heap.size w83.heap.size w91.heap.size w102) 1 v102 _ _ := oa102.imp_A (gap_or hSl102 fa102.size);have hF102 : Fr [] w w102 := fr_own hF98 fa102 ob102 (fun b hb => by rcases hb with hb | hb <;> omega);have rb103 := fa102.range rb99 (fun r hr => .inl fun e => by rcases ob102.spare_in r hr with h1 | h1 <;> omega);have hy104 := hy101.kept fa102 (A' := fun b => w83.heap.size ≤ b ∧ b < w91.heap.size) (fun r hr hb => by rcases ob102.spare_in r hr with h1 | h1 <;> omega) (fun _ h => h);have hx104 := hx101.kept fa102 (A' := From w2.heap.size w102) (by intro r hr hb g o cap hv e; exfalso; have h2 := hb9 g (by rw [hv]; rfl); rcases ob102.spare_in r hr with h1 | h1 <;> omega) (From.mono fa102.size);have hS104 := Nat.le_trans hS101 fa102.size;refine wC (wMv (v := .slice q17 ((fieldW fd ver flex (atT l j4)).length) c17) (eK g95_17) ?_);refine wC (wp_lenS (n := (fieldW fd ver flex (atT l j4)).length) hsT22 (eS hz95) ?_);refine wC (wCv (k1 := .i64) (i := (((fieldW fd ver flex (atT l j4)).length : Nat) : Int)) hT3_i64 hT76_u64 (eS hz95) ?_);rw [show (IntKind.u64.wrap ((((fieldW fd ver flex (atT l j4)).length : Nat) : Int) : Int)) = ((((fieldW fd ver flex (atT l j4)).length : Nat) : Int) : Int) from wrap_u64n (by omega)];refine wC (wCr (R := fun vz wz => Fr [] w102 wz ∧ Own wz (From w102.heap.size wz) 1 vz (uvW ((fieldW fd ver flex (atT l j4)).length)).length (octets (uvW ((fieldW fd ver flex (atT l j4)).length)))) (vs := #[.int .u64 (((fieldW fd ver flex (atT l j4)).length : Nat) : Int)]) hUv.enters (mX1 (eS hz95)) (calls_fresh (hUv.call w102 ((fieldW fd ver flex (atT l j4)).length) (by omega))) ?_);rintro x105 w105 ⟨fr105, ow105⟩;have hF106 : Fr [] w w105 := hF102.tr fr105;have rb107 := fr105.range rb103 .nil;have hy108 := hy104.kept fr105 (by simp) (fun _ h => h);have hx108 := hx104.upTo fr105 (From.mono fr105.size);have hS108 := Nat.le_trans hS104 fr105.size;have hoo108 := ho102.upTo fr105 (Gap.mono fr105.size);rw [wCo];have ob109 := hoo108;have hSl109 : w91.heap.size ≤ w105.heap.size := hS108;refine wp_appO hs_T22 hz_T22 (eS hz95) (eS hz95) ob109 (ow105.octE (by omega)) (by simp only [List.length_append]; omega) ?_;rintro v109 w109 fa109 oa109 sp109 bk109;have ho109 : Own w109 (Gap w54.heap.size w83.heap.size w91.heap.size w109) 1 v109 _ _ := oa109.imp_A (gap_or hSl109 fa109.size);have hF109 : Fr [] w w109 := fr_own hF106 fa109 ob109 (fun b hb => by rcases hb with hb | hb <;> omega);have rb110 := fa109.range rb107 (fun r hr => .inl fun e => by rcases ob109.spare_in r hr with h1 | h1 <;> omega);have hy111 := hy108.kept fa109 (A' := fun b => w83.heap.size ≤ b ∧ b < w91.heap.size) (fun r hr hb => by rcases ob109.spare_in r hr with h1 | h1 <;> omega) (fun _ h => h);have hx111 := hx108.kept fa109 (A' := From w2.heap.size w109) (by intro r hr hb g o cap hv e; exfalso; have h2 := hb9 g (by rw [hv]; rfl); rcases ob109.spare_in r hr with h1 | h1 <;> omega) (From.mono fa109.size);have hS111 := Nat.le_trans hS108 fa109.size;refine wC (wMv (v := .slice q17 ((fieldW fd ver flex (atT l j4)).length) c17) (eK g95_17) ?_);rw [wCo];have ob112 := ho109;have hSl112 : w91.heap.size ≤ w109.heap.size := hS111;refine wp_appO hs_T22 hz_T22 (eS hz95) (eS hz95) ob112 hy111 (by simp only [List.length_append]; omega) ?_;rintro v112 w112 fa112 oa112 sp112 bk112;have ho112 : Own w112 (Gap w54.heap.size w83.heap.size w91.heap.size w112) 1 v112 _ _ := oa112.imp_A (gap_or hSl112 fa112.size);have hF112 : Fr [] w w112 := fr_own hF109 fa112 ob112 (fun b hb => by rcases hb with hb | hb <;> omega);have rb113 := fa112.range rb110 (fun r hr => .inl fun e => by rcases ob112.spare_in r hr with h1 | h1 <;> omega);have hy114 := hy111.kept fa112 (A' := fun b => w83.heap.size ≤ b ∧ b < w91.heap.size) (fun r hr hb => by rcases ob112.spare_in r hr with h1 | h1 <;> omega) (fun _ h => h);have hx114 := hx111.kept fa112 (A' := From w2.heap.size w112) (by intro r hr hb g o cap hv e; exfalso; have h2 := hb9 g (by rw [hv]; rfl); rcases ob112.spare_in r hr with h1 | h1 <;> omega) (From.mono fa112.size);have hS114 := Nat.le_trans hS111 fa112.size;refine wC (wAs (v := v112) (eS hz95) ?_);refine wEk hz95 hd95 fun a115 ha115 hz115 hd115 => ?_;have g115_0 := kP ha115 g95_0;have g115_1 := kP ha115 g95_1;have g115_2 := kP ha115 g95_2;have g115_3 := kP ha115 g95_3;have g115_7 := kP ha115 g95_7;have g115_8 := kP ha115 g95_8;have g115_9 := kP ha115 g95_9;have g115_10 : get a115 10 = v112 := kG ha115 hz95;have g115_11 := kP ha115 g95_11;have g115_14 := kP ha115 g95_14;have g115_21 := kP ha115 g95_21;have g115_22 := kP ha115 g95_22;have g115_23 := kP ha115 g95_23;have g115_51 := kP ha115 g95_51;have g115_52 := kP ha115 g95_52;have g115_55 := kP ha115 g95_55;have g115_56 := kP ha115 g95_56;have g115_57 := kP ha115 g95_57;have hkl1 : (knTo fs (.mk n s nl l u) encs k (j4 + 1)).length = (knTo fs (.mk n s nl l u) encs k j4).length + 1 := by rw [hks]; simp
          refine hK96 a115 w112 ?_;refine wp_reg ?_;refine wC (wMv (v := .int .i64 (((knTo fs (.mk n s nl l u) encs k j4).length : Nat) : Int)) (eK g115_11) ?_);refine wC (wp_add (k1 := .i64) (i := (((knTo fs (.mk n s nl l u) encs k j4).length : Nat) : Int)) (j := 1) (eS hz115) rfl ?_);rw [show (IntKind.i64.wrap (((((knTo fs (.mk n s nl l u) encs k j4).length : Nat) : Int) : Int) + (1 : Int)) : Int) = ((((knTo fs (.mk n s nl l u) encs k (j4 + 1)).length : Nat) : Int) : Int) from by rw [hkl1]; simp only [IntKind.wrap, IntKind.bits, IntKind.signed]; simp; omega];refine wC (wAs (v := .int .i64 (((knTo fs (.mk n s nl l u) encs k (j4 + 1)).length : Nat) : Int)) (eS hz115) ?_);refine wEk hz115 hd115 fun a116 ha116 hz116 hd116 => ?_;have g116_0 := kP ha116 g115_0;have g116_1 := kP ha116 g115_1;have g116_2 := kP ha116 g115_2;have g116_3 := kP ha116 g115_3;have g116_7 := kP ha116 g115_7;have g116_8 := kP ha116 g115_8;have g116_9 := kP ha116 g115_9;have g116_10 := kP ha116 g115_10;have g116_11 : get a116 11 = .int .i64 (((knTo fs (.mk n s nl l u) encs k (j4 + 1)).length : Nat) : Int) := kG ha116 hz115;have g116_14 := kP ha116 g115_14;have g116_21 := kP ha116 g115_21;have g116_22 := kP ha116 g115_22;have g116_23 := kP ha116 g115_23;have g116_51 := kP ha116 g115_51;have g116_52 := kP ha116 g115_52;have g116_55 := kP ha116 g115_55;have g116_56 := kP ha116 g115_56;have g116_57 := kP ha116 g115_57;refine hK73 a116 w112 ?_;refine wp_reg ?_;refine wC (wp_add (k1 := .i64) (i := (j4 : Int)) (j := 1) (eK g116_57) rfl ?_);rw [show (IntKind.i64.wrap (((j4 : Int) : Int) + (1 : Int)) : Int) = (((j4 + 1 : Nat) : Int) : Int) from by simp only [IntKind.wrap, IntKind.bits, IntKind.signed]; simp; omega];refine wC (wMv (v := .int .i64 ((j4 + 1 : Nat) : Int)) (eS hz116) ?_);refine wEk hz116 hd116 fun a117 ha117 hz117 hd117 => ?_;have g117_0 := kP ha117 g116_0;have g117_1 := kP ha117 g116_1;have g117_2 := kP ha117 g116_2;have g117_3 := kP ha117 g116_3;have g117_7 := kP ha117 g116_7;have g117_8 := kP ha117 g116_8;have g117_9 := kP ha117 g116_9;have g117_10 := kP ha117 g116_10;have g117_11 := kP ha117 g116_11;have g117_14 := kP ha117 g116_14;have g117_21 := kP ha117 g116_21;have g117_22 := kP ha117 g116_22;have g117_23 := kP ha117 g116_23;have g117_51 := kP ha117 g116_51;have g117_52 := kP ha117 g116_52;have g117_55 := kP ha117 g116_55;have g117_56 := kP ha117 g116_56;have g117_57 : get a117 57 = .int .i64 ((j4 + 1 : Nat) : Int) := kG ha117 hz116;refine ⟨m4 - 1, by omega, j4 + 1, _, hz117, hd117, g117_0, g117_1, g117_2, g117_3, g117_7, g117_8, g117_9, g117_10, g117_11, g117_14, g117_21, g117_22, g117_23, g117_51, g117_52, g117_55, g117_56, g117_57, by omega, hx114, ?_, rb113, hF112, by omega⟩;rw [hpk]; exact ho112.imp_A (fun b hb => by rcases hb with hb | hb; exact ⟨hb.1, by omega⟩; exact ⟨by omega, hb.2⟩)
        have hkn : knAt fs (.mk n s nl l u) encs k j4 = [] := by simpa [knAt, hfd, hte, T.l] using hc87
        refine wp_skip ?_;refine hK73 a83 w83 ?_;refine wp_reg ?_;refine wC (wp_add (k1 := .i64) (i := (j4 : Int)) (j := 1) (eK g83_57) rfl ?_);rw [show (IntKind.i64.wrap (((j4 : Int) : Int) + (1 : Int)) : Int) = (((j4 + 1 : Nat) : Int) : Int) from by simp only [IntKind.wrap, IntKind.bits, IntKind.signed]; simp; omega];refine wC (wMv (v := .int .i64 ((j4 + 1 : Nat) : Int)) (eS hz83) ?_);refine wEk hz83 hd83 fun a118 ha118 hz118 hd118 => ?_;have g118_0 := kP ha118 g83_0;have g118_1 := kP ha118 g83_1;have g118_2 := kP ha118 g83_2;have g118_3 := kP ha118 g83_3;have g118_7 := kP ha118 g83_7;have g118_8 := kP ha118 g83_8;have g118_9 := kP ha118 g83_9;have g118_10 := kP ha118 g83_10;have g118_11 := kP ha118 g83_11;have g118_14 := kP ha118 g83_14;have g118_21 := kP ha118 g83_21;have g118_22 := kP ha118 g83_22;have g118_23 := kP ha118 g83_23;have g118_51 := kP ha118 g83_51;have g118_52 := kP ha118 g83_52;have g118_55 := kP ha118 g83_55;have g118_56 := kP ha118 g83_56;have g118_57 : get a118 57 = .int .i64 ((j4 + 1 : Nat) : Int) := kG ha118 hz83;rw [hkn, List.append_nil] at hks;rw [← hks] at hp4 g118_11;exact ⟨m4 - 1, by omega, j4 + 1, _, hz118, hd118, g118_0, g118_1, g118_2, g118_3, g118_7, g118_8, g118_9, g118_10, g118_11, g118_14, g118_21, g118_22, g118_23, g118_51, g118_52, g118_55, g118_56, g118_57, by omega, ho4.upTo hL84_w68 (From.mono hL84_w68.size), hp4.upTo hL84_w68 (From.mono hL84_w68.size), rb85, hF84, Nat.le_trans hSl4 hL84_w68.size⟩
      have hkn : knAt fs (.mk n s nl l u) encs k j4 = [] := by simp [knAt, hfd, hte]
      refine wp_drawE0 [spC [] (.pointer (some ⟨w68.heap.size, 4, none⟩)), spC [0] (.int .i64 fd.tag), spC [] (.int .i64 (k : Int)), spC [1, 2] (.bool false), spC [3] (.bool false), spC [4] (undef), spC [4] (undef), spC [4] (undef), spC [4, 6, 7] (undef), spC [4, 5, 8] (undef), spC [4, 9] (undef), spC [4, 10] (.bool false)] 62 [] hmx he17 (by simp [shape]) (by simp [spC, spR]) (by simp; omega) ⟨lCc _ _ _, lCc _ _ _, lCc _ _ _, lCc _ _ _, lCc _ _ _, lCc _ _ _, lCc _ _ _, lCc _ _ _, lCc _ _ _, lCc _ _ _, lCc _ _ _, lCc _ _ _, trivial⟩ ?_ ?_
      · refine oCs ?_ ?_
        · refine op_c fun a' w' hk' hf' hd' K' hK' => ?_;refine wFa (b := w68.heap.size) (i := 0) (hFlT45.fld (by decide)) (by rw [eTm, hk'.get 16 (by omega), g80_16]) ?_;rw [show (0 + 4 : Nat) = 4 from rfl];exact hK'
        refine oCs ?_ ?_
        · refine op_c fun a' w' hk' hf' hd' K' hK' => ?_;refine wL0 (j := 4) (v := .int .i64 fd.tag) hcT3 (by rw [eTm]; exact hd'.c (nd' := []) 0 (by simp) rfl) (hf'.range r78 .nil) rfl ?_;exact hK'
        refine oCs ?_ ?_
        · refine op_c fun a' w' hk' hf' hd' K' hK' => ?_;refine wMv (v := .int .i64 (k : Int)) (by rw [eTm, hk'.get 14 (by omega), g80_14]) ?_;exact hK'
        refine oCs ?_ ?_
        · refine op_c fun a' w' hk' hf' hd' K' hK' => ?_;refine wp_eqlF (k1 := .i64) (i := fd.tag) (j := (k : Int)) hte (by rw [eTm]; exact hd'.c (nd' := [0]) 1 (by simp) rfl) (by rw [eTm]; exact hd'.c (nd' := []) 2 (by simp) rfl) ?_;exact hK'
        refine oCs ?_ ?_
        · refine op_c fun a' w' hk' hf' hd' K' hK' => ?_;refine wMv (v := .bool false) (by rw [eTm]; exact hd'.c (nd' := [1, 2]) 3 (by simp) rfl) ?_;exact hK'
        refine oCs ?_ ?_
        · exact op_gn rfl (by decide) (fun a w h => h.c (nd' := [3]) 4 (by simp) rfl)
        refine oCs ?_ ?_
        · exact op_gn rfl (by decide) (fun a w h => h.c (nd' := [3]) 4 (by simp) rfl)
        refine oCs ?_ ?_
        · exact op_gn rfl (by decide) (fun a w h => h.c (nd' := [3]) 4 (by simp) rfl)
        refine oCs ?_ ?_
        · exact op_gn rfl (by decide) (fun a w h => h.c (nd' := [3]) 4 (by simp) rfl)
        refine oCs ?_ ?_
        · exact op_gn rfl (by decide) (fun a w h => h.c (nd' := [3]) 4 (by simp) rfl)
        refine oCs ?_ ?_
        · exact op_gn rfl (by decide) (fun a w h => h.c (nd' := [3]) 4 (by simp) rfl)
        refine oCs ?_ ?_
        · refine op_c fun a' w' hk' hf' hd' K' hK' => ?_;refine wp_pickNo (v := .bool false) (by rw [eTm]; exact hd'.c (nd' := [3]) 4 (by simp) rfl) rfl ?_;exact hK'
        exact opsOk_nil
      intro a119 w119 k119 f119 hd_119;have g119_0 : get a119 0 = .slice q fs.length cap := by rw [k119.get 0 (by omega), g80_0]
      have g119_1 : get a119 1 = .int .i64 ver := by rw [k119.get 1 (by omega), g80_1]
      have g119_2 : get a119 2 = .bool flex := by rw [k119.get 2 (by omega), g80_2]
      have g119_3 : get a119 3 = .agg ([.int .i64 n, sv, .bool nl, lv, uv] : List Value).toArray := by rw [k119.get 3 (by omega), g80_3]
      have g119_7 : get a119 7 = .pointer (some ⟨w.heap.size, 0, none⟩) := by rw [k119.get 7 (by omega), g80_7]
      have g119_8 : get a119 8 = .slice none 0 0 := by rw [k119.get 8 (by omega), g80_8]
      have g119_9 : get a119 9 = v9 := by rw [k119.get 9 (by omega), g80_9]
      have g119_10 : get a119 10 = u10 := by rw [k119.get 10 (by omega), g80_10]
      have g119_11 : get a119 11 = .int .i64 (((knTo fs (.mk n s nl l u) encs k j4).length : Nat) : Int) := by rw [k119.get 11 (by omega), g80_11]
      have g119_14 : get a119 14 = .int .i64 (k : Int) := by rw [k119.get 14 (by omega), g80_14]
      have g119_21 : get a119 21 = .slice q fs.length cap := by rw [k119.get 21 (by omega), g80_21]
      have g119_22 : get a119 22 = .int .i64 ((fs.length : Nat) : Int) := by rw [k119.get 22 (by omega), g80_22]
      have g119_23 : get a119 23 = .int .i64 (j : Int) := by rw [k119.get 23 (by omega), g80_23]
      have g119_51 : get a119 51 = .int .i64 ((knownW fs : Nat) : Int) := by rw [k119.get 51 (by omega), g80_51]
      have g119_52 : get a119 52 = .int .i64 (k : Int) := by rw [k119.get 52 (by omega), g80_52]
      have g119_55 : get a119 55 = .slice q fs.length cap := by rw [k119.get 55 (by omega), g80_55]
      have g119_56 : get a119 56 = .int .i64 ((fs.length : Nat) : Int) := by rw [k119.get 56 (by omega), g80_56]
      have g119_57 : get a119 57 = .int .i64 (j4 : Int) := by rw [k119.get 57 (by omega), g80_57]
      have hz119 : a119.tmps.size = 132 := k119.size.trans hz80;have hd119 : a119.defers = [] := k119.defers.trans hd80;have g119_73 : get a119 73 = .bool false := hd_119.c (nd' := [4, 10]) 11 (by simp) rfl;have hF120 : Fr [] w w119 := hF78.tr f119;have hL120_w68 : Fr [] w68 w119 := hL78_w68.tr f119;have rb121 := f119.range rb79 .nil;have rb122 := f119.range r78 .nil;refine hK81 a119 w119 ?_;refine wp_cond_split (t := false) (eK g119_73) (fun h => by cases h) (fun _ => ?_);refine wp_skip ?_;refine hK73 a119 w119 ?_;refine wp_reg ?_;refine wC (wp_add (k1 := .i64) (i := (j4 : Int)) (j := 1) (eK g119_57) rfl ?_);rw [show (IntKind.i64.wrap (((j4 : Int) : Int) + (1 : Int)) : Int) = (((j4 + 1 : Nat) : Int) : Int) from by simp only [IntKind.wrap, IntKind.bits, IntKind.signed]; simp; omega];refine wC (wMv (v := .int .i64 ((j4 + 1 : Nat) : Int)) (eS hz119) ?_);refine wEk hz119 hd119 fun a124 ha124 hz124 hd124 => ?_;have g124_0 := kP ha124 g119_0;have g124_1 := kP ha124 g119_1;have g124_2 := kP ha124 g119_2;have g124_3 := kP ha124 g119_3;have g124_7 := kP ha124 g119_7;have g124_8 := kP ha124 g119_8;have g124_9 := kP ha124 g119_9;have g124_10 := kP ha124 g119_10;have g124_11 := kP ha124 g119_11;have g124_14 := kP ha124 g119_14;have g124_21 := kP ha124 g119_21;have g124_22 := kP ha124 g119_22;have g124_23 := kP ha124 g119_23;have g124_51 := kP ha124 g119_51;have g124_52 := kP ha124 g119_52;have g124_55 := kP ha124 g119_55;have g124_56 := kP ha124 g119_56;have g124_57 : get a124 57 = .int .i64 ((j4 + 1 : Nat) : Int) := kG ha124 hz119;rw [hkn, List.append_nil] at hks;rw [← hks] at hp4 g124_11;exact ⟨m4 - 1, by omega, j4 + 1, _, hz124, hd124, g124_0, g124_1, g124_2, g124_3, g124_7, g124_8, g124_9, g124_10, g124_11, g124_14, g124_21, g124_22, g124_23, g124_51, g124_52, g124_55, g124_56, g124_57, by omega, ho4.upTo hL120_w68 (From.mono hL120_w68.size), hp4.upTo hL120_w68 (From.mono hL120_w68.size), rb121, hF120, Nat.le_trans hSl4 hL120_w68.size⟩
    have hj0 : j4 = fs.length := by simp at hc72; omega
    rw [hj0, knTo_all] at hp4 g70_11;refine wp_exit ?_;show K63 a70 w68
    refine hK63 a70 w68 ?_;refine wp_reg ?_;refine wC (wp_add (k1 := .i64) (i := (k : Int)) (j := 1) (eK g70_52) rfl ?_);rw [show (IntKind.i64.wrap (((k : Int) : Int) + (1 : Int)) : Int) = (((k + 1 : Nat) : Int) : Int) from by simp only [IntKind.wrap, IntKind.bits, IntKind.signed]; simp; omega];refine wC (wMv (v := .int .i64 ((k + 1 : Nat) : Int)) (eS hz70) ?_);refine wEk hz70 hd70 fun a125 ha125 hz125 hd125 => ?_;have g125_0 := kP ha125 g70_0;have g125_1 := kP ha125 g70_1;have g125_2 := kP ha125 g70_2;have g125_3 := kP ha125 g70_3;have g125_7 := kP ha125 g70_7;have g125_8 := kP ha125 g70_8;have g125_9 := kP ha125 g70_9;have g125_10 := kP ha125 g70_10;have g125_11 := kP ha125 g70_11;have g125_21 := kP ha125 g70_21;have g125_22 := kP ha125 g70_22;have g125_23 := kP ha125 g70_23;have g125_51 := kP ha125 g70_51;have g125_52 : get a125 52 = .int .i64 ((k + 1 : Nat) : Int) := kG ha125 hz70;exact ⟨m2 - 1, by omega, k + 1, _, hz125, hd125, g125_0, g125_1, g125_2, g125_3, g125_7, g125_8, g125_9, g125_10, g125_11, g125_21, g125_22, g125_23, g125_51, g125_52, by omega, ho4.upTo (Fr.refl [] w68) (From.mono (Fr.refl [] w68).size), hp4.upTo (Fr.refl [] w68) (From.mono (Fr.refl [] w68).size), hbl4, hfl4, Nat.le_trans hSl4 (Fr.refl [] w68).size⟩
  have hk0 : k = knownW fs := by simp at hc62; omega
  rw [hk0, ← knowns_eq] at ho10 g60_11;refine wp_exit ?_;show K52 a60 w58
  refine hK52 a60 w58 (tUp ?_);refine tId (wp_seq_k fun K126 hK126 => ?_);refine wS fun K127 hK127 => ?_;refine wC (wMv (v := .slice q fs.length cap) (eK g60_0) ?_);refine wC (wFa (b := w.heap.size) (i := 0) (hFlT26.fld (by decide)) (eK g60_7) ?_);rw [show (0 + 4 : Nat) = 4 from rfl];refine wC (wL0 (j := 4) (v := uv) hcT24 (eS hz60) hbl3 rfl ?_);refine wC (wCr (R := fun x wz => Fr [] w58 wz ∧ TagsR wz (fun b => B b ∨ From w58.heap.size wz b) x (unknownW fs u)) (vs := #[.slice q fs.length cap, uv]) hUn.enters (mX2 (eS hz60) (eS hz60)) ((hUn.call w58 A B _ fs uv u (hfs.kept hfl2 (by simp) (fun _ h => h)) htg (hu.kept hfl2 (by simp) (fun _ h => h)) (fun b hb => Nat.lt_of_lt_of_le (hB b hb) hfl2.size)).mono (by rintro e wz ⟨x, rfl, h1, h2⟩; exact ⟨x, rfl, h1, h2⟩)) ?_);rintro x128 w128 ⟨fr128, hus128⟩;have hus := hus128.kept (A' := fun b => b < w2.heap.size ∨ (w58.heap.size ≤ b ∧ b < w128.heap.size)) (Fr.refl [] _) (by simp) (by rintro b (hb | hb); exact .inl (by have := hB b hb; omega); exact .inr hb);obtain ⟨qu, cu, rfl, -, hub, -⟩ := hus.sl2;have hF129 : Fr [] w w128 := hfl2.tr fr128;have hL129_w58 : Fr [] w58 w128 := (Fr.refl [] w58).tr fr128;have rb130 := fr128.range hbl3 .nil;have hm23 : w58.heap.size ≤ w128.heap.size := fr128.size;refine wC (wp_lenS (n := (unknownW fs u).length) hsT24 (eS hz60) ?_);refine wC (wMv (v := .int .i64 0) rfl ?_);refine wEk hz60 hd60 fun a131 ha131 hz131 hd131 => ?_;have g131_9 := kP ha131 g60_9;have g131_10 := kP ha131 g60_10;have g131_11 := kP ha131 g60_11;have g131_100 : get a131 100 = .slice qu ((unknownW fs u).length) cu := kG ha131 hz60;have g131_101 : get a131 101 = .int .i64 (((unknownW fs u).length : Nat) : Int) := kG ha131 hz60;have g131_102 : get a131 102 = .int .i64 0 := kG ha131 hz60;have hm22 : w54.heap.size ≤ w58.heap.size := Nat.le_trans hSl2 (Fr.refl [] w58).size;have hx6 := ho2.upTo hL129_w58 (From.mono hL129_w58.size);have hp6 : Own w128 (Gap w54.heap.size w58.heap.size w128.heap.size w128) 1 v10 _ _ := (ho10.upTo (Fr.refl [] w58) (From.mono (Fr.refl [] w58).size)).upTo fr128 (fun b hb => .inl hb);refine hK127 a131 w128 ?_;have hul : (unksW fs (.mk n s nl l u)).length = (unknownW fs u).length := by simp [unksW, T.u]
  have hp0 : Own w128 (Gap w54.heap.size w58.heap.size w128.heap.size w128) 1 v10 ((knownsW fs (.mk n s nl l u) encs).flatMap pairW ++ ((unksW fs (.mk n s nl l u)).take 0).flatMap pairW).length (octets ((knownsW fs (.mk n s nl l u) encs).flatMap pairW ++ ((unksW fs (.mk n s nl l u)).take 0).flatMap pairW)) := by rw [show (knownsW fs (.mk n s nl l u) encs).flatMap pairW ++ ((unksW fs (.mk n s nl l u)).take 0).flatMap pairW = (knownsW fs (.mk n s nl l u) encs).flatMap pairW from by simp]; exact hp6
  refine wp_block (wp_loop_ghost (fun (m3 : Nat) a' w' => ∃ (j : Nat) (z10 : Value), a'.tmps.size = 132 ∧ a'.defers = [] ∧ get a' 9 = v9 ∧ get a' 10 = z10 ∧ get a' 11 = .int .i64 (((knownsW fs (.mk n s nl l u) encs).length + j : Nat) : Int) ∧ get a' 100 = .slice qu ((unknownW fs u).length) cu ∧ get a' 101 = .int .i64 (((unknownW fs u).length : Nat) : Int) ∧ get a' 102 = .int .i64 (j : Int) ∧ j + m3 = (unknownW fs u).length ∧ Own w' (From w2.heap.size w') 1 v9 ((bodyW fs ver encs fs.length)).length (octets (bodyW fs ver encs fs.length)) ∧ Own w' (Gap w54.heap.size w58.heap.size w128.heap.size w') 1 z10 (((knownsW fs (.mk n s nl l u) encs).flatMap pairW ++ ((unksW fs (.mk n s nl l u)).take j).flatMap pairW)).length (octets ((knownsW fs (.mk n s nl l u) encs).flatMap pairW ++ ((unksW fs (.mk n s nl l u)).take j).flatMap pairW)) ∧ TagsR w' (fun b => b < w2.heap.size ∨ (w58.heap.size ≤ b ∧ b < w128.heap.size)) (.slice qu (unknownW fs u).length cu) (unknownW fs u) ∧ Fr [] w w' ∧ w128.heap.size ≤ w'.heap.size) ((unknownW fs u).length) ?_ ?_)
  · exact ⟨0, v10, hz131, hd131, g131_9, g131_10, g131_11, g131_100, g131_101, g131_102, by omega, hx6, hp0, hus, hF129, Nat.le_refl _⟩
  rintro m3 a132 w132 ⟨j, z10, hz132, hd132, g132_9, g132_10, g132_11, g132_100, g132_101, g132_102, hjm6, ho9, hz10o, hus6, hfl6, hSl6⟩;refine wS fun K133 hK133 => ?_;refine wC (wp_lss (k1 := .i64) (i := (j : Int)) (j := (((unknownW fs u).length : Nat) : Int)) (eK g132_102) (eK g132_101) ?_);refine wEk hz132 hd132 fun a134 ha134 hz134 hd134 => ?_;have g134_9 := kP ha134 g132_9;have g134_10 := kP ha134 g132_10;have g134_11 := kP ha134 g132_11;have g134_100 := kP ha134 g132_100;have g134_101 := kP ha134 g132_101;have g134_102 := kP ha134 g132_102;have g134_103 : get a134 103 = .bool (decide (((j : Int) : Int) < ((((unknownW fs u).length : Nat) : Int) : Int))) := kG ha134 hz132;refine hK133 a134 w132 ?_;refine wp_seq_k fun K135 hK135 => ?_;refine wp_cond_split (t := decide (((j : Int) : Int) < ((((unknownW fs u).length : Nat) : Int) : Int))) (eK g134_103) (fun hc136 => ?_) (fun hc136 => ?_)
  · have hjl : j < (unknownW fs u).length := by simpa using hc136
    obtain ⟨⟨kk, x⟩, hp⟩ : ∃ p, (unknownW fs u)[j]? = some p := ⟨(unknownW fs u)[j], by simp [hjl]⟩;obtain ⟨qu', cu', hqe, -, -, hku⟩ := hus6.sl2;obtain ⟨bl, ol, xv, hq, hbl7, hkk, hrl, hox⟩ := hku j kk x hp
    cases hqe
    have htk := take_pair (t := (.mk n s nl l u)) (j := j) (show (unksW fs (.mk n s nl l u))[j]? = some (kk, wholeS x) from by simp only [unksW, List.getElem?_map, T.u, hp]; rfl);have hpl := take_pair_le (fs := fs) (t := (.mk n s nl l u)) (j + 1);rw [htk, List.length_append] at hpl;have hpw : (pairW (kk, wholeS x)).length = (uvW kk).length + ((uvW (wholeS x).length).length + (wholeS x).length) := by simp [pairW]
    have hpkl : ((knownsW fs (.mk n s nl l u) encs).flatMap pairW ++ ((unksW fs (.mk n s nl l u)).take j).flatMap pairW).length = ((knownsW fs (.mk n s nl l u) encs).flatMap pairW).length + (((unksW fs (.mk n s nl l u)).take j).flatMap pairW).length := by rw [List.length_append]
    refine wp_skip ?_;refine hK135 a134 w132 ?_;refine wp_seq_k fun K137 hK137 => ?_;refine wp_blockT ?_;refine wS fun K138 hK138 => ?_;refine wC (wp_ixN (b := bl) (o := ol) (i := j) hs_T24 (by rw [eTm, g134_100, hq]) (eK g134_102) hjl ?_);refine wC (wp_loadFlat (cs := [.int .u32 ((kk : Nat) : Int), xv]) (b := bl) (o := ol + j * 2) hFlT61 rfl (eS hz134) ((Fr.refl [] w132).range hrl .nil) ?_);refine wC (wp_allocL hFlT61 ?_);rintro w139 f139 sz139 r139 th139;have hF140 : Fr [] w w139 := hfl6.tr f139;have hL140_w132 : Fr [] w132 w139 := (Fr.refl [] w132).tr f139;refine wC (wp_storeL (cs := [.int .u32 ((kk : Nat) : Int), xv]) (o := 0) hFlT61 rfl (eS hz134) (eS hz134) (by intro u hu; simp at hu; rcases hu with rfl | rfl <;> first | rfl | exact hox.one) th139 ?_);rintro w141 f141 sz141 r141 th141;have hF141 : Fr [] w w141 := hF140.trans f141 (fun r hr => .inl (by simp at hr; subst hr; have := hfl6.size; simp only; omega));have hL141_w132 : Fr [] w132 w141 := hL140_w132.trans f141 (fun r hr => .inl (by simp at hr; subst hr; have := (Fr.refl [] w132).size; simp only; omega));refine wEk hz134 hd134 fun a142 ha142 hz142 hd142 => ?_;have g142_9 := kP ha142 g134_9;have g142_10 := kP ha142 g134_10;have g142_11 := kP ha142 g134_11;have g142_19 : get a142 19 = .pointer (some ⟨w132.heap.size, 0, none⟩) := kG ha142 hz134;have g142_100 := kP ha142 g134_100;have g142_101 := kP ha142 g134_101;have g142_102 := kP ha142 g134_102;refine hK138 a142 w141 ?_;refine wS fun K143 hK143 => ?_;refine wC (wFa (b := w132.heap.size) (i := 0) (hFlT61.fld (by decide)) (eK g142_19) ?_);rw [show (0 + 1 : Nat) = 1 from rfl];refine wC (wL0 (j := 1) (v := xv) hcT22 (eS hz142) r141 rfl ?_);refine wC (wCr (R := fun y wz => OctE wz (fun b => b < w2.heap.size ∨ (w58.heap.size ≤ b ∧ b < w128.heap.size)) y (wholeS x) ∧ w141 = wz) (vs := #[xv]) hWh.enters (mX1 (eS hz142)) ((hWh.call w141 _ xv x (hox.kept hL141_w132 (by simp) (fun _ h => h))).mono (by rintro e wz ⟨y, rfl, h1, rfl⟩; exact ⟨y, rfl, h1, rfl⟩)) ?_);rintro x144 _ ⟨hy, rfl⟩;obtain ⟨q144, c144, rfl, -, -, -⟩ := hy.slice2;refine wC (wAs (v := .slice q144 ((wholeS x).length) c144) (eS hz142) ?_);refine wEk hz142 hd142 fun a145 ha145 hz145 hd145 => ?_;have g145_9 := kP ha145 g142_9;have g145_10 := kP ha145 g142_10;have g145_11 := kP ha145 g142_11;have g145_19 := kP ha145 g142_19;have g145_20 : get a145 20 = .slice q144 ((wholeS x).length) c144 := kG ha145 hz142;have g145_100 := kP ha145 g142_100;have g145_101 := kP ha145 g142_101;have g145_102 := kP ha145 g142_102;refine hK143 a145 w141 ?_;refine wp_seq_k fun K146 hK146 => ?_;have hoA := hz10o.upTo hL141_w132 (Gap.mono hL141_w132.size);have hSA := Nat.le_trans hSl6 hL141_w132.size;have hx9A := ho9.upTo hL141_w132 (From.mono hL141_w132.size);have hyA := hy.kept (Fr.refl [] w141) (by simp) (fun _ h => h);have husA := hus6.kept hL141_w132 (by simp) (fun _ h => h);refine wp_reg ?_;refine wC (wMv (v := z10) (eK g145_10) ?_);refine wC (wFa (b := w132.heap.size) (i := 0) (hFlT61.fld (by decide)) (eK g145_19) ?_);rw [show (0 + 0 : Nat) = 0 from rfl];refine wC (wL0 (j := 0) (v := .int .u32 ((kk : Nat) : Int)) hcT59 (eS hz145) r141 rfl ?_);refine wC (wCv (k1 := .u32) (i := ((kk : Nat) : Int)) hT59_u32 hT76_u64 (eS hz145) ?_);rw [show (IntKind.u64.wrap (((kk : Nat) : Int) : Int)) = (((kk : Nat) : Int) : Int) from by simp only [IntKind.wrap, IntKind.bits, IntKind.signed]; simp; omega];refine wC (wCr (R := fun vz wz => Fr [] w141 wz ∧ Own wz (From w141.heap.size wz) 1 vz (uvW kk).length (octets (uvW kk))) (vs := #[.int .u64 ((kk : Nat) : Int)]) hUv.enters (mX1 (eS hz145)) (calls_fresh (hUv.call w141 kk (by omega))) ?_);rintro x147 w147 ⟨fr147, ow147⟩;have hF148 : Fr [] w w147 := hF141.tr fr147;have rb149 := fr147.range r141 .nil;have hy150 := hyA.kept fr147 (by simp) (fun _ h => h);have hu150 := husA.kept fr147 (by simp) (fun _ h => h);have hx150 := hx9A.upTo fr147 (From.mono fr147.size);have hS150 := Nat.le_trans hSA fr147.size;have hoo150 := hoA.upTo fr147 (Gap.mono fr147.size);rw [wCo];have ob151 := hoo150;have hSl151 : w128.heap.size ≤ w147.heap.size := hS150;refine wp_appO hs_T22 hz_T22 (eS hz145) (eS hz145) ob151 (ow147.octE (by omega)) (by omega) ?_;rintro v151 w151 fa151 oa151 sp151 bk151;have ho151 : Own w151 (Gap w54.heap.size w58.heap.size w128.heap.size w151) 1 v151 _ _ := oa151.imp_A (gap_or hSl151 fa151.size);have hF151 : Fr [] w w151 := fr_own hF148 fa151 ob151 (fun b hb => by rcases hb with hb | hb <;> omega);have hy152 := hy150.kept fa151 (A' := fun b => b < w2.heap.size ∨ (w58.heap.size ≤ b ∧ b < w128.heap.size)) (fun r hr hb => by rcases ob151.spare_in r hr with h1 | h1 <;> omega) (fun _ h => h);have hu152 := hu150.kept fa151 (A' := fun b => b < w2.heap.size ∨ (w58.heap.size ≤ b ∧ b < w128.heap.size)) (fun r hr hb => by rcases ob151.spare_in r hr with h1 | h1 <;> omega) (fun _ h => h);have hx152 := hx150.kept fa151 (A' := From w2.heap.size w151) (by intro r hr hb g o cap hv e; exfalso; have h2 := hb9 g (by rw [hv]; rfl); rcases ob151.spare_in r hr with h1 | h1 <;> omega) (From.mono fa151.size);have hS152 := Nat.le_trans hS150 fa151.size;refine wC (wMv (v := .slice q144 ((wholeS x).length) c144) (eK g145_20) ?_);refine wC (wp_lenS (n := (wholeS x).length) hsT22 (eS hz145) ?_);refine wC (wCv (k1 := .i64) (i := (((wholeS x).length : Nat) : Int)) hT3_i64 hT76_u64 (eS hz145) ?_);rw [show (IntKind.u64.wrap ((((wholeS x).length : Nat) : Int) : Int)) = ((((wholeS x).length : Nat) : Int) : Int) from wrap_u64n (by simp [wholeS]; omega)];refine wC (wCr (R := fun vz wz => Fr [] w151 wz ∧ Own wz (From w151.heap.size wz) 1 vz (uvW ((wholeS x).length)).length (octets (uvW ((wholeS x).length)))) (vs := #[.int .u64 (((wholeS x).length : Nat) : Int)]) hUv.enters (mX1 (eS hz145)) (calls_fresh (hUv.call w151 ((wholeS x).length) (by simp [wholeS]; omega))) ?_);rintro x153 w153 ⟨fr153, ow153⟩;have hF154 : Fr [] w w153 := hF151.tr fr153;have hy155 := hy152.kept fr153 (by simp) (fun _ h => h);have hu155 := hu152.kept fr153 (by simp) (fun _ h => h);have hx155 := hx152.upTo fr153 (From.mono fr153.size);have hS155 := Nat.le_trans hS152 fr153.size;have hoo155 := ho151.upTo fr153 (Gap.mono fr153.size);rw [wCo];have ob156 := hoo155;have hSl156 : w128.heap.size ≤ w153.heap.size := hS155;refine wp_appO hs_T22 hz_T22 (eS hz145) (eS hz145) ob156 (ow153.octE (by omega)) (by rw [List.length_append]; omega) ?_;rintro v156 w156 fa156 oa156 sp156 bk156;have ho156 : Own w156 (Gap w54.heap.size w58.heap.size w128.heap.size w156) 1 v156 _ _ := oa156.imp_A (gap_or hSl156 fa156.size);have hF156 : Fr [] w w156 := fr_own hF154 fa156 ob156 (fun b hb => by rcases hb with hb | hb <;> omega);have hy157 := hy155.kept fa156 (A' := fun b => b < w2.heap.size ∨ (w58.heap.size ≤ b ∧ b < w128.heap.size)) (fun r hr hb => by rcases ob156.spare_in r hr with h1 | h1 <;> omega) (fun _ h => h);have hu157 := hu155.kept fa156 (A' := fun b => b < w2.heap.size ∨ (w58.heap.size ≤ b ∧ b < w128.heap.size)) (fun r hr hb => by rcases ob156.spare_in r hr with h1 | h1 <;> omega) (fun _ h => h);have hx157 := hx155.kept fa156 (A' := From w2.heap.size w156) (by intro r hr hb g o cap hv e; exfalso; have h2 := hb9 g (by rw [hv]; rfl); rcases ob156.spare_in r hr with h1 | h1 <;> omega) (From.mono fa156.size);have hS157 := Nat.le_trans hS155 fa156.size;refine wC (wMv (v := .slice q144 ((wholeS x).length) c144) (eK g145_20) ?_);rw [wCo];have ob158 := ho156;have hSl158 : w128.heap.size ≤ w156.heap.size := hS157;refine wp_appO hs_T22 hz_T22 (eS hz145) (eS hz145) ob158 hy157 (by rw [List.length_append, List.length_append]; omega) ?_;rintro v158 w158 fa158 oa158 sp158 bk158;have ho158 : Own w158 (Gap w54.heap.size w58.heap.size w128.heap.size w158) 1 v158 _ _ := oa158.imp_A (gap_or hSl158 fa158.size);have hF158 : Fr [] w w158 := fr_own hF156 fa158 ob158 (fun b hb => by rcases hb with hb | hb <;> omega);have hy159 := hy157.kept fa158 (A' := fun b => b < w2.heap.size ∨ (w58.heap.size ≤ b ∧ b < w128.heap.size)) (fun r hr hb => by rcases ob158.spare_in r hr with h1 | h1 <;> omega) (fun _ h => h);have hu159 := hu157.kept fa158 (A' := fun b => b < w2.heap.size ∨ (w58.heap.size ≤ b ∧ b < w128.heap.size)) (fun r hr hb => by rcases ob158.spare_in r hr with h1 | h1 <;> omega) (fun _ h => h);have hx159 := hx157.kept fa158 (A' := From w2.heap.size w158) (by intro r hr hb g o cap hv e; exfalso; have h2 := hb9 g (by rw [hv]; rfl); rcases ob158.spare_in r hr with h1 | h1 <;> omega) (From.mono fa158.size);have hS159 := Nat.le_trans hS157 fa158.size;refine wC (wAs (v := v158) (eS hz145) ?_);refine wEk hz145 hd145 fun a160 ha160 hz160 hd160 => ?_;have g160_9 := kP ha160 g145_9;have g160_10 : get a160 10 = v158 := kG ha160 hz145;have g160_11 := kP ha160 g145_11;have g160_100 := kP ha160 g145_100;have g160_101 := kP ha160 g145_101;have g160_102 := kP ha160 g145_102;refine hK146 a160 w158 ?_;refine wp_reg ?_;refine wC (wMv (v := .int .i64 (((knownsW fs (.mk n s nl l u) encs).length + j : Nat) : Int)) (eK g160_11) ?_);refine wC (wp_add (k1 := .i64) (i := (((knownsW fs (.mk n s nl l u) encs).length + j : Nat) : Int)) (j := 1) (eS hz160) rfl ?_);rw [show (IntKind.i64.wrap (((((knownsW fs (.mk n s nl l u) encs).length + j : Nat) : Int) : Int) + (1 : Int)) : Int) = ((((knownsW fs (.mk n s nl l u) encs).length + (j + 1) : Nat) : Int) : Int) from by simp only [IntKind.wrap, IntKind.bits, IntKind.signed]; simp; omega];refine wC (wAs (v := .int .i64 (((knownsW fs (.mk n s nl l u) encs).length + (j + 1) : Nat) : Int)) (eS hz160) ?_);refine wEk hz160 hd160 fun a161 ha161 hz161 hd161 => ?_;have g161_9 := kP ha161 g160_9;have g161_10 := kP ha161 g160_10;have g161_11 : get a161 11 = .int .i64 (((knownsW fs (.mk n s nl l u) encs).length + (j + 1) : Nat) : Int) := kG ha161 hz160;have g161_100 := kP ha161 g160_100;have g161_101 := kP ha161 g160_101;have g161_102 := kP ha161 g160_102;refine hK137 a161 w158 ?_;refine wp_reg ?_;refine wC (wp_add (k1 := .i64) (i := (j : Int)) (j := 1) (eK g161_102) rfl ?_);rw [show (IntKind.i64.wrap (((j : Int) : Int) + (1 : Int)) : Int) = (((j + 1 : Nat) : Int) : Int) from by simp only [IntKind.wrap, IntKind.bits, IntKind.signed]; simp; omega];refine wC (wMv (v := .int .i64 ((j + 1 : Nat) : Int)) (eS hz161) ?_);refine wEk hz161 hd161 fun a162 ha162 hz162 hd162 => ?_;have g162_9 := kP ha162 g161_9;have g162_10 := kP ha162 g161_10;have g162_11 := kP ha162 g161_11;have g162_100 := kP ha162 g161_100;have g162_101 := kP ha162 g161_101;have g162_102 : get a162 102 = .int .i64 ((j + 1 : Nat) : Int) := kG ha162 hz161;refine ⟨m3 - 1, by omega, j + 1, _, hz162, hd162, g162_9, g162_10, g162_11, g162_100, g162_101, g162_102, by omega, hx159, ?_, hu159, hF158, hS159⟩;rw [htk, show (knownsW fs (.mk n s nl l u) encs).flatMap pairW ++ (((unksW fs (.mk n s nl l u)).take j).flatMap pairW ++ pairW (kk, wholeS x)) = ((((knownsW fs (.mk n s nl l u) encs).flatMap pairW ++ ((unksW fs (.mk n s nl l u)).take j).flatMap pairW) ++ uvW kk) ++ uvW (wholeS x).length) ++ wholeS x from by simp [pairW]]; exact ho158
  have hj0 : j = (unknownW fs u).length := by simp at hc136; omega
  rw [hj0, ← hul, List.take_length] at hz10o;rw [hj0, ← hul] at g134_11;refine wp_exit ?_;show K126 a134 w132
  refine hK126 a134 w132 (tUp ?_);refine tId (wp_seq_k fun K163 hK163 => ?_);have hx9 := ho9.upTo (Fr.refl [] w132) (From.mono (Fr.refl [] w132).size);have hx10 := hz10o.upTo (Fr.refl [] w132) (Gap.mono (Fr.refl [] w132).size);have hSx := Nat.le_trans hSl6 (Fr.refl [] w132).size;have hunl : (unknownW fs u).length ≤ 4294967296 := hub;have hU := hul;have hppl : ((knownsW fs (.mk n s nl l u) encs).flatMap pairW ++ (unksW fs (.mk n s nl l u)).flatMap pairW).length = ((knownsW fs (.mk n s nl l u) encs).flatMap pairW).length + ((unksW fs (.mk n s nl l u)).flatMap pairW).length := by rw [List.length_append]
  refine wp_reg ?_;refine wC (wMv (v := v9) (eK g134_9) ?_);refine wC (wMv (v := .int .i64 (((knownsW fs (.mk n s nl l u) encs).length + (unksW fs (.mk n s nl l u)).length : Nat) : Int)) (eK g134_11) ?_);refine wC (wCv (k1 := .i64) (i := (((knownsW fs (.mk n s nl l u) encs).length + (unksW fs (.mk n s nl l u)).length : Nat) : Int)) hT3_i64 hT76_u64 (eS hz134) ?_);rw [show (IntKind.u64.wrap ((((knownsW fs (.mk n s nl l u) encs).length + (unksW fs (.mk n s nl l u)).length : Nat) : Int) : Int)) = ((((knownsW fs (.mk n s nl l u) encs).length + (unksW fs (.mk n s nl l u)).length : Nat) : Int) : Int) from wrap_u64n (by omega)];refine wC (wCr (R := fun vz wz => Fr [] w132 wz ∧ Own wz (From w132.heap.size wz) 1 vz (uvW ((knownsW fs (.mk n s nl l u) encs).length + (unksW fs (.mk n s nl l u)).length)).length (octets (uvW ((knownsW fs (.mk n s nl l u) encs).length + (unksW fs (.mk n s nl l u)).length)))) (vs := #[.int .u64 (((knownsW fs (.mk n s nl l u) encs).length + (unksW fs (.mk n s nl l u)).length : Nat) : Int)]) hUv.enters (mX1 (eS hz134)) (calls_fresh (hUv.call w132 ((knownsW fs (.mk n s nl l u) encs).length + (unksW fs (.mk n s nl l u)).length) (by omega))) ?_);rintro x164 w164 ⟨fr164, ow164⟩;have hF165 : Fr [] w w164 := hfl6.tr fr164;have hy9 := hx9.upTo fr164 (From.mono fr164.size);have hy10 := hx10.upTo fr164 (Gap.mono fr164.size);have hSy := Nat.le_trans hSx fr164.size;rw [wCo];have ob166 := hy9;have hSl166 : w2.heap.size ≤ w164.heap.size := (by omega);refine wp_appO hs_T22 hz_T22 (eS hz134) (eS hz134) ob166 (ow164.octE (by omega)) (by omega) ?_;rintro v166 w166 fa166 oa166 sp166 bk166;have ho166 := oa166.imp_A (new_or hSl166 fa166.size);have hF166 : Fr [] w w166 := fr_own hF165 fa166 (ob166.from (s0 := w.heap.size) (by omega)) (fun b hb => hb.1);have hz10 : Own w166 (Gap w54.heap.size w58.heap.size w128.heap.size w166) 1 z10 _ _ := hy10.kept fa166 (by intro r hr hb g o cap hv e; exfalso; have h1 := hb9 r.b (spare_blk' r hr); rcases hb with h2 | h2 <;> omega) (Gap.mono fa166.size);have ha1 := ho166;have hSz : w2.heap.size ≤ w166.heap.size := by have := fa166.size; omega
  refine wC (wMv (v := z10) (eK g134_10) ?_);rw [wCo];have ob167 := ha1;have hSl167 : w2.heap.size ≤ w166.heap.size := hSz;refine wp_appO hs_T22 hz_T22 (eS hz134) (eS hz134) ob167 (hz10.octE (by omega)) (by simp only [List.length_append]; simp only [List.length_append] at hppl; omega) ?_;rintro v167 w167 fa167 oa167 sp167 bk167;have ho167 := oa167.imp_A (new_or hSl167 fa167.size);have hF167 : Fr [] w w167 := fr_own hF166 fa167 (ob167.from (s0 := w.heap.size) (by omega)) (fun b hb => hb.1);refine wC (wAs (v := v167) (eS hz134) ?_);refine wEk hz134 hd134 fun a168 ha168 hz168 hd168 => ?_;have g168_8 : get a168 8 = v167 := kG ha168 hz134;refine hK163 a168 w167 (tUp ?_);refine wp_ret ?_;rw [hPW, hfx, if_pos rfl, ← List.append_assoc];exact ⟨hd168, _, rIs hres g168_8, _, rfl, hF167, ho167.from (by omega)⟩
end Go.Kq

namespace Go.Kq
open Go Go.Proofs Go.ChangeShapes Go.WideShapes Go.RowKit
section
variable {H : Type} {enc : TypeId × Value → H} {P : Program}
theorem octs_of_ints {w : World} {b o : Nat} : ∀ (zs : List Int), (∀ i, i < zs.length → w.cell? ⟨b, o + i, none⟩ = some (.int .u8 (zs.getD i 0))) → (∀ n ∈ zs, (Lit.int .u8 n).wf = true) →
    w.rangeAt b o (octets (zs.map fun z => UInt8.ofNat z.toNat)) := by
  intro zs h hw j v hv;simp only [octets, List.map_map, List.getElem?_map, Option.map_eq_some_iff] at hv;obtain ⟨z, hz, rfl⟩ := hv;have hj : j < zs.length := (List.getElem?_eq_some_iff.1 hz).1;rw [h j hj];have hzz : zs.getD j 0 = z := by rw [List.getD, hz]; rfl
  have hwz := hw z (List.mem_of_getElem? hz);simp only [Lit.wf] at hwz;have hb : 0 ≤ z ∧ z ≤ 255 := by simpa [IntKind.min, IntKind.max, IntKind.signed, IntKind.bits] using hwz
  rw [hzz];simp only [Function.comp_apply, UInt8.toNat_ofNat', Option.some.injEq, Value.int.injEq, true_and];omega
theorem err_of_laid {W : World} {name nm : String} {d : DataW Unit} {g : Nat} {ti : TypeId} {ms : Array (String × TypeId)} (hg : P.globalNamed name = some g) (hty : (P.globals[g]?).map (·.type) = some ti) (hi : P.underlying ti = some (.interface ms))
    (h : laidMet P [(name, .iface nm d)] W) : ∃ u v, W.cell? ⟨g, 0, none⟩ = some (.iface u v) := by
  obtain ⟨ps, ⟨g', t', cs, fuel, p, q, hg', ht', hvar, hd, _, _⟩, _⟩ := h;obtain rfl := Option.some.inj (hg.symm.trans hg');obtain rfl := Option.some.inj (hty.symm.trans ht');obtain ⟨l⟩ := cs;obtain ⟨_, u, v, hl, _⟩ := iface_of_trod hi hd;have : l = [.iface u v] := by simpa using hl
  subst this;exact ⟨u, v, World.var?_cell hg hvar 0⟩
theorem trodAll_stays (hl : laidOutB P = true) {W W' : World} {base : Nat} {sp' : Nat → Bool} :
    ∀ {ts : List TypeId} {vs : List Value} {ds : List (DataW H)} {ps : List MemPlace}, (∀ t ∈ ts, P.readableRec t = true ∧ t < P.types.size) → DataW.TrodAll enc P W base (fun _ => true) true ts vs ds ps →
      (∀ p ∈ ps, W.sameAt W' p) → (∀ p ∈ ps, sp' p.block = true) → DataW.TrodAll enc P W' base sp' true ts vs ds ps
  | [], _, _, _, _, h, _, _ => by
    obtain ⟨rfl, rfl, rfl⟩ := trodAll_nil h;exact h
  | t :: ts, _, _, _, ht, h, hs, hp => by
    obtain ⟨v, vs1, d, ds1, a, b, rfl, rfl, rfl, h1, h2⟩ := trodAll_cons h;exact ⟨a, b, WideElems.Trod_stays hl (ht t (by simp)).1 (ht t (by simp)).2 h1 (fun p hp' => hs p (List.mem_append_left _ hp')) (fun p hp' => hp p (List.mem_append_left _ hp')),
      trodAll_stays hl (fun t ht' => ht t (by simp [ht'])) h2 (fun p hp' => hs p (List.mem_append_right _ hp')) (fun p hp' => hp p (List.mem_append_right _ hp')), rfl⟩
theorem post_true (hl : laidOutB P = true) {f : Func} {s : ChangeSpec} {apart fresh handsOn again : Bool} {W W' : World} {args : Array Value} {ds gs : List (DataW H)} {before p : List MemPlace} {rt : TypeId}
    (hW : DataW.Whole enc P f.params.toList s.vars apart W args.toList ds gs before) (hv : s.vars = []) (hA : DataW.TrodAll enc P W 0 (fun _ => true) true f.params.toList args.toList ds p) (hbp : before = p) (hgs : gs = [])
    (hs : s.fn H (ds ++ gs) = { results := [.lit (.bool true)], args := ds }) (hrt : f.resultTypes = #[rt]) (hb : P.underlying rt = some .bool)
    (hrd : ∀ t ∈ f.params.toList, P.readableRec t = true ∧ t < P.types.size) (hF : Fr [] W W') :
    s.post enc P f apart fresh handsOn again W args (.bool true) W' := by
  subst hbp;have hbl := hF.below;have hlt : ∀ x ∈ before, x.block < W.heap.size := fun x hx => hW.lt x hx;have hold : ∀ x ∈ before, (fun b => decide (b < W.heap.size)) x.block = true := fun x hx => by simpa using hlt x hx
  have hres : ∀ (b : Nat) (sp : Nat → Bool) (hd : Bool), DataW.TrodAll enc P W' b sp hd f.resultTypes.toList ((Value.bool true).resultList f.resultTypes.size) (s.fn H (ds ++ gs)).results [] := by
    intro b sp hd;rw [hs, hrt];exact trodAll_cons_mk (shut_bool hb true) trodAll_mk0
  have hargs : ∀ sp : Nat → Bool, (∀ x ∈ before, sp x.block = true) → DataW.TrodAll enc P W' 0 sp true f.params.toList args.toList (s.fn H (ds ++ gs)).args before := by
    intro sp hsp;rw [hs];exact trodAll_stays hl hrd hA (fun x hx => hbl.same (hlt x hx)) hsp
  have hvars : ∀ sp : Nat → Bool, DataW.TrodVars enc P W' sp s.vars (s.fn H (ds ++ gs)).vars [] := by
    intro sp;rw [hv, hs];exact (rfl : ([] : List MemPlace) = [])
  refine ⟨ds, gs, before, [], before, [], hW, hres _ _ _, hargs _ hold, hvars _, World.keptBut_mono (fun x hx => ⟨hx, ?_⟩) (hbl.frame (· ∈ before)), fun _ => ?_⟩
  · exact Or.inr (Or.inl hx)
  obtain ⟨_, _, _, _, _, hz, hn⟩ := hW;refine ⟨?_, _, _, ([] ++ before) ++ [], ⟨[] ++ before, [], trodAll_append (hargs _ (fun _ _ => rfl)) (hres _ _ _), hvars _, rfl, ?_, ?_⟩, ?_⟩
  · exact ok_one (by rw [hrt]) rfl (okWide_bool_mk hb _)
  · intro b off hp;have hin : MemPlace.cell b off ∈ before := by simpa using hp
    rw [hbl.frozen (hlt _ hin)];exact hz b off hin
  · intro ha
    simpa using hn ha
  intro x hx _
  simpa using hx
end
end Go.Kq

namespace Go.Kq
open Go Go.Proofs Go.ChangeShapes Go.WideShapes Go.RowKit
theorem cell_in {w : World} {a : Addr} {v : Value} (h : w.cell? a = some v) : a.spot = none ∧ a.block < w.heap.size := by
  unfold World.cell? at h
  split at h
  · rename_i c e f hb
    refine ⟨?_, lt_of_block hb⟩
    cases hs : a.spot with
    | none => rfl
    | some x => simp [hs] at h
  simp at h
theorem cells_in {w : World} {base : Nat} {a : Addr} {n : Nat} {cs : List Value} (h : w.cells? base a n = some cs) (hn : 0 < n) : a.spot = none ∧ a.block < w.heap.size := by
  obtain ⟨_, h1, h2⟩ := World.cells?_some h;have h3 := h2 0 hn;have h4 : ∃ v, cs[0]? = some v := ⟨cs[0]'(by omega), by simp⟩;obtain ⟨v, hv⟩ := h4;rw [hv] at h3;exact cell_in (a := a.add 0) h3
structure Bulk {H : Type} (bk : DataW H → Nat) (bks : List (DataW H) → Nat) : Prop where
  lit : ∀ l, 1 ≤ bk (.lit l)
  nil : 1 ≤ bk .nil
  sl : ∀ es ss, bk (.slice es ss) = bks es + bks ss + 1
  agg : ∀ ps, bk (.agg ps) = bks ps + 1
  n : bks [] = 0
  c : ∀ d r, bks (d :: r) = bk d + bks r
theorem Bulk.lits {H : Type} {bk : DataW H → Nat} {bks : List (DataW H) → Nat} (h : Bulk bk bks) (k : IntKind) : ∀ zs : List Int, zs.length ≤ bks (lits k zs)
  | [] => by simp [ChangeShapes.lits, h.n]
  | z :: zs => by
    have h1 := Bulk.lits h k zs;have h2 := h.lit (.int k z);simp only [ChangeShapes.lits, List.map_cons, h.c, List.length_cons] at h1 ⊢;omega
section
variable {H : Type} {enc : TypeId × Value → H} {P : Program} {bk : DataW H → Nat} {bks : List (DataW H) → Nat}
theorem oct_of_trod {W : World} {t e : TypeId} {fuel : Nat} {cs : List Value} {x : DataW H × List MemPlace} (hbk : Bulk bk bks) (ht : P.underlying t = some (.slice e)) (he : P.underlying e = some (.int .u8)) (hc : P.cellsOf e = 1)
    (h : DataW.trod enc P W 0 (fun _ => true) true fuel t cs = some x) (hb : bk x.1 ≤ 4294967296) : ∃ v xs, cs = [v] ∧ OctE W (fun b => b < W.heap.size) v xs ∧ xs.length + 1 ≤ bk x.1 := by
  rcases open_ints ht he hc h with ⟨rfl, rfl⟩ | ⟨a, len, cap, zs, rfl, _, hl, hm, hz, rfl, hcell, hwz⟩
  · exact ⟨_, [], rfl, .nil, by simpa using hbk.nil⟩
  simp only [if_true] at hz
  by_cases hc0 : cap = 0
  · subst hc0;obtain rfl : len = 0 := by omega
    exact ⟨_, [], rfl, .inr ⟨⟨a, rfl⟩, rfl⟩, by simp only [hbk.sl, List.length_nil]; omega⟩
  obtain ⟨hsp, hbl⟩ : a.spot = none ∧ a.block < W.heap.size := cell_in (a := a.add 0) (hcell 0 (by omega));obtain ⟨b, o, spot⟩ := a;simp only at hsp hbl;subst hsp;have hr := octs_of_ints (b := b) (o := o) zs (fun i hi => by have := hcell i hi; rwa [Addr.add_lit] at this) hwz;have h1 := hbk.lits .u8 (zs.take len);have h2 := hbk.sl (lits .u8 (zs.take len)) (lits .u8 (zs.drop len));have hlen : (zs.take len).length = len := by simp; omega
  simp only [h2] at hb;refine ⟨_, (zs.take len).map fun z => UInt8.ofNat z.toNat, rfl, .inl ⟨some _, .inr ⟨b, o, cap, _, hbl, ?_, ⟨?_, ?_⟩, ?_, rfl⟩, rfl⟩, ?_⟩
  · rw [List.length_map, hlen]
  · rw [List.length_map, hlen]; exact hl
  · rw [List.length_map]; omega
  · have := range_part hr 0 len
    simpa [octets_take, octets_drop, List.map_take] using this
  rw [List.length_map, h2]; omega
theorem bks_get (hbk : Bulk bk bks) : ∀ {l : List (DataW H)} {i : Nat} {d : DataW H}, l[i]? = some d → bk d ≤ bks l
  | [], _, _, h => by simp at h
  | e :: l, 0, d, h => by simp at h; subst h; rw [hbk.c]; omega
  | e :: l, i + 1, d, h => by have := bks_get hbk (l := l) (i := i) (by simpa using h); rw [hbk.c]; omega
theorem elems_of_trod {W : World} {t e : TypeId} {fuel : Nat} {v : Value} {x : DataW H × List MemPlace} (hbk : Bulk bk bks) (ht : P.underlying t = some (.slice e))
    (hpos : 0 < P.cellsOf e) (h : DataW.trod enc P W 0 (fun _ => true) true fuel t [v] = some x) :
    ((v = .slice none 0 0 ∨ Void v) ∧ 1 ≤ bk x.1) ∨ ∃ b o len cap n, ∃ ds : List (DataW H × List MemPlace), fuel = n + 1 ∧ v = .slice (some ⟨b, o, none⟩) len cap ∧ b < W.heap.size ∧ len ≤ cap ∧ ds.length = len ∧ bks (ds.map (·.1)) + 1 ≤ bk x.1 ∧
      ∀ i, i < len → ∃ es d, W.rangeAt b (o + i * P.cellsOf e) es ∧ es.length = P.cellsOf e ∧ ds[i]? = some d ∧ DataW.trod enc P W 0 (fun _ => true) true n e es = some d := by
  rcases DataW.trod_slice ht h with ⟨h1, rfl⟩ | ⟨a, len, cap, elems, rest, n, rfl, hv, rfl, hb, hl, hm, hlen, hel, hsr, _⟩
  · left; simp at h1; exact ⟨.inl h1, hbk.nil⟩
  simp at hv; subst hv
  by_cases hc0 : cap = 0
  · subst hc0;obtain rfl : len = 0 := by omega
    exact .inl ⟨.inr ⟨a, rfl⟩, by simp only [hbk.sl]; omega⟩
  right
  obtain ⟨hsp, hbl⟩ : a.spot = none ∧ a.block < W.heap.size := by
    by_cases hl0 : len = 0
    · obtain ⟨h1, h2⟩ := hsr rfl;have h3 := h2 0 (by omega);have h4 : ∃ y, rest[0]? = some y := ⟨rest[0]'(by omega), by simp⟩;obtain ⟨y, hy⟩ := h4;rw [hy, Option.bind_eq_some_iff] at h3;obtain ⟨es, h5, _⟩ := h3;exact cells_in (a := a) (by simpa [hl0, Addr.add] using h5) hpos
    have h3 := hel 0 (by omega);have h4 : ∃ y, elems[0]? = some y := ⟨elems[0]'(by omega), by simp⟩;obtain ⟨y, hy⟩ := h4;rw [hy, Option.bind_eq_some_iff] at h3;obtain ⟨es, h5, _⟩ := h3;exact cells_in (a := a) (by simpa [Addr.add] using h5) hpos
  obtain ⟨b, o, spot⟩ := a;simp only at hsp hbl;subst hsp;refine ⟨b, o, len, cap, n, elems, rfl, rfl, hbl, hl, hlen, by rw [hbk.sl]; omega, fun i hi => ?_⟩;have h2 := hel i hi;have hge : elems[i]? = some elems[i] := by simp [hlen, hi]
  rw [hge, Option.bind_eq_some_iff] at h2;obtain ⟨es, h3, h4⟩ := h2;obtain ⟨_, h5, h6⟩ := World.cells?_some h3;refine ⟨es, elems[i], fun j u hj => ?_, h5, hge, h4⟩;have hjl := (List.getElem?_eq_some_iff.1 hj).1;have := h6 j (by omega);rw [Addr.add_mid, Addr.add_mid] at this;rw [this]; exact hj
theorem list_of {α : Type} : ∀ {len : Nat} {R : Nat → α → Prop}, (∀ i, i < len → ∃ y, R i y) → ∃ l : List α, l.length = len ∧ ∀ i y, l[i]? = some y → R i y
  | 0, R, _ => ⟨[], rfl, by simp⟩
  | n + 1, R, h => by
    obtain ⟨y, hy⟩ := h 0 (by omega);obtain ⟨l, h1, h2⟩ := list_of (len := n) (R := fun i y => R (i + 1) y) fun i hi => h (i + 1) (by omega);refine ⟨y :: l, by simp [h1], fun i z hz => ?_⟩
    cases i with
    | zero => simp at hz; subst hz; exact hy
    | succ i => exact h2 i z (by simpa using hz)
theorem sum_le (hbk : Bulk bk bks) {α : Type} {f : α → Nat} : ∀ {l : List α} {ds : List (DataW H × List MemPlace)}, l.length = ds.length → (∀ (i : Nat) (y : α) (d : DataW H × List MemPlace), l[i]? = some y → ds[i]? = some d → f y ≤ bk d.1) → (l.map f).sum ≤ bks (ds.map (·.1))
  | [], [], _, _ => by simp [hbk.n]
  | [], _ :: _, h, _ => by simp at h
  | _ :: _, [], h, _ => by simp at h
  | y :: l, d :: ds, h, hl => by
    have h1 := hl 0 y d rfl rfl;have h2 := sum_le hbk (l := l) (ds := ds) (by simpa using h) fun i y d hy hd => hl (i + 1) y d (by simpa using hy) (by simpa using hd);simp only [List.map_cons, List.sum_cons, hbk.c]; omega
def tagWt (u : List (Nat × List UInt8)) : Nat := (u.map fun p => p.2.length + 1).sum
theorem tags_of_trod {W : World} {t e t32 tS e8 : TypeId} {fs : Array Field} {fuel : Nat} {v : Value} {x : DataW H × List MemPlace} (hbk : Bulk bk bks) (ht : P.underlying t = some (.slice e)) (he : P.underlying e = some (.struct fs)) (hc : P.cellsOf e = 2)
    (hf0 : fs[0]?.map (fun f => (f.type, f.offset)) = some (t32, 0)) (hf1 : fs[1]?.map (fun f => (f.type, f.offset)) = some (tS, 1)) (hc0 : P.cellsOf t32 = 1) (hc1 : P.cellsOf tS = 1) (h32 : P.underlying t32 = some (.int .u32))
    (hS : P.underlying tS = some (.slice e8)) (h8 : P.underlying e8 = some (.int .u8)) (hc8 : P.cellsOf e8 = 1)
    (h : DataW.trod enc P W 0 (fun _ => true) true fuel t [v] = some x) (hb : bk x.1 ≤ 4294967296) : ∃ u, TagsR W (fun b => b < W.heap.size) v u ∧ tagWt u + 1 ≤ bk x.1 ∧ ∀ p ∈ u, p.1 < 4294967296 := by
  rcases elems_of_trod hbk ht (by omega) h with ⟨hv0, h1⟩ | ⟨b, o, len, cap, n, ds, rfl, rfl, hbl, hl, hdl, hbd, hel⟩
  · exact ⟨[], .inl ⟨hv0, rfl⟩, by simpa [tagWt] using h1, by simp⟩
  have each : ∀ i, i < len → ∃ y : Nat × List UInt8, y.1 < 4294967296 ∧ (∃ xv, W.rangeAt b (o + i * 2) [.int .u32 y.1, xv] ∧ OctE W (fun b => b < W.heap.size) xv y.2) ∧ ∀ d, ds[i]? = some d → y.2.length + 1 ≤ bk d.1 := by
    intro i hi;obtain ⟨es, d, hr, hle, hd, htr⟩ := hel i hi;rw [hc] at hr hle
    match es, hle with
    | [c0, c1], _ =>
      obtain ⟨xs, m, rfl, rfl, _, hxl, hxs⟩ := DataW.trod_struct he htr;obtain ⟨f0, hf0', e0⟩ := Option.map_eq_some_iff.1 hf0;obtain ⟨f1, hf1', e1⟩ := Option.map_eq_some_iff.1 hf1;simp only [Prod.mk.injEq] at e0 e1;have q0 := hxs 0 f0 hf0';have q1 := hxs 1 f1 hf1';rw [e0.1, e0.2, hc0] at q0;rw [e1.1, e1.2, hc1] at q1;simp only [List.drop_zero, List.take_succ_cons, List.take_zero, List.drop_succ_cons] at q0 q1;have hn0 : ∃ y0, xs[0]? = some y0 := by
        have := (Array.getElem?_eq_some_iff.1 hf0').1;exact ⟨xs[0]'(by omega), by simp⟩
      have hn1 : ∃ y1, xs[1]? = some y1 := by
        have := (Array.getElem?_eq_some_iff.1 hf1').1;exact ⟨xs[1]'(by omega), by simp⟩
      obtain ⟨y0, hy0⟩ := hn0;obtain ⟨y1, hy1⟩ := hn1;rw [hy0] at q0;rw [hy1] at q1;obtain ⟨k, hk, _, hw⟩ := DataW.trod_int h32 q0;simp at hk; subst hk
      have hdb : bk (DataW.agg (xs.map (·.1))) ≤ 4294967296 := by
        have h5 := bks_get hbk (l := ds.map (·.1)) (i := i) (d := DataW.agg (xs.map (·.1))) (by rw [List.getElem?_map, hd]; rfl);omega
      have hy1b : bk y1.1 + 1 ≤ bk (DataW.agg (xs.map (·.1))) := by
        rw [hbk.agg];have := bks_get hbk (l := xs.map (·.1)) (i := 1) (d := y1.1) (by rw [List.getElem?_map, hy1]; rfl);omega
      rw [range_cons, range_one] at hr;obtain ⟨v1, xs1, hv1, ho, hl1⟩ := oct_of_trod hbk hS h8 hc8 q1 (by omega);simp at hv1; subst hv1
      have hk0 : 0 ≤ k ∧ k < 4294967296 := by
        simp [Lit.wf, IntKind.min, IntKind.max, IntKind.signed, IntKind.bits] at hw; omega
      obtain ⟨k', rfl⟩ := Int.eq_ofNat_of_zero_le hk0.1;refine ⟨(k', xs1), by simp only; omega, ⟨c1, by rw [range_cons, range_one]; exact hr, ho⟩, ?_⟩;intro d' hd';rw [hd] at hd'
      cases hd'
      simp only; omega
  obtain ⟨u, hu1, hu2⟩ := list_of each;have hsum := sum_le hbk (f := fun p : Nat × List UInt8 => p.2.length + 1) (l := u) (ds := ds) (by omega) fun i y d hy hd => (hu2 i y hy).2.2 d hd;have hlen : u.length ≤ (u.map fun p => p.2.length + 1).sum := by
    clear hu1 hu2 hsum
    induction u with
    | nil => simp
    | cons p u ih => simp only [List.map_cons, List.sum_cons, List.length_cons]; omega
  refine ⟨u, .inr ⟨b, o, cap, hbl, by rw [hu1], ⟨by omega, by omega⟩, fun i k xx hi => ?_⟩, by simp only [tagWt]; omega, ?_⟩
  · obtain ⟨g1, ⟨xv, g2, g3⟩, _⟩ := hu2 i _ hi;exact ⟨xv, g1, g2, g3⟩
  intro p hp;obtain ⟨i, hi⟩ := List.getElem?_of_mem hp;exact (hu2 i p hi).1
end
mutual
/-- How much a tree weighs. -/
def tw : T → Nat
  | .mk _ s _ l u => 1 + s.length + tws l + tagWt u
def tws : List T → Nat
  | [] => 0
  | t :: r => tw t + tws r
end
theorem tws_sum : ∀ l : List T, tws l = (l.map tw).sum
  | [] => rfl
  | t :: r => by rw [tws, tws_sum r]; simp
inductive KeysOk : T → Prop where
  | mk {n : Int} {s : List UInt8} {nl : Bool} {l : List T} {u : List (Nat × List UInt8)} (hu : ∀ p ∈ u, p.1 < 4294967296) (hl : ∀ y ∈ l, KeysOk y) : KeysOk (.mk n s nl l u)
structure TIds (P : Program) (TT TL tN tS tB tU tG t32 t8 : TypeId) (fs gs : Array Field) : Prop where
  tt : P.underlying TT = some (.struct fs)
  c5 : P.cellsOf TT = 5
  sz : fs.size = 5
  f0 : fs[0]?.map (fun f => (f.type, f.offset)) = some (tN, 0)
  f1 : fs[1]?.map (fun f => (f.type, f.offset)) = some (tS, 1)
  f2 : fs[2]?.map (fun f => (f.type, f.offset)) = some (tB, 2)
  f3 : fs[3]?.map (fun f => (f.type, f.offset)) = some (TL, 3)
  f4 : fs[4]?.map (fun f => (f.type, f.offset)) = some (tU, 4)
  cN : P.cellsOf tN = 1
  cS : P.cellsOf tS = 1
  cB : P.cellsOf tB = 1
  cL : P.cellsOf TL = 1
  cU : P.cellsOf tU = 1
  n : P.underlying tN = some (.int .i64)
  s : P.underlying tS = some (.slice t8)
  b : P.underlying tB = some .bool
  l : P.underlying TL = some (.slice TT)
  u : P.underlying tU = some (.slice tG)
  u8 : P.underlying t8 = some (.int .u8)
  c8 : P.cellsOf t8 = 1
  g : P.underlying tG = some (.struct gs)
  cG : P.cellsOf tG = 2
  g0 : gs[0]?.map (fun f => (f.type, f.offset)) = some (t32, 0)
  g1 : gs[1]?.map (fun f => (f.type, f.offset)) = some (tS, 1)
  c32 : P.cellsOf t32 = 1
  u32 : P.underlying t32 = some (.int .u32)
section
variable {H : Type} {enc : TypeId × Value → H} {P : Program} {bk : DataW H → Nat} {bks : List (DataW H) → Nat}
theorem fld_of {fs : Array Field} {cs : List Value} {xs : List (DataW H × List MemPlace)} {W : World} {m i o : Nat} {t : TypeId} (h : fs[i]?.map (fun f => (f.type, f.offset)) = some (t, o)) (hc : P.cellsOf t = 1) (hl : xs.length = fs.size)
    (hxs : ∀ (i : Nat) (f : Field), fs[i]? = some f → DataW.trod enc P W 0 (fun _ => true) true m f.type ((cs.drop f.offset).take (P.cellsOf f.type)) = xs[i]?) : ∃ y, xs[i]? = some y ∧ DataW.trod enc P W 0 (fun _ => true) true m t ((cs.drop o).take 1) = some y := by
  obtain ⟨f, hf, e⟩ := Option.map_eq_some_iff.1 h;simp only [Prod.mk.injEq] at e;have q := hxs i f hf;rw [e.1, e.2, hc] at q;have := (Array.getElem?_eq_some_iff.1 hf).1;exact ⟨xs[i]'(by omega), by simp, by rw [q]; simp⟩
theorem tree_of_trod {TT TL tN tS tB tU tG t32 t8 : TypeId} {fs gs : Array Field} {W : World} (hbk : Bulk bk bks) (I : TIds P TT TL tN tS tB tU tG t32 t8 fs gs) :
    ∀ (fuel : Nat) (cs : List Value) (x : DataW H × List MemPlace), DataW.trod enc P W 0 (fun _ => true) true fuel TT cs = some x → bk x.1 ≤ 4294967296 → ∃ t, RepT W (fun b => b < W.heap.size) cs t ∧ tw t ≤ bk x.1 ∧ KeysOk t := by
  intro fuel
  induction fuel using Nat.strongRecOn with
  | _ fuel ih =>
    intro cs x h hb;obtain ⟨xs, m, rfl, rfl, hcl, hxl, hxs⟩ := DataW.trod_struct I.tt h;rw [I.c5] at hcl
    match cs, hcl with
    | [c0, c1, c2, c3, c4], _ =>
      obtain ⟨y0, hy0, q0⟩ := fld_of (P := P) I.f0 I.cN hxl hxs;obtain ⟨y1, hy1, q1⟩ := fld_of (P := P) I.f1 I.cS hxl hxs;obtain ⟨y2, hy2, q2⟩ := fld_of (P := P) I.f2 I.cB hxl hxs;obtain ⟨y3, hy3, q3⟩ := fld_of (P := P) I.f3 I.cL hxl hxs;obtain ⟨y4, hy4, q4⟩ := fld_of (P := P) I.f4 I.cU hxl hxs;simp only [List.drop_zero, List.take_succ_cons, List.take_zero, List.drop_succ_cons] at q0 q1 q2 q3 q4;rw [I.sz] at hxl;have hxe : xs = [y0, y1, y2, y3, y4] := by
        match xs, hxl with
        | [a0, a1, a2, a3, a4], _ => simp at hy0 hy1 hy2 hy3 hy4; simp [hy0, hy1, hy2, hy3, hy4]
      subst hxe;simp only [List.map_cons, List.map_nil, hbk.agg, hbk.c, hbk.n] at hb ⊢;obtain ⟨n, hn, _, hwn⟩ := DataW.trod_int I.n q0;simp at hn; subst hn
      obtain ⟨nl, hnl, _⟩ := DataW.trod_bool I.b q2;simp at hnl; subst hnl
      obtain ⟨v1, s, hv1, ho, hsl⟩ := oct_of_trod hbk I.s I.u8 I.c8 q1 (by omega);simp at hv1; subst hv1
      obtain ⟨u, hu, huw, huk⟩ := tags_of_trod hbk I.u I.g I.cG I.g0 I.g1 I.c32 I.cS I.u32 I.s I.u8 I.c8 q4 (by omega);have hn64 : -9223372036854775808 ≤ n ∧ n ≤ 9223372036854775807 := by
        simpa [Lit.wf, IntKind.min, IntKind.max, IntKind.signed, IntKind.bits] using hwn
      have hL : ∃ l, Things W (fun b => b < W.heap.size) c3 l ∧ tws l + 1 ≤ bk y3.1 ∧ ∀ y ∈ l, KeysOk y := by
        rcases elems_of_trod hbk I.l (by rw [I.c5]; omega) q3 with ⟨hv0, h1⟩ | ⟨b, o, len, cap, k, ds, rfl, rfl, hbl, hl, hdl, hbd, hel⟩
        · exact ⟨[], .inl ⟨hv0, rfl⟩, by simpa [tws] using h1, by simp⟩
        have each : ∀ i, i < len → ∃ t, (RepT W (fun b => b < W.heap.size) (cellsAt W b (o + i * 5) 5) t ∧ W.rangeAt b (o + i * 5) (cellsAt W b (o + i * 5) 5)) ∧ (∀ d, ds[i]? = some d → tw t ≤ bk d.1) ∧ KeysOk t := by
          intro i hi;obtain ⟨es, d, hr, hle, hd, htr⟩ := hel i hi;rw [I.c5] at hr hle;have hd5 := bks_get hbk (l := ds.map (·.1)) (i := i) (d := d.1) (by rw [List.getElem?_map, hd]; rfl);obtain ⟨t, h1, h2, h3⟩ := ih k (by omega) es d htr (by omega);have hce := range_cellsAt hr;rw [hle] at hce;rw [← hce];exact ⟨t, ⟨h1, hr⟩, fun d' hd' => by rw [hd] at hd'; cases hd'; exact h2, h3⟩
        obtain ⟨l, hl1, hl2⟩ := list_of each;have hsum := sum_le hbk (f := tw) (l := l) (ds := ds) (by omega) fun i y d hy hd => (hl2 i y hy).2.1 d hd;have hlen : l.length ≤ (l.map tw).sum := by
          clear hl1 hl2 hsum
          induction l with
          | nil => simp
          | cons p l ih =>
            have : 1 ≤ tw p := by cases p; rw [tw]; omega
            simp only [List.map_cons, List.sum_cons, List.length_cons]; omega
        rw [← tws_sum] at hsum hlen;refine ⟨l, .inr ⟨b, o, cap, hbl, by rw [hl1], ⟨by omega, by omega⟩, fun i => cellsAt W b (o + i * 5) 5, fun i y hi => (hl2 i y hi).1.2, fun i y hi => (hl2 i y hi).1.1⟩, by omega, fun y hy => ?_⟩;obtain ⟨i, hi⟩ := List.getElem?_of_mem hy;exact (hl2 i y hi).2.2
      obtain ⟨l, hl, hlw, hlk⟩ := hL;refine ⟨.mk n s nl l u, repT_iff.2 ⟨_, _, _, rfl, hn64, ho, hl, hu⟩, ?_, .mk huk hlk⟩;rw [tw]; omega
end
end Go.Kq

namespace Go.Kq
open Go
structure TagsOk (l : List (Nat × List UInt8)) : Prop where
  rise : l.Pairwise fun a b => a.1 < b.1
  key : ∀ p ∈ l, p.1 < 4294967296
  few : ∀ p ∈ l, p.2.length ≤ 32767
  len : l.length < 4294967296
def vTag (p : Nat × List UInt8) : Nat × V := (p.1, .s p.2)
theorem rdTagsGo_app : ∀ (l : List (Nat × List UInt8)) (x : V) (rest : List UInt8), (∀ p ∈ l, p.1 < 4294967296 ∧ p.2.length ≤ 32767) → l.Pairwise (fun a b => a.1 < b.1) → (∀ q ∈ tagKv x, ∀ p ∈ l, q.1 < p.1) →
    ∃ y, rdTagsGo l.length x ⟨tagsW l ++ rest, false, false⟩ = (y, ⟨rest, false, false⟩) ∧ tagKv y = tagKv x ++ l.map vTag
  | [], x, rest, _, _, _ => ⟨x, rfl, by simp⟩
  | p :: l, x, rest, h, hp, hx => by
    obtain ⟨h1, h2⟩ := h p (by simp);have e1 : tagsW (p :: l) ++ rest = uvW p.1 ++ (uvW p.2.length ++ (p.2 ++ (tagsW l ++ rest))) := by simp [tagsW, tagW]
    obtain ⟨y, h3, _, h4⟩ := rdSpan_app (o := p.2) (rest := tagsW l ++ rest) (l := p.2.length) (nl := false) rfl (by simp);have h5 := h4 rfl;subst h5;have hset : tagKv (tagSet x p.1 (.s p.2)) = tagKv x ++ [vTag p] := by
      rw [tagSet, tagKv, kvSet_push fun q hq => Nat.ne_of_lt (hx q hq p (by simp))]; rfl
    obtain ⟨y, h6, h7⟩ := rdTagsGo_app l (tagSet x p.1 (.s p.2)) rest (fun q hq => h q (by simp [hq])) (List.pairwise_cons.1 hp).2 (by
      intro q hq r hr;rw [hset] at hq
      rcases List.mem_append.1 hq with hq | hq
      · exact hx q hq r (by simp [hr])
      · simp [vTag] at hq; subst hq; exact (List.pairwise_cons.1 hp).1 r hr)
    refine ⟨y, ?_, by rw [h7, hset]; simp⟩;rw [e1, List.length_cons];simp only [rdTagsGo, rdUv_app h1, rdUv_app (show p.2.length < 4294967296 by omega), h3, V.oct];exact h6
theorem insKv_le {p : Nat × V} : ∀ {l : List (Nat × V)}, (∀ q ∈ l, p.1 ≤ q.1) → insKv p l = p :: l
  | [], _ => rfl
  | q :: r, h => by rw [insKv, if_pos (h q (by simp))]
theorem sortKv_id : ∀ {l : List (Nat × V)}, l.Pairwise (fun a b => a.1 < b.1) → sortKv l = l
  | [], _ => rfl
  | p :: l, h => by
    have h1 := List.pairwise_cons.1 h;show insKv p (sortKv l) = p :: l
    rw [sortKv_id h1.2, insKv_le fun q hq => Nat.le_of_lt (h1.1 q hq)]
theorem tagsT_of {y : V} {l : List (Nat × List UInt8)} (h : tagKv y = l.map vTag) (hp : l.Pairwise fun a b => a.1 < b.1) : tagsT y = l := by
  unfold tagsT;rw [h, sortKv_id (List.pairwise_map.2 hp), List.map_map];have : (fun p : Nat × V => (p.1, p.2.octs)) ∘ vTag = id := by funext p; rfl
  rw [this, List.map_id]
theorem inv_tags {l : List (Nat × List UInt8)} (h : TagsOk l) {ver : Int} : Inv rdTagsF ver true apTags (uvW l.length ++ tagsW l) := by
  intro rest nl hn;have hnl := nl_false hn (by simp [uvW_ne]);subst hnl;obtain ⟨y, h1, h2⟩ := rdTagsGo_app l .nil rest (fun p hp => ⟨h.key p hp, h.few p hp⟩) h.rise (by simp [tagKv]);have h3 : tagsT y = l := tagsT_of (by rw [h2]; simp [tagKv]) h.rise;refine ⟨y, ?_, by rw [apTags, h3]⟩;simp only [rdTagsF, if_true, rdTags, List.append_assoc, rdUv_app h.len, h1]
theorem inv_tagsF {l : List (Nat × List UInt8)} {fl : Bool} (h : fl = true → TagsOk l) {ver : Int} : Inv rdTagsF ver fl (fun x => if fl then apTags x else []) (if fl then uvW l.length ++ tagsW l else []) := by
  cases fl with
  | true => exact inv_tags (h rfl)
  | false => intro rest nl _; exact ⟨.nil, by simp [rdTagsF], rfl⟩
theorem insAt_spec {out : List (Nat × List UInt8)} {k : Nat} (h : out.Pairwise fun a b => a.1 < b.1) : (∀ p ∈ out.take (insAt out k), p.1 < k) ∧ (∀ p ∈ out.drop (insAt out k), k ≤ p.1) := by
  induction out with
  | nil => simp [insAt]
  | cons q out ih =>
    have h1 := List.pairwise_cons.1 h
    by_cases hq : q.1 < k
    · have e : insAt (q :: out) k = insAt out k + 1 := by simp [insAt, List.takeWhile_cons, hq]
      rw [e];obtain ⟨i1, i2⟩ := ih h1.2;exact ⟨by intro p hp; rcases List.mem_cons.1 (by simpa using hp) with rfl | hp; exact hq; exact i1 p hp, by simpa using i2⟩
    have e : insAt (q :: out) k = 0 := by simp [insAt, List.takeWhile_cons, hq]
    rw [e];refine ⟨by simp, ?_⟩;intro p hp
    rcases List.mem_cons.1 (by simpa using hp) with rfl | hp
    · omega
    have := h1.1 p hp; omega
theorem insTag_rise {least : Nat} {out : List (Nat × List UInt8)} {t : Nat × List UInt8} (h : out.Pairwise fun a b => a.1 < b.1) : (insTag least out t).Pairwise fun a b => a.1 < b.1 := by
  unfold insTag
  split
  · exact h
  split
  · exact h
  rename_i hne
  obtain ⟨i1, i2⟩ := insAt_spec (k := t.1) h;have hd : ∀ p ∈ out.drop (insAt out t.1), t.1 < p.1 := by
    intro p hp;have h2 := i2 p hp
    rcases Nat.lt_or_ge t.1 p.1 with h3 | h3
    · exact h3
    exfalso
    have hpe : p.1 = t.1 := by omega
    cases hdr : out.drop (insAt out t.1) with
    | nil => rw [hdr] at hp; simp at hp
    | cons q r =>
      have hq : out[insAt out t.1]? = some q := by
        have := congrArg (fun l => l[0]?) hdr
        simpa using this
      have hpw := List.Pairwise.sublist (List.drop_sublist (insAt out t.1) out) h;rw [hdr] at hpw hp;have hq2 := i2 q (by rw [hdr]; simp)
      rcases List.mem_cons.1 hp with rfl | hp
      · exact hne (by rw [hq]; simp [hpe])
      have := (List.pairwise_cons.1 hpw).1 p hp; omega
  rw [List.pairwise_append];refine ⟨h.sublist (List.take_sublist _ _), List.pairwise_cons.2 ⟨hd, h.sublist (List.drop_sublist _ _)⟩, ?_⟩;intro a ha b hb;have h1 := i1 a ha
  rcases List.mem_cons.1 hb with rfl | hb
  · exact h1
  have := hd b hb; omega
theorem insTag_mem {least : Nat} {out : List (Nat × List UInt8)} {t p : Nat × List UInt8} (h : p ∈ insTag least out t) : p ∈ out ∨ p = t := by
  unfold insTag at h
  split at h
  · exact .inl h
  split at h
  · exact .inl h
  rcases List.mem_append.1 h with h | h
  · exact .inl (List.mem_of_mem_take h)
  rcases List.mem_cons.1 h with rfl | h
  · exact .inr rfl
  exact .inl (List.mem_of_mem_drop h)
theorem foldl_ins {least : Nat} : ∀ (u out : List (Nat × List UInt8)), out.Pairwise (fun a b => a.1 < b.1) → (u.foldl (insTag least) out).Pairwise (fun a b => a.1 < b.1) ∧ (∀ p ∈ u.foldl (insTag least) out, p ∈ out ∨ p ∈ u) ∧ (u.foldl (insTag least) out).length ≤ out.length + u.length
  | [], out, h => ⟨h, fun p hp => .inl hp, by simp⟩
  | t :: u, out, h => by
    obtain ⟨h1, h2, h3⟩ := foldl_ins u (insTag least out t) (insTag_rise h);refine ⟨h1, fun p hp => ?_, ?_⟩
    · rcases h2 p hp with h | h
      · rcases insTag_mem h with h | h
        · exact .inl h
        exact .inr (by simp [h])
      exact .inr (by simp [h])
    have := insTag_len least out t;simp only [List.foldl_cons, List.length_cons]; omega
theorem unks_ok {fs : List Fd} {t : T} (hk : ∀ p ∈ t.u, p.1 < 4294967296) : TagsOk (unksW fs t) := by
  obtain ⟨h1, h2, h3⟩ := foldl_ins (least := knownW fs) (t.u.take 32767) [] (by simp);refine ⟨?_, ?_, ?_, ?_⟩
  · exact List.pairwise_map.2 h1
  · intro p hp;obtain ⟨q, hq, rfl⟩ := List.mem_map.1 hp
    rcases h2 q hq with h | h
    · simp at h
    exact hk q (List.mem_of_mem_take h)
  · intro p hp;obtain ⟨q, hq, rfl⟩ := List.mem_map.1 hp;simp [wholeS]; omega
  unfold unksW unknownW;rw [List.length_map];simp at h3
  omega
end Go.Kq

namespace Go.Kq
open Go
def bodyL : List Fd → Int → Bool → List T → Nat → List UInt8
  | [], _, _, _, _ => []
  | f :: fs, ver, flex, ts, i => (if f.has ver then fieldW f ver flex (atT ts i) else []) ++ bodyL fs ver flex ts (i + 1)
theorem bodyW_eq : ∀ (fs : List Fd) (ver : Int) (flex : Bool) (ts : List T) (j : Nat), (∀ f ∈ fs, f.tag < 0) → bodyW fs ver (fieldsW fs ver flex ts j) fs.length = bodyL fs ver flex ts j
  | [], _, _, _, _, _ => rfl
  | f :: fs, ver, flex, ts, j, h => by
    have ih := bodyW_eq fs ver flex ts (j + 1) fun g hg => h g (by simp [hg]);have hf := h f (by simp);rw [bodyL, ← ih, bodyW, List.length_cons, List.range_succ_eq_map, List.flatMap_cons, List.flatMap_map, fieldsW];simp [bodyW, hf]
theorem partW_flat {fs : List Fd} {ver : Int} {flex : Bool} {t : T} (h : ∀ f ∈ fs, f.tag < 0) : partW fs ver flex t = bodyL fs ver flex t.l 0 ++ (if flex then uvW (unksW fs t).length ++ tagsW (unksW fs t) else []) := by
  have hk : knownsW fs t (fieldsW fs ver flex t.l 0) = [] := by simp [knownsW, knownW_free h]
  have hp : ∀ l : List (Nat × List UInt8), l.flatMap pairW = tagsW l := fun l => by
    simp only [tagsW, List.flatMap]; congr 1
  rw [partW, joinW, hk, bodyW_eq _ _ _ _ _ h]
  cases flex <;> simp [hp]
section
variable {ver : Int} {flex : Bool} {t : T} {nul of : Int} {sub : T → List UInt8}
theorem fieldV_i16 : fieldV 2 nul of sub ver flex t = fxW t.n 2 := by simp [fieldV, valueW, widthW]
theorem fieldV_i32 : fieldV 3 nul of sub ver flex t = fxW t.n 4 := by simp [fieldV, valueW, widthW]
theorem fieldV_u16 : fieldV 5 nul of sub ver flex t = fxW t.n 2 := by simp [fieldV, valueW, widthW]
theorem nullW_no (h : nul < 0) : nullW nul ver t = false := by
  have : ¬ nul ≥ 0 := by omega
  simp [nullW, this]
theorem fieldV_str (h : nullW nul ver t = false) : fieldV 8 nul of sub ver flex t = if flex then uvW ((wholeS t.s).length + 1) ++ wholeS t.s else fxW (wholeS t.s).length 2 ++ wholeS t.s := by
  cases flex <;> simp [fieldV, valueW, countedW, h]
theorem wholeS_len (s : List UInt8) : (wholeS s).length ≤ 32767 := by simp [wholeS]; omega
end
end Go.Kq

namespace Go.Kq
open Go
theorem uvW_le5 {n : Nat} (h : n < 4294967296) : (uvW n).length ≤ 5 := uvW_le 5 n (by omega) (by simp only [Nat.reducePow]; omega)
mutual
/-- So many octets a piece. -/
def kF : Fd → Nat
  | .mk _ _ _ _ _ _ _ sub => kFs sub + 40
def kFs : List Fd → Nat
  | [] => 0
  | f :: fs => kF f + kFs fs
end
mutual
/-- No field is a tag. -/
def freeF : Fd → Bool
  | .mk _ _ _ _ tag _ _ sub => decide (tag < 0) && freeFs sub
def freeFs : List Fd → Bool
  | [] => true
  | f :: fs => freeF f && freeFs fs
end
theorem freeFs_tag : ∀ {fs : List Fd}, freeFs fs = true → ∀ f ∈ fs, f.tag < 0
  | [], _, _, h => by simp at h
  | g :: fs, h, f, hf => by
    rw [freeFs, Bool.and_eq_true] at h
    rcases List.mem_cons.1 hf with rfl | hf
    · cases f; simp [freeF] at h; exact h.1.1
    exact freeFs_tag h.2 f hf
theorem tw_pos (t : T) : 1 ≤ tw t := by cases t; rw [tw]; omega
theorem tw_eq (t : T) : tw t = 1 + t.s.length + tws t.l + tagWt t.u := by cases t; rw [tw]; rfl
theorem KeysOk.u {t : T} (h : KeysOk t) : ∀ p ∈ t.u, p.1 < 4294967296 := by cases h; assumption
theorem KeysOk.l {t : T} (h : KeysOk t) : ∀ y ∈ t.l, KeysOk y := by cases h; assumption
theorem KeysOk.zero : KeysOk .zero := .mk (by simp) (by simp)
theorem KeysOk.at {l : List T} (h : ∀ y ∈ l, KeysOk y) (i : Nat) : KeysOk (atT l i) := by
  unfold atT
  cases hi : l[i]? with
  | none => exact .zero
  | some y => exact h y (List.mem_of_getElem? hi)
theorem counted_le {flex null : Bool} {n size : Nat} (h : n ≤ 32767) (hs : size ≤ 4) : (countedW flex null n size).length ≤ 5 := by
  unfold countedW;have := uvW_le5 (n := n + 1) (by omega)
  split
  · simp
  split
  · omega
  split <;> simp only [fxL] <;> omega
theorem value_le {kind : Int} {sub : T → List UInt8} {null flex : Bool} {t : T} {S : Nat} (hS : (sub t).length ≤ S * tw t) : (valueW kind sub null flex t).length ≤ (S + 19) * tw t := by
  have h1 := tw_pos t;have h2 := tw_eq t;rw [Nat.add_mul];have h3 : (if null then [] else wholeS t.s).length ≤ t.s.length := by cases null <;> simp [wholeS]; omega
  have h4 : (if null then [] else wholeS t.s).length ≤ 32767 := by cases null <;> simp [wholeS]; omega
  unfold valueW
  split
  · simp; omega
  split
  · simp only [uuidW, List.length_append, List.length_take, List.length_replicate]; omega
  split
  · rw [List.length_append]; have := counted_le (flex := flex) (null := null) (size := 2) h4 (by omega); omega
  split
  · rw [List.length_append]; have := counted_le (flex := flex) (null := null) (size := 4) h4 (by omega); omega
  split
  · omega
  have : widthW kind ≤ 8 := by unfold widthW; repeat' split <;> try omega
  rw [fxL]; omega
theorem tws_take (l : List T) (n : Nat) : ((l.take n).map tw).sum ≤ tws l := by
  rw [tws_sum]
  induction l generalizing n with
  | nil => simp
  | cons y l ih =>
    cases n with
    | zero => simp
    | succ n => have := ih n; simp only [List.take_succ_cons, List.map_cons, List.sum_cons]; omega
theorem flat_le {f : T → List UInt8} {S : Nat} : ∀ {l : List T}, (∀ y ∈ l, (f y).length ≤ S * tw y) → (l.flatMap f).length ≤ S * (l.map tw).sum
  | [], _ => by simp
  | y :: l, h => by
    have h1 := h y (by simp);have h2 := flat_le (f := f) (S := S) (l := l) fun z hz => h z (by simp [hz]);simp only [List.flatMap_cons, List.length_append, List.map_cons, List.sum_cons, Nat.mul_add]; omega
theorem tagWt_app (a b : List (Nat × List UInt8)) : tagWt (a ++ b) = tagWt a + tagWt b := by simp [tagWt]
theorem tagWt_ins (least : Nat) (out : List (Nat × List UInt8)) (t : Nat × List UInt8) : tagWt (insTag least out t) ≤ tagWt out + (t.2.length + 1) := by
  unfold insTag
  split
  · omega
  split
  · omega
  have h1 : tagWt out = tagWt (out.take (insAt out t.1)) + tagWt (out.drop (insAt out t.1)) := by rw [← tagWt_app, List.take_append_drop]
  rw [tagWt_app];have h2 : tagWt (t :: out.drop (insAt out t.1)) = t.2.length + 1 + tagWt (out.drop (insAt out t.1)) := by simp [tagWt]
  omega
theorem tagWt_foldl (least : Nat) : ∀ (u out : List (Nat × List UInt8)), tagWt (u.foldl (insTag least) out) ≤ tagWt out + tagWt u
  | [], out => by simp
  | t :: u, out => by
    have h1 := tagWt_ins least out t;have h2 := tagWt_foldl least u (insTag least out t);have h3 : tagWt (t :: u) = t.2.length + 1 + tagWt u := by simp [tagWt]
    rw [List.foldl_cons]; omega
theorem tagWt_take : ∀ (u : List (Nat × List UInt8)) (n : Nat), tagWt (u.take n) ≤ tagWt u
  | [], n => by simp
  | p :: u, 0 => by simp [tagWt]
  | p :: u, n + 1 => by have := tagWt_take u n; simp [tagWt] at this ⊢; omega
theorem tagWt_whole : ∀ u : List (Nat × List UInt8), tagWt (u.map fun p => (p.1, wholeS p.2)) ≤ tagWt u
  | [] => by simp
  | p :: u => by
    have := tagWt_whole u;simp [tagWt, wholeS] at this ⊢; omega
theorem unksW_wt {fs : List Fd} {t : T} : tagWt (unksW fs t) ≤ tagWt t.u := by
  unfold unksW unknownW;have h1 := tagWt_whole ((t.u.take 32767).foldl (insTag (knownW fs)) []);have h2 := tagWt_foldl (knownW fs) (t.u.take 32767) [];have h3 := tagWt_take t.u 32767;have h4 : tagWt [] = 0 := rfl;omega
theorem tagsW_le : ∀ {l : List (Nat × List UInt8)}, (∀ p ∈ l, p.1 < 4294967296 ∧ p.2.length ≤ 32767) → (tagsW l).length ≤ 10 * tagWt l
  | [], _ => by simp [tagsW]
  | p :: l, h => by
    have h1 := tagsW_le (l := l) fun q hq => h q (by simp [hq]);obtain ⟨h2, h3⟩ := h p (by simp);have h4 := uvW_le5 h2;have h5 := uvW_le5 (n := p.2.length) (by omega);simp [tagsW, tagW, tagWt] at h1 ⊢
    omega
end Go.Kq

namespace Go.Kq
open Go Go.Proofs
mutual
/-- Tags are numbers that a uvarint holds; a field with a tag is no bool, no uuid, no part. -/
def Fd.okK : Fd → Bool | .mk kind _ _ _ tag _ _ sub => decide (tag < 4294967295) && (decide (tag < 0) || (decide (kind ≠ 0) && decide (kind ≠ 7) && decide (kind ≠ 10))) && okAllK sub
def okAllK : List Fd → Bool
  | [] => true
  | f :: fs => f.okK && okAllK fs
end
theorem okAllK_mem : ∀ {fs : List Fd}, okAllK fs = true → ∀ f ∈ fs, f.okK = true
  | [], _, _, h => by simp at h
  | g :: fs, h, f, hf => by
    rw [okAllK, Bool.and_eq_true] at h
    rcases List.mem_cons.1 hf with rfl | hf
    · exact h.1
    exact okAllK_mem h.2 f hf
theorem okK_eq {f : Fd} (h : f.okK = true) : f.tag < 4294967295 ∧ (0 ≤ f.tag → ¬ f.kind = 0 ∧ ¬ f.kind = 7 ∧ ¬ f.kind = 10) ∧ okAllK f.sub = true := by
  cases f with
  | mk kind fr to nul tag df of sub =>
    rw [Fd.okK] at h;simp only [Bool.and_eq_true, Bool.or_eq_true, decide_eq_true_eq] at h;refine ⟨h.1.1, fun h0 => ?_, h.2⟩
    rcases h.1.2 with h1 | h1
    · have h0' : 0 ≤ tag := h0; omega
    exact ⟨h1.1.1, h1.1.2, h1.2⟩
mutual
/-- Every part is written as the reference writes it: the functions call one another. -/
theorem parts_allK {P : Program} {fp fv ff fu : FuncId} (hp : ∀ fs : List Fd, (∀ f ∈ fs, f.tag < 4294967295) → (∀ fd ∈ fs, FieldM P ff fd (fieldW fd)) → (∀ fd ∈ fs, 0 ≤ fd.tag → UsualM P fu fd) → PartM P fp fs (partW fs))
    (hu : ∀ fd : Fd, ¬ fd.kind = 0 → ¬ fd.kind = 7 → ¬ fd.kind = 10 → UsualM P fu fd)
    (hv : ∀ (fs : List Fd) (sub : Int → Bool → T → List UInt8), PartM P fp fs sub → ValueM P fv fs sub)
    (hf : ∀ (fd : Fd) (sub : Int → Bool → T → List UInt8), ValueM P fv fd.sub sub → PartM P fp fd.sub sub → FieldM P ff fd (fun ver flex t => fieldV fd.kind fd.nul fd.of (sub ver flex) ver flex t)) :
    ∀ fs : List Fd, okAllK fs = true → ∀ fd ∈ fs, FieldM P ff fd (fieldW fd)
  | [], _, _, h => by simp at h
  | g :: fs, h, fd, hm => by
    rw [okAllK, Bool.and_eq_true] at h
    rcases List.mem_cons.1 hm with e | hm
    · rw [e]; exact field_allK hp hu hv hf g h.1
    exact parts_allK hp hu hv hf fs h.2 fd hm
theorem field_allK {P : Program} {fp fv ff fu : FuncId} (hp : ∀ fs : List Fd, (∀ f ∈ fs, f.tag < 4294967295) → (∀ fd ∈ fs, FieldM P ff fd (fieldW fd)) → (∀ fd ∈ fs, 0 ≤ fd.tag → UsualM P fu fd) → PartM P fp fs (partW fs))
    (hu : ∀ fd : Fd, ¬ fd.kind = 0 → ¬ fd.kind = 7 → ¬ fd.kind = 10 → UsualM P fu fd)
    (hv : ∀ (fs : List Fd) (sub : Int → Bool → T → List UInt8), PartM P fp fs sub → ValueM P fv fs sub)
    (hf : ∀ (fd : Fd) (sub : Int → Bool → T → List UInt8), ValueM P fv fd.sub sub → PartM P fp fd.sub sub → FieldM P ff fd (fun ver flex t => fieldV fd.kind fd.nul fd.of (sub ver flex) ver flex t)) :
    ∀ fd : Fd, fd.okK = true → FieldM P ff fd (fieldW fd)
  | .mk kind fr to nul tag df of sub, h => by
    have h1 := (okK_eq h).2.2;have hP : PartM P fp sub (partW sub) := hp sub (fun f hf => (okK_eq (okAllK_mem h1 f hf)).1) (parts_allK hp hu hv hf sub h1) fun f hf h0 => by
      have := (okK_eq (okAllK_mem h1 f hf)).2.1 h0;exact hu f this.1 this.2.1 this.2.2
    exact (hf (.mk kind fr to nul tag df of sub) (partW sub) (hv sub _ hP) hP).congr fun ver flex t => (fieldW_eq _ ver flex t).symm
end
theorem part_allK {P : Program} {fp fv ff fu : FuncId} (hp : ∀ fs : List Fd, (∀ f ∈ fs, f.tag < 4294967295) → (∀ fd ∈ fs, FieldM P ff fd (fieldW fd)) → (∀ fd ∈ fs, 0 ≤ fd.tag → UsualM P fu fd) → PartM P fp fs (partW fs))
    (hu : ∀ fd : Fd, ¬ fd.kind = 0 → ¬ fd.kind = 7 → ¬ fd.kind = 10 → UsualM P fu fd)
    (hv : ∀ (fs : List Fd) (sub : Int → Bool → T → List UInt8), PartM P fp fs sub → ValueM P fv fs sub)
    (hf : ∀ (fd : Fd) (sub : Int → Bool → T → List UInt8), ValueM P fv fd.sub sub → PartM P fp fd.sub sub → FieldM P ff fd (fun ver flex t => fieldV fd.kind fd.nul fd.of (sub ver flex) ver flex t))
    (fs : List Fd) (h : okAllK fs = true) : PartM P fp fs (partW fs) :=
  hp fs (fun f hf => (okK_eq (okAllK_mem h f hf)).1) (parts_allK hp hu hv hf fs h) fun f hf h0 => by
    have := (okK_eq (okAllK_mem h f hf)).2.1 h0;exact hu f this.1 this.2.1 this.2.2
end Go.Kq

namespace Go.Kq
open Go Go.Proofs
def bodyK : List Fd → Int → Bool → List T → Nat → List UInt8
  | [], _, _, _, _ => []
  | f :: fs, ver, flex, ts, i => (if decide (f.tag < 0) && f.has ver then fieldW f ver flex (atT ts i) else []) ++ bodyK fs ver flex ts (i + 1)
def knL : List Fd → Int → Bool → List T → Nat → List (Nat × List UInt8)
  | [], _, _, _, _ => []
  | f :: fs, ver, flex, ts, i => (if decide (f.tag = 0) && !usualW f (atT ts i) then [(0, fieldW f ver flex (atT ts i))] else []) ++ knL fs ver flex ts (i + 1)
theorem bodyK_eq : ∀ (fs : List Fd) (ver : Int) (flex : Bool) (ts : List T) (j : Nat), bodyW fs ver (fieldsW fs ver flex ts j) fs.length = bodyK fs ver flex ts j
  | [], _, _, _, _ => rfl
  | f :: fs, ver, flex, ts, j => by
    have ih := bodyK_eq fs ver flex ts (j + 1);rw [bodyK, ← ih, bodyW, List.length_cons, List.range_succ_eq_map, List.flatMap_cons, List.flatMap_map, fieldsW];simp [bodyW]
theorem knL_eq : ∀ (fs : List Fd) (ver : Int) (flex : Bool) (ts us : List T) (j : Nat), us = ts.drop j →
    ((List.range fs.length).flatMap fun i => match fs[i]? with
      | some f => if decide (f.tag = ((0 : Nat) : Int)) && !usualW f (atT us i) then [((0 : Nat), (fieldsW fs ver flex ts j).getD i [])] else []
      | none => []) = knL fs ver flex ts j
  | [], _, _, _, _, _, _ => rfl
  | f :: fs, ver, flex, ts, us, j, hu => by
    have ih := knL_eq fs ver flex ts (us.drop 1) (j + 1) (by rw [hu, List.drop_drop]);have e0 : atT us 0 = atT ts j := by rw [hu]; unfold atT; rw [List.getElem?_drop]; simp
    have e1 : ∀ i, atT us (i + 1) = atT (us.drop 1) i := fun i => by unfold atT; rw [List.getElem?_drop]; congr 2; omega
    rw [knL, ← ih, List.length_cons, List.range_succ_eq_map, List.flatMap_cons, List.flatMap_map, fieldsW];simp only [List.getElem?_cons_zero, List.getElem?_cons_succ, List.getD_cons_zero, List.getD_cons_succ, e0, e1]
    congr 1
theorem partW_kn {fs : List Fd} {ver : Int} {flex : Bool} {t : T} (h : knownW fs = 1) :
    partW fs ver flex t = bodyK fs ver flex t.l 0 ++ (if flex then uvW (knL fs ver flex t.l 0 ++ unksW fs t).length ++ tagsW (knL fs ver flex t.l 0 ++ unksW fs t) else []) := by
  have hp : ∀ l : List (Nat × List UInt8), l.flatMap pairW = tagsW l := fun l => by
    simp only [tagsW, List.flatMap]; congr 1
  have hk : knownsW fs t (fieldsW fs ver flex t.l 0) = knL fs ver flex t.l 0 := by
    rw [← knL_eq fs ver flex t.l t.l 0 (by simp)];unfold knownsW;rw [h, show List.range 1 = [0] from rfl, List.flatMap_cons, List.flatMap_nil, List.append_nil]
    rfl
  rw [partW, joinW, hk, bodyK_eq]
  cases flex <;> simp [hp]
theorem uvW_le10 {n : Nat} (h : n < 18446744073709551616) : (uvW n).length ≤ 10 := uvW_le 10 n (by omega) (by simp only [Nat.reducePow]; omega)
theorem knL_len {fs : List Fd} {ver : Int} {flex : Bool} {ts : List T} {i : Nat} : (knL fs ver flex ts i).length ≤ fs.length := by
  induction fs generalizing i with
  | nil => simp [knL]
  | cons f fs ih =>
    have := ih (i := i + 1);rw [knL, List.length_append, List.length_cons]
    split <;> simp only [List.length_cons, List.length_nil] <;> omega
theorem both_le {fs : List Fd} {ver : Int} {flex : Bool} {ts : List T} {i : Nat} (h : ∀ j f, fs[j]? = some f → (fieldW f ver flex (atT ts (i + j))).length < 18446744073709551616) :
    (bodyK fs ver flex ts i).length + (tagsW (knL fs ver flex ts i)).length ≤ ((fieldsW fs ver flex ts i).map List.length).sum + 15 * fs.length := by
  induction fs generalizing i with
  | nil => simp [knL, tagsW, bodyK]
  | cons f fs ih =>
    have h1 := ih (i := i + 1) fun j g hg => by
      have := h (j + 1) g (by simpa using hg)
      rwa [show i + 1 + j = i + (j + 1) from by omega]
    have h2 := uvW_le10 (h 0 f (by simp));have h3 := uvW_le5 (n := 0) (by omega);rw [Nat.add_zero] at h2;rw [knL, bodyK, fieldsW, List.map_cons, List.sum_cons, List.length_cons];have ha : ∀ a b : List (Nat × List UInt8), tagsW (a ++ b) = tagsW a ++ tagsW b := fun a b => by simp [tagsW]
    rw [ha, List.length_append, List.length_append];have e1 : (tagsW [(0, fieldW f ver flex (atT ts i))]).length = (uvW 0).length + ((uvW (fieldW f ver flex (atT ts i)).length).length + (fieldW f ver flex (atT ts i)).length) := by simp [tagsW, tagW]
    have e2 : (tagsW []).length = 0 := rfl
    by_cases ht : f.tag < 0
    · have ht0 : ¬ f.tag = 0 := by omega
      simp only [ht0, decide_false, Bool.false_and, Bool.false_eq_true, if_false, e2]
      split
      · omega
      simp only [List.length_nil]; omega
    simp only [ht, decide_false, Bool.false_and, Bool.false_eq_true, if_false, List.length_nil]
    split
    · omega
    omega
theorem known_le {fs : List Fd} {k : Nat} : knownW fs ≤ k → ∀ f ∈ fs, f.tag < k := by
  induction fs with
  | nil => simp
  | cons g fs ih =>
    intro h f hf;rw [knownW] at h
    rcases List.mem_cons.1 hf with rfl | hf
    · split at h <;> omega
    exact ih (by split at h <;> omega) f hf
theorem knL_none {fs : List Fd} {ver : Int} {flex : Bool} {ts : List T} (h : ∀ f ∈ fs, f.tag < 0) : ∀ i, knL fs ver flex ts i = [] := by
  induction fs with
  | nil => intro i; rfl
  | cons f fs ih =>
    intro i;have := h f (by simp);rw [knL, ih (fun g hg => h g (by simp [hg])), List.append_nil, if_neg (by simp; omega)]
theorem partW_kn1 {fs : List Fd} {ver : Int} {flex : Bool} {t : T} (h : knownW fs ≤ 1) :
    partW fs ver flex t = bodyK fs ver flex t.l 0 ++ (if flex then uvW (knL fs ver flex t.l 0 ++ unksW fs t).length ++ tagsW (knL fs ver flex t.l 0 ++ unksW fs t) else []) := by
  by_cases h1 : knownW fs = 1
  · exact partW_kn h1
  have h0 : ∀ f ∈ fs, f.tag < 0 := fun f hf => by have := known_le (k := 0) (by omega) f hf; simpa using this
  have hp : ∀ l : List (Nat × List UInt8), l.flatMap pairW = tagsW l := fun l => by
    simp only [tagsW, List.flatMap]; congr 1
  have hk : knownsW fs t (fieldsW fs ver flex t.l 0) = [] := by simp [knownsW, knownW_free h0]
  rw [knL_none h0, partW, joinW, hk, bodyK_eq]
  cases flex <;> simp [hp]
mutual
/-- So many octets a piece, tags among them. -/
def kGn : Fd → Nat
  | .mk _ _ _ _ _ _ _ sub => kGs sub + 40
def kGs : List Fd → Nat
  | [] => 0
  | f :: fs => kGn f + 15 + kGs fs
end
theorem kGs_len : ∀ fs : List Fd, 15 * fs.length ≤ kGs fs
  | [] => by simp [kGs]
  | f :: fs => by have := kGs_len fs; rw [kGs, List.length_cons]; omega
mutual
/-- One tag at most, the tag nought, in every part. -/
def okB : Fd → Bool | .mk _ _ _ _ _ _ _ sub => decide (knownW sub ≤ 1) && okBl sub
def okBl : List Fd → Bool
  | [] => true
  | f :: fs => okB f && okBl fs
end
theorem fieldsW_sumG {ver : Int} {flex : Bool} {M : Nat} : ∀ {fs : List Fd} {ts : List T} {i : Nat}, (∀ f ∈ fs, ∀ y, KeysOk y → tw y ≤ M → (fieldW f ver flex y).length ≤ kGn f * tw y) → (∀ y ∈ ts, KeysOk y) → 1 + tws (ts.drop i) ≤ M → ((fieldsW fs ver flex ts i).map List.length).sum + 15 * fs.length ≤ kGs fs * (1 + tws (ts.drop i))
  | [], ts, i, _, _, _ => by simp [fieldsW]
  | f :: fs, ts, i, h, hk, hM => by
    have h3 : tw (atT ts i) + tws (ts.drop (i + 1)) ≤ 1 + tws (ts.drop i) := by
      unfold atT
      cases hi : ts[i]? with
      | none =>
        have : ts.length ≤ i := by simpa using hi
        rw [List.drop_of_length_le this, List.drop_of_length_le (by omega)];have e : tw T.zero = 1 := rfl;simp only [Option.getD_none]; rw [e]; omega
      | some y =>
        obtain ⟨hl, rfl⟩ := List.getElem?_eq_some_iff.1 hi;rw [List.drop_eq_getElem_cons hl, tws];simp only [Option.getD_some]; omega
    have hp := tw_pos (atT ts i);have h1 := fieldsW_sumG (M := M) (fs := fs) (ts := ts) (i := i + 1) (fun g hg => h g (by simp [hg])) hk (by omega);have h2 : (fieldW f ver flex (atT ts i)).length ≤ kGn f * tw (atT ts i) := h f (by simp) _ (KeysOk.at hk i) (by omega);have h4 : kGn f * tw (atT ts i) ≤ kGn f * (1 + tws (ts.drop i)) := Nat.mul_le_mul_left _ (by omega);have h5 : kGs fs * (1 + tws (ts.drop (i + 1))) ≤ kGs fs * (1 + tws (ts.drop i)) := Nat.mul_le_mul_left _ (by omega);rw [fieldsW, List.map_cons, List.sum_cons, kGs, List.length_cons, Nat.add_mul, Nat.add_mul]; omega
theorem le_sumL : ∀ {l : List Nat} {x : Nat}, x ∈ l → x ≤ l.sum
  | y :: l, x, h => by
    rw [List.sum_cons]
    rcases List.mem_cons.1 h with rfl | h
    · omega
    have := le_sumL h; omega
theorem partG_of_fields {fs : List Fd} {ver : Int} {flex : Bool} {t : T} (hf : knownW fs ≤ 1) (hk : KeysOk t) (hs : tw t ≤ 1048576) (hK : kGs fs ≤ 1048576) (h : ∀ f ∈ fs, ∀ y, KeysOk y → tw y ≤ 1048576 → (fieldW f ver flex y).length ≤ kGn f * tw y) : (partW fs ver flex t).length ≤ (kGs fs + 20) * tw t := by
  have h2 := tw_eq t;have h1 := fieldsW_sumG (i := 0) h hk.l (by rw [List.drop_zero]; omega);have hu := unks_ok (fs := fs) hk.u;rw [List.drop_zero] at h1;have h4 : kGs fs * (1 + tws t.l) ≤ kGs fs * tw t := Nat.mul_le_mul_left _ (by omega);have h6 : kGs fs * tw t ≤ 1048576 * 1048576 := Nat.mul_le_mul hK hs;have hb := both_le (fs := fs) (ver := ver) (flex := flex) (ts := t.l) (i := 0) fun j f hj => by
    have : (fieldW f ver flex (atT t.l (0 + j))).length ≤ ((fieldsW fs ver flex t.l 0).map List.length).sum := by
      rw [← fieldsW_at fs ver flex t.l 0 j f hj];rw [List.getD_eq_getElem?_getD]
      cases hx : (fieldsW fs ver flex t.l 0)[j]? with
      | none => simp
      | some x =>
        have hm := List.mem_of_getElem? hx;simp only [Option.getD_some];exact le_sumL (List.mem_map_of_mem hm)
    omega
  rw [partW_kn1 hf, List.length_append];have ha : ∀ a b : List (Nat × List UInt8), tagsW (a ++ b) = tagsW a ++ tagsW b := fun a b => by simp [tagsW]
  have h3 : (if flex then uvW (knL fs ver flex t.l 0 ++ unksW fs t).length ++ tagsW (knL fs ver flex t.l 0 ++ unksW fs t) else []).length ≤ 10 + (tagsW (knL fs ver flex t.l 0)).length + 10 * tagWt t.u := by
    split
    · have e1 := knL_len (fs := fs) (ver := ver) (flex := flex) (ts := t.l) (i := 0);have e2 := kGs_len fs;have e3 := hu.len;have := uvW_le10 (n := (knL fs ver flex t.l 0 ++ unksW fs t).length) (by rw [List.length_append]; omega);have := tagsW_le (l := unksW fs t) fun p hp => ⟨hu.key p hp, hu.few p hp⟩;have := unksW_wt (fs := fs) (t := t);have e5 : (tagsW (knL fs ver flex t.l 0 ++ unksW fs t)).length = (tagsW (knL fs ver flex t.l 0)).length + (tagsW (unksW fs t)).length := by rw [ha, List.length_append]
      rw [List.length_append, e5]; omega
    simp
  rw [Nat.add_mul]; omega
theorem tw_mem : ∀ {l : List T} {y : T}, y ∈ l → tw y ≤ tws l
  | z :: l, y, h => by
    rw [tws]
    rcases List.mem_cons.1 h with rfl | h
    · omega
    have := tw_mem h; omega
theorem fieldV_leG {kind nul of : Int} {sub : T → List UInt8} {ver : Int} {flex : Bool} {t : T} {S : Nat} (hk : KeysOk t) (hS : ∀ y, KeysOk y → tw y ≤ tw t → (sub y).length ≤ S * tw y) : (fieldV kind nul of sub ver flex t).length ≤ (S + 20) * tw t := by
  have h1 := tw_pos t;have h2 := tw_eq t;unfold fieldV
  split
  · rw [List.length_append];have h3 : (thingsW (nullW nul ver t) t).length ≤ 32767 := by unfold thingsW; split <;> simp; omega
    have h4 := counted_le (flex := flex) (null := nullW nul ver t) (size := 4) h3 (by omega);have h5 : ((thingsW (nullW nul ver t) t).flatMap (valueW of sub false flex)).length ≤ (S + 19) * ((thingsW (nullW nul ver t) t).map tw).sum := by
      refine flat_le fun y hy => ?_;have hm : y ∈ t.l := by
        unfold thingsW at hy
        split at hy
        · simp at hy
        exact List.mem_of_mem_take hy
      exact value_le (hS y (hk.l y hm) (by have := tw_mem hm; omega))
    have h6 : ((thingsW (nullW nul ver t) t).map tw).sum ≤ tws t.l := by
      unfold thingsW
      split
      · simp
      exact tws_take _ _
    have h7 := Nat.mul_le_mul_left (S + 19) (show ((thingsW (nullW nul ver t) t).map tw).sum ≤ tw t - 1 by omega);have h8 : (S + 20) * tw t = (S + 20) * (tw t - 1) + (S + 20) := by
      conv => lhs; rw [show tw t = (tw t - 1) + 1 from by omega, Nat.mul_succ]
    have h9 : (S + 20) * (tw t - 1) = (S + 19) * (tw t - 1) + (tw t - 1) := by rw [Nat.succ_mul (S + 19)]
    omega
  split
  · have := hS t hk (Nat.le_refl _);rw [Nat.add_mul]
    split
    · simp; omega
    simp only [List.length_cons]; omega
  have := value_le (kind := kind) (null := nullW nul ver t) (flex := flex) (hS t hk (Nat.le_refl _));rw [Nat.add_mul] at this ⊢;omega
mutual
theorem fieldW_leG : ∀ (f : Fd), okB f = true → kGn f ≤ 1048576 → ∀ (ver : Int) (flex : Bool) (t : T), KeysOk t → tw t ≤ 1048576 → (fieldW f ver flex t).length ≤ kGn f * tw t
  | .mk kind fr to nul tag df of sub, h, hK, ver, flex, t, hk, ht => by
    rw [okB, Bool.and_eq_true, decide_eq_true_eq] at h;rw [kGn] at hK;rw [fieldW_eq, kGn];exact fieldV_leG (S := kGs sub + 20) hk fun y hy hty => partG_of_fields h.1 hy (by omega) (show kGs sub ≤ 1048576 by omega) (fieldsW_leG sub h.2 (by omega) ver flex)
theorem fieldsW_leG : ∀ (fs : List Fd), okBl fs = true → kGs fs ≤ 1048576 → ∀ (ver : Int) (flex : Bool), ∀ f ∈ fs, ∀ y, KeysOk y → tw y ≤ 1048576 → (fieldW f ver flex y).length ≤ kGn f * tw y
  | [], _, _, _, _, f, hf => by simp at hf
  | g :: fs, h, hK, ver, flex, f, hf => by
    rw [okBl, Bool.and_eq_true] at h;rw [kGs] at hK;intro y hy hty
    by_cases e : f = g
    · rw [e]; exact fieldW_leG g h.1 (by omega) ver flex y hy hty
    exact fieldsW_leG fs h.2 (by omega) ver flex f (by rcases List.mem_cons.1 hf with hf | hf; exact absurd hf e; exact hf) y hy hty
end
theorem small_ofK {fs : List Fd} {t : T} (hf : (decide (knownW fs ≤ 1) && okBl fs) = true) (hk : KeysOk t) (hw : tw t ≤ 1048576) (hK : kGs fs + 20 ≤ 2048) : KeysOk t ∧ ∀ ver flex, (partW fs ver flex t).length ≤ 2147483648 := by
  rw [Bool.and_eq_true, decide_eq_true_eq] at hf;refine ⟨hk, fun ver flex => ?_⟩;have h1 := partG_of_fields (ver := ver) (flex := flex) hf.1 hk hw (by omega) (fieldsW_leG fs hf.2 (by omega) ver flex);have h2 := Nat.mul_le_mul hK hw;omega
end Go.Kq

namespace Go.Kq
open Go Go.Proofs
structure Leaf (P : Program) (f : FuncId) (ty : Ty) (g : V → List UInt8) : Prop where
  one : ty.size = 1
  call : ∀ (e : AE) (cv : Value) (x : V), Rep e.w0 e.B ty [cv] x → CallOk P e f cv (g x)
theorem Leaf.int {P : Program} {f : FuncId} {kd : IntKind} {sz : Nat} (h : ApI P f kd sz) : Leaf P f (.int kd) (apInt sz) :=
  ⟨rfl, fun e cv x hr => by obtain ⟨i, hi, rfl, h1, h2⟩ := hr; simp at hi; subst hi; exact CallOk.int h h1 h2⟩
theorem Leaf.str {P : Program} {f : FuncId} {g : V → List UInt8} (h : ApV P f .str g) : Leaf P f .str g := ⟨rfl, fun _ _ _ hr => CallOk.val h hr⟩
theorem tags_small {x : V} (h : (apTags x).length < 4294967296) : (tagsT x).length < 4294967296 := by
  have := tagsW_len (tagsT x);simp only [apTags, List.length_append] at h;omega
section
variable {P : Program} {N n n2 n3 n4 m s L R id id1 id2 id3 id4 b0 b1 pb po fi o : Nat} {e : AE} {c : Ctx} {k k1 k2 : Code} {ty : Ty} {g g1 g2 : V → List UInt8} {S T : TypeId}
  {t0 t1 t2 t3 t4 t5 t6 t7 t8 t9 : TypeId} {p0 p1 p2 p3 p4 p5 p6 p7 p8 p9 : String} {e0 e1 e2 e3 e4 e5 e6 e7 e8 e9 : Array Edge}
theorem af_load (hs : (s, Value.pointer (some ⟨pb, po, none⟩)) ∈ c) (hF : fieldOf P S fi o = true) (hT : scal P T = true) (hB : e.B pb) (h1 : ty.size = 1)
    (hb : (c.free n [L, 1] && decide (L < n) && decide (1 < n) && decide (n + 3 < N) && decide (L ≠ 1)) = true) (h : ∀ cv x, Rep e.w0 e.B ty [cv] x → ApC P N e ((L, cv) :: c) k (g x)) {x : V} (hx : FA e pb (po + o) ty x) :
    ApC P N e c (.seq (Code.region id ⟨[oM n s t0 p0 e0, ⟨some (n + 1), .nilCheck (.tmp n), t1, p1, e1, none⟩, oF (n + 2) S (n + 1) fi t2 p2 e2, oL (n + 3) T (n + 2) t3 p3 e3,
      oT L (n + 3) t4 p4 e4]⟩ false) k) (g x) := by
  obtain ⟨cv, hc, hr⟩ := hx.one h1;exact ApC.load hs hF hT hc hB hb (h cv x hr)
theorem ak_call {cv : Value} {x : V} {f : FuncId} {ats : Array TypeId} (hf : Leaf P f ty g) (hr : Rep e.w0 e.B ty [cv] x) (hL : (L, cv) ∈ c) (hb : (c.free n [1] && decide (1 < n) && decide (n + 2 < N)) = true) :
    ApC P N e c (Code.region id ⟨[oM n 1 t0 p0 e0, oM (n + 1) L t1 p1 e1, oC (n + 2) f #[.tmp n, .tmp (n + 1)] ats t2 p2 e2, oT 1 (n + 2) t3 p3 e3]⟩ false) (g x) :=
  ApC.call hL (hf.call e cv x hr) hb
theorem ak_len {t : Ty} {cv : Value} {x : V} {f : FuncId} {ats : Array TypeId} {lg : Nat → List UInt8} (hf : ApL P f lg) (hr : Rep e.w0 e.B (.arr t) [cv] x) (hn : x.items.length < 4294967295) (hL : (L, cv) ∈ c) (hT : slTy P T = true) (hb : (c.free n [1] && decide (1 < n) && decide (n + 3 < N)) = true) :
    ApC P N e c (Code.region id ⟨[oM n 1 t0 p0 e0, oM (n + 1) L t1 p1 e1, ⟨some (n + 2), .call ⟨.builtin .len, #[.tmp (n + 1)], #[T]⟩, t2, p2, e2, none⟩,
      oC (n + 3) f #[.tmp n, .tmp (n + 2)] ats t3 p3 e3, oT 1 (n + 3) t4 p4 e4]⟩ false) (lg x.items.length) := by
  obtain ⟨q, cap, rfl, _, _, _⟩ := arr_cell hr;exact ApC.len hL hT (CallOk.len hf hn) hb
theorem ak_loop {t : Ty} {cv : Value} {x : V} {TI TI' TI2 TI3 : TypeId} {m' q' : Nat} {body : Code} (hr : Rep e.w0 e.B (.arr t) [cv] x) (hL : (L, cv) ∈ c) (hT : slTy P T = true)
    (hb : (c.free n [1] && decide (1 < n) && decide (n + 2 < N) && decide (n + 3 ≤ m') && decide (m' < N) && decide (n + 3 ≤ q') && decide (q' < N)) = true)
    (h : ∀ (i : Nat) (y : V) (b o ln cap : Nat), i < ln → (L, Value.slice (some ⟨b, o, none⟩) ln cap) ∈ c → e.B b → FA e b (o + i * t.size) t y → ApC P N e ((n + 2, .int .i64 i) :: (n + 1, .int .i64 ln) :: c) body (g y)) :
    ApC P N e c (.seq (Code.region id ⟨[oM n L t0 p0 e0, ⟨some (n + 1), .call ⟨.builtin .len, #[.tmp n], #[T]⟩, t1, p1, e1, none⟩, ⟨some (n + 2), .move (.const (.int .i64 0)), t2, p2, e2, none⟩]⟩ false) (.block b0 (.loop (.seq (Code.region id1 ⟨[⟨some m', .binOp .lss TI (.tmp (n + 2)) (.tmp (n + 1)) TI', t3, p3, e3, none⟩]⟩ false) (.seq (.cond (.tmp m') .skip (.exit b0)) (.seq (.block b1 body) (Code.region id2 ⟨[⟨some q', .binOp .add TI2 (.tmp (n + 2)) (.const (.int .i64 1)) TI3, t4, p4, e4, none⟩, ⟨some (n + 2), .move (.tmp q'), t5, p5, e5, none⟩]⟩ false))))))) (x.items.map g).flatten := by
  obtain ⟨q, cap, rfl, _, hl, hel⟩ := arr_cell hr;refine ApC.loop hL hT hl hb fun i y hy => ?_;have hil : i < x.items.length := (List.getElem?_eq_some_iff.1 hy).1;obtain ⟨qa, rfl⟩ : ∃ qa, q = some qa := by
    cases q with
    | some qa => exact ⟨qa, rfl⟩
    | none => cases x <;> simp_all [V.isNil, V.items]
  obtain ⟨b, o, rfl, hB, hels⟩ := hel _ rfl;obtain ⟨es, h1, _, h2⟩ := hels i y hy;exact h i y b o _ cap hil hL hB ⟨es, h1, h2⟩
theorem ak_small {x : V} {t : Ty} {cv : Value} {lg : List UInt8} {ys : List UInt8} (hg : x.items.length ≤ ys.length) (h : x.items.length < 4294967295 → ApC P N e c k (lg ++ ys)) (hl : 1 ≤ lg.length) : ApC P N e c k (lg ++ ys) := by
  refine ApC.fits fun hf => h ?_;rw [List.length_append] at hf;omega
theorem ApS.st {tys : List Ty} {gs : List (V → List UInt8)} (h : ApS P N e c k pb o tys gs) {x : V} (hx : FA e pb o (.st tys) x) : ApC P N e c k (apSt gs x) := by
  obtain ⟨cs, h1, xs, rfl, h2⟩ := hx;exact h xs ⟨cs, h1, h2⟩
end
end Go.Kq

namespace Go.Kq
open Go
def Fat (ty : Ty) (g : V → List UInt8) : Prop := ∀ (w : World) (A : Nat → Prop) (cs : List Value) (x : V), Rep w A ty cs x → 1 ≤ (g x).length
def FatL (tys : List Ty) (gs : List (V → List UInt8)) : Prop := ∀ (w : World) (A : Nat → Prop) (cs : List Value) (xs : List V), Reps w A tys cs xs → 1 ≤ (apAll gs xs).length
theorem fat_any {ty : Ty} {g : V → List UInt8} (h : ∀ x, 1 ≤ (g x).length) : Fat ty g := fun _ _ _ x _ => h x
theorem fat_int {k : IntKind} {sz : Nat} (h : 0 < sz) : Fat (.int k) (apInt sz) := by
  rintro w A cs x ⟨i, _, rfl, _⟩;simp only [apInt, fxL]; omega
theorem apStr_pos (x : V) : 1 ≤ (apStr x).length := by simp only [apStr, List.length_append, fxL]; omega
theorem apCStr_pos (x : V) : 1 ≤ (apCStr x).length := by have := uvW_pos (x.octs.length + 1); simp only [apCStr, List.length_append]; omega
theorem apLen_pos (n : Nat) : 1 ≤ (apLen n).length := by simp only [apLen, fxL]; omega
theorem apCLen_pos (n : Nat) : 1 ≤ (apCLen n).length := uvW_pos _
theorem two_pos {b : Bool} {l1 l2 : List UInt8} (h1 : 1 ≤ l1.length) (h2 : 1 ≤ l2.length) : 1 ≤ (if b then l1 else l2).length := by cases b <;> simpa
theorem app_pos {l1 l2 : List UInt8} (h1 : 1 ≤ l1.length) : 1 ≤ (l1 ++ l2).length := by rw [List.length_append]; omega
theorem fat_two {ty : Ty} {b : Bool} {g1 g2 : V → List UInt8} (h1 : Fat ty g1) (h2 : Fat ty g2) : Fat ty (fun x => if b then g1 x else g2 x) := by
  intro w A cs x h;exact two_pos (h1 w A cs x h) (h2 w A cs x h)
theorem fatl_head {ty : Ty} {tys : List Ty} {g : V → List UInt8} {gs : List (V → List UInt8)} (h : Fat ty g) : FatL (ty :: tys) (g :: gs) := by
  rintro w A cs xs ⟨c1, c2, x, r, rfl, rfl, h1, h2⟩;exact app_pos (h w A c1 x h1)
theorem fatl_tail {ty : Ty} {tys : List Ty} {g : V → List UInt8} {gs : List (V → List UInt8)} (h : FatL tys gs) : FatL (ty :: tys) (g :: gs) := by
  rintro w A cs xs ⟨c1, c2, x, r, rfl, rfl, h1, h2⟩;have := h w A c2 r h2;show 1 ≤ (g x ++ apAll gs r).length
  rw [List.length_append]; omega
theorem fat_st {tys : List Ty} {gs : List (V → List UInt8)} (h : FatL tys gs) : Fat (.st tys) (apSt gs) := by
  rintro w A cs x ⟨xs, rfl, h1⟩;exact h w A cs xs h1
theorem ak_items {w : World} {A : Nat → Prop} {t : Ty} {g : V → List UInt8} {cv : Value} {x : V} (hr : Rep w A (.arr t) [cv] x) (h : Fat t g) : x.items.length ≤ (x.items.map g).flatten.length := by
  have h1 := flatten_len (os := x.items.map g) (by
    intro o ho;obtain ⟨y, hy, rfl⟩ := List.mem_map.1 ho
    rcases hr with ⟨_, rfl⟩ | ⟨b, o, cap, xs, _, _, _, rfl, hel⟩
    · simp [V.items] at hy
    · obtain ⟨i, hi⟩ := List.getElem?_of_mem hy;obtain ⟨es, _, _, h2⟩ := hel i y hi;exact h w A es y h2)
  simpa using h1
end Go.Kq

namespace Go.Kq
open Go
section
variable {ver : Int} {fl : Bool} {y t : T} {fr to nul tag df of : Int} {sub : List Fd}
theorem invb_cons {f : Fd} {fs : List Fd} {r g : Rd} {a : V → List UInt8} {gs : List (V → List UInt8)} {ts : List T} {i : Nat} {tl : List UInt8} (h1 : Inv r ver fl a (if f.has ver then fieldW f ver fl (atT ts i) else [])) (h2 : InvL g ver fl gs (bodyL fs ver fl ts (i + 1) ++ tl)) :
    InvL (rdCons r g) ver fl (a :: gs) (bodyL (f :: fs) ver fl ts i ++ tl) := by
  rw [bodyL, List.append_assoc]; exact invl_cons h1 h2
theorem invb_nil {g : Rd} {gs : List (V → List UInt8)} {ts : List T} {i : Nat} {tl : List UInt8} (h : InvL g ver fl gs tl) : InvL g ver fl gs (bodyL [] ver fl ts i ++ tl) := h
theorem inv_tagend {fs : List Fd} (hk : KeysOk t) : InvL (rdCons rdTagsF rdSt0) ver fl [fun x => if fl then apTags x else []] (if fl then uvW (unksW fs t).length ++ tagsW (unksW fs t) else []) := by
  have h := invl_cons (inv_tagsF (fl := fl) (ver := ver) fun _ => unks_ok (fs := fs) hk.u) invl_nil
  rwa [List.append_nil] at h
theorem inv_part {fs : List Fd} {g : Rd} {gs : List (V → List UInt8)} (hf : freeFs fs = true) (h : InvL g ver fl gs (bodyL fs ver fl t.l 0 ++ (if fl then uvW (unksW fs t).length ++ tagsW (unksW fs t) else []))) : InvL g ver fl gs (partW fs ver fl t) := by
  rw [partW_flat (freeFs_tag hf)]; exact h
theorem inv_has {f : Fd} {r : Rd} {a : V → List UInt8} (hh : f.has ver = true) (h : Inv r ver fl a (fieldW f ver fl y)) : Inv r ver fl a (if f.has ver then fieldW f ver fl y else []) := by rw [if_pos hh]; exact h
theorem inv_gate {f : Fd} {r : Rd} {a : V → List UInt8} {p : Int → Bool} {dv : V} (hp : f.has ver = p ver) (h : Inv r ver fl a (fieldW f ver fl y)) : Inv (rdIf p dv r) ver fl (fun x => if p ver then a x else []) (if f.has ver then fieldW f ver fl y else []) := by
  rw [hp]; exact inv_if fun _ => h
theorem has_all {kind : Int} (hv : 0 ≤ ver) (h1 : fr ≤ 0) (h2 : to < 0) : Fd.has (.mk kind fr to nul tag df of sub) ver = true := by
  show (decide (fr ≤ ver) && (decide (to < 0) || decide (ver ≤ to))) = true
  simp only [Bool.and_eq_true, Bool.or_eq_true, decide_eq_true_eq]; omega
theorem has_ge {kind : Int} (h2 : to < 0) : Fd.has (.mk kind fr to nul tag df of sub) ver = decide (ver ≥ fr) := by
  show (decide (fr ≤ ver) && (decide (to < 0) || decide (ver ≤ to))) = _
  rw [Bool.eq_iff_iff];simp only [Bool.and_eq_true, Bool.or_eq_true, decide_eq_true_eq]; omega
theorem uuidW_len (s : List UInt8) : (uuidW s).length = 16 := by simp only [uuidW, List.length_append, List.length_take, List.length_replicate]; omega
theorem invf_i16 : Inv (rdOne fun _ _ => gNum .i16 2) ver fl (apInt 2) (fieldW (.mk 2 fr to nul tag df of sub) ver fl y) := by rw [fieldW_eq, show Fd.kind (.mk 2 fr to nul tag df of sub) = 2 from rfl, fieldV_i16]; exact inv_i16
theorem invf_i32 : Inv (rdOne fun _ _ => gNum .i32 4) ver fl (apInt 4) (fieldW (.mk 3 fr to nul tag df of sub) ver fl y) := by rw [fieldW_eq, show Fd.kind (.mk 3 fr to nul tag df of sub) = 3 from rfl, fieldV_i32]; exact inv_i32
theorem invf_u16 : Inv (rdOne fun _ _ => gNum .u16 2) ver fl (apInt 2) (fieldW (.mk 5 fr to nul tag df of sub) ver fl y) := by rw [fieldW_eq, show Fd.kind (.mk 5 fr to nul tag df of sub) = 5 from rfl, fieldV_u16]; exact inv_u16
theorem invf_str (hn : nul < 0) : Inv (rdOne fun _ fl st => if fl then gCStr st else gStr st) ver fl (fun x => if fl then apCStr x else apStr x) (fieldW (.mk 8 fr to nul tag df of sub) ver fl y) := by
  rw [fieldW_eq, show Fd.kind (.mk 8 fr to nul tag df of sub) = 8 from rfl, fieldV_str (nullW_no (show Fd.nul (.mk 8 fr to nul tag df of sub) < 0 from hn))]; exact inv_two (fun _ => inv_cstr (wholeS_len _)) (fun _ => inv_str (wholeS_len _))
theorem invf_arr {ge : Rd} {ga : V → List UInt8} (hn : nul < 0) (he : ∀ z ∈ y.l, Inv ge ver fl ga (valueW of (partW sub ver fl) false fl z)) (h1 : ∀ z, 1 ≤ (valueW of (partW sub ver fl) false fl z).length) :
    Inv (rdArr (fun _ fl st => if fl then gCALen st else gALen st) ge) ver fl (fun x => (if fl then apCLen x.items.length else apLen x.items.length) ++ (x.items.map ga).flatten) (fieldW (.mk 11 fr to nul tag df of sub) ver fl y) := by
  have e : fieldW (.mk 11 fr to nul tag df of sub) ver fl y = (if fl then uvW ((y.l.take 32767).length + 1) else fxW (y.l.take 32767).length 4) ++ ((y.l.take 32767).map (valueW of (partW sub ver fl) false fl)).flatten := by
    rw [fieldW_eq];have h0 : nullW nul ver y = false := nullW_no hn;show fieldV 11 nul of (partW sub ver fl) ver fl y = _
    simp only [fieldV, if_true, h0, thingsW, List.flatMap]
    cases fl <;> simp [countedW]
  rw [e];have hl : (y.l.take 32767).length ≤ 32767 := by simp; omega
  refine inv_arr (la := fun n => if fl then apCLen n else apLen n) ?_ ?_ ?_ ?_
  · rw [List.length_map]
    cases fl
    · exact len_fixed hl
    exact len_uv hl
  · rw [List.length_map]; cases fl <;> rfl
  · intro o ho;obtain ⟨z, hz, rfl⟩ := List.mem_map.1 ho;exact he z (List.mem_of_mem_take hz)
  intro o ho;obtain ⟨z, hz, rfl⟩ := List.mem_map.1 ho;exact h1 z
theorem inv_el {ge : Rd} {gs : List (V → List UInt8)} {s : T → List UInt8} (h : InvL ge ver fl gs (s y)) : Inv ge ver fl (apSt gs) (valueW 10 s false fl y) := by
  have e : valueW 10 s false fl y = s y := by simp [valueW]
  rw [e]; exact inv_st h
theorem counted_pos {null : Bool} {n size : Nat} (h : 0 < size) : 1 ≤ (countedW fl null n size).length := by
  unfold countedW
  split
  · simp
  split
  · exact uvW_pos _
  split <;> simp only [fxL] <;> omega
theorem widthW_pos (k : Int) : 0 < widthW k := by unfold widthW; repeat' split <;> try omega
theorem value_pos {kind : Int} {s : T → List UInt8} {null : Bool} (h : kind ≠ 10) : 1 ≤ (valueW kind s null fl y).length := by
  unfold valueW
  split
  · simp
  split
  · rw [uuidW_len]; omega
  split
  · exact app_pos (counted_pos (by omega))
  split
  · exact app_pos (counted_pos (by omega))
  rw [fxL]; exact widthW_pos kind
theorem value_pos10 {s : T → List UInt8} {null : Bool} (h : 1 ≤ (s y).length) : 1 ≤ (valueW 10 s null fl y).length := by
  have e : valueW 10 s null fl y = s y := by simp [valueW]
  rw [e]; exact h
theorem fieldW_pos {kind : Int} (h : kind ≠ 10) : 1 ≤ (fieldW (.mk kind fr to nul tag df of sub) ver fl y).length := by
  rw [fieldW_eq];show 1 ≤ (fieldV kind nul of (partW sub ver fl) ver fl y).length
  unfold fieldV
  split
  · exact app_pos (counted_pos (by omega))
  rw [if_neg (by intro e; exact h e.1)]; exact value_pos h
theorem body_head {f : Fd} {fs : List Fd} {ts : List T} {i : Nat} (hh : f.has ver = true) (h : 1 ≤ (fieldW f ver fl (atT ts i)).length) : 1 ≤ (bodyL (f :: fs) ver fl ts i).length := by
  rw [bodyL, if_pos hh]; exact app_pos h
theorem part_pos {fs : List Fd} (hf : freeFs fs = true) (h : 1 ≤ (bodyL fs ver fl t.l 0).length) : 1 ≤ (partW fs ver fl t).length := by
  rw [partW_flat (freeFs_tag hf)]; exact app_pos h
end
end Go.Kq

namespace Go.Kq
open Go Go.Proofs
def wholeOf : Value → Value
  | .slice (some ⟨g, o, none⟩) _ cap => .slice (some ⟨g, 0, none⟩) 0 (o + cap)
  | _ => .slice none 0 0
def AE.whole (e : AE) : Prop := ∀ r ∈ spare e.d0 1, r.lo = 0
theorem whole_in {w : World} {A : Nat → Prop} {n : Nat} {v : Value} {xs : List Value} (h : Own w A 1 v n xs) : ∀ r ∈ spare (wholeOf v) 1, A r.b := by
  obtain ⟨_, ⟨rfl, _⟩ | ⟨g, o, cap, hg, rfl, _⟩⟩ := h
  · simp [wholeOf, spare]
  simp [wholeOf, spare]; exact hg
theorem whole_sp {w : World} {A : Nat → Prop} {n : Nat} {v : Value} {xs : List Value} (h : Own w A 1 v n xs) : ∀ r ∈ spare v 1, r.In (spare (wholeOf v) 1) w := by
  obtain ⟨_, ⟨rfl, _⟩ | ⟨g, o, cap, hg, rfl, _⟩⟩ := h
  · simp [spare]
  intro r hr;simp [spare] at hr
  subst hr;exact .inr ⟨⟨g, 0, o + cap⟩, by simp [wholeOf, spare], rfl, Nat.zero_le _, by simp⟩
theorem whole_lo (v : Value) : ∀ r ∈ spare (wholeOf v) 1, r.lo = 0 := by
  unfold wholeOf
  split
  · simp [spare]
  simp [spare]
theorem ASt.cut {e : AE} {xs : List UInt8} {q : Option Addr} {n cap l : Nat} {w : World} (hw : e.whole) (h : ASt e xs (.slice q n cap) w) (hl : l ≤ xs.length) : ASt e (xs.take l) (.slice q l cap) w := by
  refine ⟨h.ok, h.fr, ?_, ?_⟩
  · obtain ⟨h1, ⟨hv, h0⟩ | ⟨g, o, cap', hg, hv, hc, hm, hr, ht⟩⟩ := h.own
    · cases hv
      have : l = 0 := by omega
      subst this;exact ⟨by simp [octets], .inl ⟨rfl, by simp⟩⟩
    cases hv
    refine ⟨by simp [octets], .inr ⟨g, o, cap, hg, by simp [hl], by simp; omega, hm, ?_, ht⟩⟩;have : octets xs = octets (xs.take l) ++ octets (xs.drop l) := by rw [← octets_append, List.take_append_drop]
    rw [this, range_append] at hr;exact hr.1
  intro r hr;have hin := h.inn;obtain ⟨_, ⟨hv, h0⟩ | ⟨g, o, cap', hg, hv, hc, hm, _, ht⟩⟩ := h.own
  · cases hv; simp [spare] at hr
  cases hv
  simp [spare] at hr
  subst hr;have := hin ⟨g, o + xs.length * 1, o + cap * 1⟩ (by simp [spare])
  rcases this with h2 | ⟨y, hy, e1, _, e3⟩
  · exact .inl h2
  exact .inr ⟨y, hy, e1, by rw [hw y hy]; exact Nat.zero_le _, by simpa using e3⟩
structure AppMW (P : Program) (f : FuncId) (ty : Ty) (g : V → List UInt8) (ver : Int) : Prop where
  enters : Enters P f
  call : ∀ (w : World) (A B : Nat → Prop) (pb po : Nat) (cs : List Value) (xs0 : List V) (dst : Value) (xs : List UInt8), w.rangeAt pb po cs → Rep w B ty cs (.l (.n ver :: xs0)) → B pb → Own w A 1 dst xs.length (octets xs) →
    (∀ b, A b → ¬ B b) → (∀ b, B b → b < w.heap.size) → (∀ b, A b → b < w.heap.size) → (xs ++ g (.l (.n ver :: xs0))).length < 4294967296 →
    Calls P f #[.pointer (some ⟨pb, po, none⟩), dst] w fun e w' => ∃ u, e = .returned u ∧ Fr (spare (wholeOf dst) 1) w w' ∧ Own w' (fun b => A b ∨ (w.heap.size ≤ b ∧ b < w'.heap.size)) 1 u (xs ++ g (.l (.n ver :: xs0))).length (octets (xs ++ g (.l (.n ver :: xs0))))
end Go.Kq
