/- A part of the library: rules of reasoning about the program's operations and what its shared functions do. -/
import Derived.Test.YtnfigjjpdhhfjaaGreatDoorKqP04
import Derived.Test.YtnfigjjpdhhfjaaGreatDoorKqP03
import Derived.Test.YtnfigjjpdhhfjaaGreatDoorKqP02
import Derived.Test.YtnfigjjpdhhfjaaGreatDoorKqP01
import Derived.Below
import Derived.ChangeSame
import Derived.ChangeSlices
import Derived.ChangeArms
import Derived.LaidLaws
import Derived.OpenShut
import Derived.WideKeyArgs
import Derived.WalkKit
import Derived.ProofKit
set_option linter.unusedVariables false
set_option linter.unusedSimpArgs false
namespace Go.Kq
open Go Go.Proofs
structure Z1S (P:Program) (f:FuncId) (fd:Fd):Prop where
  enters:Enters P f
  call:∀ (w:World) (A B:Nat→Prop) (cs ct:List Value) (t:T),RepF w A cs fd→RepT w B ct t→Calls P f #[.agg cs.toArray,.agg ct.toArray] w fun e w'=>e = .returned (.bool (ZG fd t))∧Fr [] w w'
theorem Z0Q (fd:Fd) (t:T):ZG fd t=if fd.kind=0 then decide (t.n % 2=fd.df) else if fd.kind=7 then (t.s.take 16).all (·==0) else if fd.kind=8∨fd.kind=9 then (if fd.nul≥0 then t.nl else t.s.isEmpty)
    else if fd.kind=11 then t.l.isEmpty else if fd.kind=10 then Z5O fd.sub t.l 0 && (Zy fd.sub t.u).isEmpty else decide (fxW t.n (Zg fd.kind)=fxW fd.df (Zg fd.kind)):=by
  cases fd with
  | mk kind fr to nul tag df of sub=>rw[ZG];rfl
theorem Z2H (k:Int):Zg k≤8:=by unfold Zg;(repeat' split) <;> decide
set_option maxHeartbeats 4000000 in
theorem usualw_m {P:Program} {f:FuncId} {fn:Func} {T2 T3 T4 T5 T22 T23 T24 T26 T29 T45:TypeId} {f13 f56 f58 f60 f94 f95:FuncId} {ct0:Array TypeId} {ct1:Array TypeId} {ct2:Array TypeId} {ct3:Array TypeId} {ct4:Array TypeId} {ct5:Array TypeId} {ct6:Array TypeId} {ct7:Array TypeId} {i0 i1 i2 i3 i4 i5 i6 i7 i8 i9 i10 i11 i12 i13 i14 i15 i16 i17 i18 i19 i20 i21 i22 i23 i24 i25 i26 i27:Nat} {t0 t1 t2 t3 t4 t5 t6 t7 t8 t9 t10 t11 t12 t13 t14 t15 t16 t17 t18 t19 t20 t21 t22 t23 t24 t25 t26 t27 t28 t29 t30 t31 t32 t33 t34 t35 t36 t37 t38 t39 t40 t41 t42 t43 t44 t45 t46 t47 t48 t49 t50 t51 t52 t53 t54 t55 t56 t57 t58 t59 t60 t61 t62 t63 t64 t65 t66 t67 t68 t69 t70 t71 t72 t73 t74 t75 t76 t77 t78 t79 t80 t81 t82 t83 t84 t85 t86 t87 t88 t89 t90 t91 t92 t93 t94 t95 t96 t97 t98 t99 t100 t101:TypeId} {p0 p1 p2 p3 p4 p5 p6 p7 p8 p9 p10 p11 p12 p13 p14 p15 p16 p17 p18 p19 p20 p21 p22 p23 p24 p25 p26 p27 p28 p29 p30 p31 p32 p33 p34 p35 p36 p37 p38 p39 p40 p41 p42 p43 p44 p45 p46 p47 p48 p49 p50 p51 p52 p53 p54 p55 p56 p57 p58 p59 p60 p61 p62 p63 p64 p65 p66 p67 p68 p69 p70 p71 p72 p73 p74 p75 p76 p77 p78 p79 p80 p81 p82 p83 p84 p85 p86 p87 p88 p89 p90 p91 p92 p93 p94 p95 p96 p97 p98 p99 p100 p101:String} {e0 e1 e2 e3 e4 e5 e6 e7 e8 e9 e10 e11 e12 e13 e14 e15 e16 e17 e18 e19 e20 e21 e22 e23 e24 e25 e26 e27 e28 e29 e30 e31 e32 e33 e34 e35 e36 e37 e38 e39 e40 e41 e42 e43 e44 e45 e46 e47 e48 e49 e50 e51 e52 e53 e54 e55 e56 e57 e58 e59 e60 e61 e62 e63 e64 e65 e66 e67 e68 e69 e70 e71 e72 e73 e74 e75 e76 e77 e78 e79 e80 e81 e82 e83 e84 e85 e86 e87 e88 e89 e90 e91 e92 e93 e94 e95 e96 e97 e98 e99 e100 e101:Array Edge} {fd:Fd}
    (hf:P.funcs[f]?=some fn) (hname:nG fn=false) (hres:fn.results = #[.tmp 4]) (hN:fn.ntmps=91)
    (hbody:fn.body=some (.seq (Code.region i0 ⟨[⟨some 2,.box T45 (.tmp 0),t0,p0,e0,none⟩,⟨some 3,.box T26 (.tmp 1),t1,p1,e1,none⟩,
    oA 4 (.const (.bool false)) t2 p2 e2]⟩ false) (.seq (.seq (Code.region i1 ⟨[oF 9 T45 2 0 t3 p3 e3,
    oL 10 T3 9 t4 p4 e4]⟩ false) (.block 0 (.seq (Code.region i2 ⟨[⟨some 12,.binOp .eql T3 (.tmp 10) (.const (.int .i64 0)) T3,t5,p5,e5,none⟩,
    oT 11 12 t6 p6 e6]⟩ false) (.cond (.tmp 11) (.seq (Code.region i3 ⟨[oF 13 T26 3 0 t7 p7 e7,
    oL 14 T2 13 t8 p8 e8,⟨some 15,.binOp .and T2 (.tmp 14) (.const (.int .i64 1)) T2,t9,p9,e9,none⟩,
    oF 16 T45 2 5 t10 p10 e10,
    oL 17 T2 16 t11 p11 e11,⟨some 18,.binOp .eql T2 (.tmp 15) (.tmp 17) T2,t12,p12,e12,none⟩,
    oT 4 18 t13 p13 e13]⟩ false) .ret) (.seq (Code.region i4 ⟨[⟨some 20,.binOp .eql T3 (.tmp 10) (.const (.int .i64 7)) T3,t14,p14,e14,none⟩,
    oT 19 20 t15 p15 e15]⟩ false) (.cond (.tmp 19) (.seq (.seq (Code.region i5 ⟨[oF 21 T26 3 1 t16 p16 e16,
    oL 22 T22 21 t17 p17 e17,⟨some 23,.call ⟨.builtin .len,#[(.tmp 22)],#[T22]⟩,t18,p18,e18,none⟩,⟨some 24,.move (.const (.int .i64 0)),t19,p19,e19,none⟩]⟩ false) (.block 1 (.loop (.seq (Code.region i6 ⟨[⟨some 25,.binOp .lss T3 (.tmp 24) (.tmp 23) T3,t20,p20,e20,none⟩]⟩ false) (.seq (.cond (.tmp 25) .skip
  (.exit 1)) (.seq (.block 2 (.seq (Code.region i7 ⟨[oM 26 24 t21 p21 e21,⟨some 27,.indexAddr T22 (.tmp 22) (.tmp 24),t22,p22,e22,none⟩,
    oL 28 T5 27 t23 p23 e23,
    oT 5 26 t24 p24 e24,
    oT 6 28 t25 p25 e25]⟩ false) (.seq (Code.region i8 ⟨[oM 29 5 t26 p26 e26,⟨some 30,.binOp .lss T3 (.tmp 29) (.const (.int .i64 16)) T3,t27,p27,e27,none⟩,
    oM 31 30 t28 p28 e28,⟨some 32,.move (.tmp 6),t29,p29,e29,some (2,true)⟩,⟨some 33,.binOp .neq T5 (.tmp 32) (.const (.int .u8 0)) T5,t30,p30,e30,some (2,true)⟩,⟨some 34,.pick (.tmp 31) (.tmp 33) (.const (.bool false)),t31,p31,e31,none⟩]⟩ false) (.cond (.tmp 34) (.seq (Code.region i9 ⟨[oA 4 (.const (.bool false)) t32 p32 e32]⟩ false) .ret) .skip))))
  (Code.region i10 ⟨[⟨some 35,.binOp .add T3 (.tmp 24) (.const (.int .i64 1)) T3,t33,p33,e33,none⟩,
    oM 24 35 t34 p34 e34]⟩ false))))))) (.seq (Code.region i11 ⟨[oA 4 (.const (.bool true)) t35 p35 e35]⟩ false) .ret)) (.seq (.seq (Code.region i12 ⟨[⟨some 37,.binOp .eql T3 (.tmp 10) (.const (.int .i64 8)) T3,t36,p36,e36,none⟩,
    oT 36 37 t37 p37 e37]⟩ false) (.cond (.tmp 36) .skip
  (Code.region i13 ⟨[⟨some 38,.binOp .eql T3 (.tmp 10) (.const (.int .i64 9)) T3,t38,p38,e38,none⟩,
    oT 36 38 t39 p39 e39]⟩ false))) (.cond (.tmp 36) (.seq (.seq (Code.region i14 ⟨[oF 39 T45 2 3 t40 p40 e40,
    oL 40 T3 39 t41 p41 e41,⟨some 41,.binOp .geq T3 (.tmp 40) (.const (.int .i64 0)) T3,t42,p42,e42,none⟩]⟩ false) (.cond (.tmp 41) (.seq (Code.region i15 ⟨[oF 42 T26 3 2 t43 p43 e43,
    oL 43 T4 42 t44 p44 e44,
    oT 4 43 t45 p45 e45]⟩ false) .ret) .skip)) (.seq (Code.region i16 ⟨[oF 44 T26 3 1 t46 p46 e46,
    oL 45 T22 44 t47 p47 e47,⟨some 46,.call ⟨.builtin .len,#[(.tmp 45)],#[T22]⟩,t48,p48,e48,none⟩,⟨some 47,.binOp .eql T3 (.tmp 46) (.const (.int .i64 0)) T3,t49,p49,e49,none⟩,
    oT 4 47 t50 p50 e50]⟩ false) .ret)) (.seq (Code.region i17 ⟨[⟨some 49,.binOp .eql T3 (.tmp 10) (.const (.int .i64 11)) T3,t51,p51,e51,none⟩,
    oT 48 49 t52 p52 e52]⟩ false) (.cond (.tmp 48) (.seq (Code.region i18 ⟨[oF 50 T26 3 3 t53 p53 e53,
    oL 51 T23 50 t54 p54 e54,⟨some 52,.call ⟨.builtin .len,#[(.tmp 51)],#[T23]⟩,t55,p55,e55,none⟩,⟨some 53,.binOp .eql T3 (.tmp 52) (.const (.int .i64 0)) T3,t56,p56,e56,none⟩,
    oT 4 53 t57 p57 e57]⟩ false) .ret) (.seq (Code.region i19 ⟨[⟨some 55,.binOp .eql T3 (.tmp 10) (.const (.int .i64 10)) T3,t58,p58,e58,none⟩,
    oT 54 55 t59 p59 e59]⟩ false) (.cond (.tmp 54) (.seq (.seq (Code.region i20 ⟨[oF 56 T45 2 7 t60 p60 e60,
    oL 57 T29 56 t61 p61 e61,⟨some 58,.call ⟨.builtin .len,#[(.tmp 57)],#[T29]⟩,t62,p62,e62,none⟩,⟨some 59,.move (.const (.int .i64 0)),t63,p63,e63,none⟩]⟩ false) (.block 3 (.loop (.seq (Code.region i21 ⟨[⟨some 60,.binOp .lss T3 (.tmp 59) (.tmp 58) T3,t64,p64,e64,none⟩]⟩ false) (.seq (.cond (.tmp 60) .skip
  (.exit 3)) (.seq (.block 4 (.seq (Code.region i22 ⟨[oM 61 59 t65 p65 e65,⟨some 62,.indexAddr T29 (.tmp 57) (.tmp 59),t66,p66,e66,none⟩,
    oL 63 T45 62 t67 p67 e67,⟨some 8,.alloc T45,t68,p68,e68,none⟩,
    oT 7 61 t69 p69 e69,
    oS T45 8 63 t70 p70 e70]⟩ false) (.seq (Code.region i23 ⟨[oL 64 T45 8 t71 p71 e71,
    oL 65 T26 3 t72 p72 e72,
    oM 66 7 t73 p73 e73,
    oC 67 f56 #[(.tmp 65),(.tmp 66)] ct0 t74 p74 e74,
    oC 68 f58 #[(.tmp 64),(.tmp 67)] ct1 t75 p75 e75,⟨some 69,.unOp .not T4 (.tmp 68),t76,p76,e76,none⟩]⟩ true) (.cond (.tmp 69) (.seq (Code.region i24 ⟨[oA 4 (.const (.bool false)) t77 p77 e77]⟩ false) .ret) .skip))))
  (Code.region i25 ⟨[⟨some 70,.binOp .add T3 (.tmp 59) (.const (.int .i64 1)) T3,t78,p78,e78,none⟩,
    oM 59 70 t79 p79 e79]⟩ false))))))) (.seq (Code.region i26 ⟨[oF 71 T45 2 7 t80 p80 e80,
    oL 72 T29 71 t81 p81 e81,
    oF 73 T26 3 4 t82 p82 e82,
    oL 74 T24 73 t83 p83 e83,
    oC 75 f60 #[(.tmp 72),(.tmp 74)] ct2 t84 p84 e84,⟨some 76,.call ⟨.builtin .len,#[(.tmp 75)],#[T24]⟩,t85,p85,e85,none⟩,⟨some 77,.binOp .eql T3 (.tmp 76) (.const (.int .i64 0)) T3,t86,p86,e86,none⟩,
    oT 4 77 t87 p87 e87]⟩ false) .ret)) .skip)))))))))))) (.seq (Code.region i27 ⟨[oF 78 T26 3 0 t88 p88 e88,
    oL 79 T2 78 t89 p89 e89,
    oF 80 T45 2 0 t90 p90 e90,
    oL 81 T3 80 t91 p91 e91,
    oC 82 f95 #[(.tmp 81)] ct3 t92 p92 e92,
    oC 83 f94 #[(.tmp 79),(.tmp 82)] ct4 t93 p93 e93,
    oF 84 T45 2 5 t94 p94 e94,
    oL 85 T2 84 t95 p95 e95,
    oF 86 T45 2 0 t96 p96 e96,
    oL 87 T3 86 t97 p97 e97,
    oC 88 f95 #[(.tmp 87)] ct5 t98 p98 e98,
    oC 89 f94 #[(.tmp 85),(.tmp 88)] ct6 t99 p99 e99,
    oC 90 f13 #[(.tmp 83),(.tmp 89)] ct7 t100 p100 e100,
    oT 4 90 t101 p101 e101]⟩ true) .ret))))
    (hFlT45:Flat P T45 zF) (hcT3:scal P T3=true) (hFlT26:Flat P T26 zT) (hcT4:scal P T4=true) (hcT22:scal P T22=true) (hsT22:slTy P T22=true) (hcT23:scal P T23=true) (hsT23:slTy P T23=true) (hcT2:scal P T2=true) (he27:Z0q 0 [e88,e89,e90,e91,e92,e93,e94,e95,e96,e97,e98,e99,e100,e101] [[],[0],[],[2],[3],[1,4],[],[6],[],[8],[9],[7,10],[5,11],[0,1,2,3,4,5,6,7,8,9,10,11,12]]=true) (hmx:P.follows .mixedOrders=true) (h0:¬ fd.kind=0) (h7:¬ fd.kind=7) (h10:¬ fd.kind=10) (hFx:FixM P f94) (hWi:Z6K P f95) (hSa:Z8z P f13):Z1S P f fd:=by
  refine ⟨enters_of hf hname hbody,?_⟩;intro w A B cs ct t hr ht
  cases t with
  | mk n s nl l u =>
  obtain ⟨sv,lv,uv,rfl,hn,hs,hl,hu⟩:=Z0x.1 ht;obtain ⟨fsv,rfl,hsub⟩:=ZO.1 hr;obtain ⟨sq,scap,rfl,-,-,-⟩:=hs.slice2;obtain ⟨lq,lcap,rfl,-,-,-⟩:=hl.sl2;refine calls_of_wp hf hbody ?_;generalize ha0:({ tmps:=#[Value.agg ([.int .i64 fd.kind,.int .i64 fd.fr,.int .i64 fd.to,.int .i64 fd.nul,.int .i64 fd.tag,.int .i64 fd.df,.int .i64 fd.of,fsv]:List Value).toArray,Value.agg ([.int .i64 n,.slice sq s.length scap,.bool nl,.slice lq l.length lcap,uv]:List Value).toArray]++Array.replicate (fn.ntmps - (#[Value.agg ([.int .i64 fd.kind,.int .i64 fd.fr,.int .i64 fd.to,.int .i64 fd.nul,.int .i64 fd.tag,.int .i64 fd.df,.int .i64 fd.of,fsv]:List Value).toArray,Value.agg ([.int .i64 n,.slice sq s.length scap,.bool nl,.slice lq l.length lcap,uv]:List Value).toArray]:Array Value).size) undef,defers:=[] }:Act)=a0;have hz0:a0.tmps.size=91:=by subst ha0;simp[hN]
  have hd0:a0.defers=[]:=by subst ha0;rfl
  have g0_0:get a0 0 = .agg ([.int .i64 fd.kind,.int .i64 fd.fr,.int .i64 fd.to,.int .i64 fd.nul,.int .i64 fd.tag,.int .i64 fd.df,.int .i64 fd.of,fsv]:List Value).toArray:=by subst ha0;exact gAr rfl
  have g0_1:get a0 1 = .agg ([.int .i64 n,.slice sq s.length scap,.bool nl,.slice lq l.length lcap,uv]:List Value).toArray:=by subst ha0;exact gAr rfl
  refine wT fun K1 hK1=>?_;refine wC (ZL (cs:=[.int .i64 fd.kind,.int .i64 fd.fr,.int .i64 fd.to,.int .i64 fd.nul,.int .i64 fd.tag,.int .i64 fd.df,.int .i64 fd.of,fsv]) (eK g0_0) ?_);rintro w2 f2 sz2 r2 th2;have hF3:Fr [] w w2:=f2;refine wC (ZL (cs:=[.int .i64 n,.slice sq s.length scap,.bool nl,.slice lq l.length lcap,uv]) (eK g0_1) ?_);rintro w4 f4 sz4 r4 th4;have hF5:Fr [] w w4:=hF3.tr f4;have rb6:=f4.range r2 .nil;refine wC (wAs (v:=.bool false) rfl ?_);refine wEk hz0 hd0 fun a7 ha7 hz7 hd7=>?_;have g7_2:get a7 2 = .pointer (some ⟨w.heap.size,0,none⟩):=kG ha7 hz0;have g7_3:get a7 3 = .pointer (some ⟨w2.heap.size,0,none⟩):=kG ha7 hz0;refine hK1 a7 w4 (tUp ?_);refine tId (wp_seq_k fun K8 hK8=>?_);refine wS fun K9 hK9=>?_;refine wC (wFa (b:=w.heap.size) (i:=0) (hFlT45.fld (by decide)) (eK g7_2) ?_);rw[show (0+0:Nat)=0 from rfl];refine wC (wL0 (j:=0) (v:=.int .i64 fd.kind) hcT3 (eS hz7) rb6 rfl ?_);refine wEk hz7 hd7 fun a10 ha10 hz10 hd10=>?_;have g10_2:=kP ha10 g7_2;have g10_3:=kP ha10 g7_3;have g10_10:get a10 10 = .int .i64 fd.kind:=kG ha10 hz7
  by_cases h8:fd.kind=8∨fd.kind=9
  · by_cases h8' : fd.kind = 8
    · by_cases hnn : fd.nul ≥ 0
      · refine hK9 a10 w4 ?_;refine Zj ?_;refine wS fun K11 hK11 => ?_;refine wC (ZQ (k1 := .i64) (i := fd.kind) (j := 0) h0 (eK g10_10) rfl ?_);refine wC (wAs (v := .bool false) (eS hz10) ?_);refine wEk hz10 hd10 fun a12 ha12 hz12 hd12 => ?_;have g12_2 := kP ha12 g10_2;have g12_3 := kP ha12 g10_3;have g12_10 := kP ha12 g10_10;have g12_11 : get a12 11 = .bool false := kG ha12 hz10;refine hK11 a12 w4 ?_;refine wp_cond_split (t := false) (eK g12_11) (fun h => by cases h) (fun _ => ?_);refine wS fun K14 hK14 => ?_;refine wC (ZQ (k1 := .i64) (i := fd.kind) (j := 7) h7 (eK g12_10) rfl ?_);refine wC (wAs (v := .bool false) (eS hz12) ?_);refine wEk hz12 hd12 fun a15 ha15 hz15 hd15 => ?_;have g15_2 := kP ha15 g12_2;have g15_3 := kP ha15 g12_3;have g15_10 := kP ha15 g12_10;have g15_19 : get a15 19 = .bool false := kG ha15 hz12;refine hK14 a15 w4 ?_;refine wp_cond_split (t := false) (eK g15_19) (fun h => by cases h) (fun _ => ?_);refine wp_seq_k fun K17 hK17 => ?_;refine wS fun K18 hK18 => ?_;refine wC (Z11 (k1 := .i64) (i := fd.kind) (j := 8) h8' (eK g15_10) rfl ?_);refine wC (wAs (v := .bool true) (eS hz15) ?_);refine wEk hz15 hd15 fun a19 ha19 hz19 hd19 => ?_;have g19_2 := kP ha19 g15_2;have g19_3 := kP ha19 g15_3;have g19_36 : get a19 36 = .bool true := kG ha19 hz15;refine hK18 a19 w4 ?_;refine wp_cond_split (t := true) (eK g19_36) (fun _ => ?_) (fun h => by cases h);refine wp_skip ?_;refine hK17 a19 w4 ?_;refine wp_cond_split (t := true) (eK g19_36) (fun _ => ?_) (fun h => by cases h);refine wp_seq_k fun K22 hK22 => ?_;refine wS fun K23 hK23 => ?_;refine wC (wFa (b := w.heap.size) (i := 0) (hFlT45.fld (by decide)) (eK g19_2) ?_);rw [show (0 + 3 : Nat) = 3 from rfl];refine wC (wL0 (j := 3) (v := .int .i64 fd.nul) hcT3 (eS hz19) rb6 rfl ?_);refine wC (Z2r (k1 := .i64) (i := fd.nul) (j := 0) hnn (eS hz19) rfl ?_);refine wEk hz19 hd19 fun a24 ha24 hz24 hd24 => ?_;have g24_3 := kP ha24 g19_3;have g24_41 : get a24 41 = .bool true := kG ha24 hz19;refine hK23 a24 w4 ?_;refine wp_cond_split (t := true) (eK g24_41) (fun _ => ?_) (fun h => by cases h);refine wS fun K26 hK26 => ?_;refine wC (wFa (b := w2.heap.size) (i := 0) (hFlT26.fld (by decide)) (eK g24_3) ?_);rw [show (0 + 2 : Nat) = 2 from rfl];refine wC (wL0 (j := 2) (v := .bool nl) hcT4 (eS hz24) r4 rfl ?_);refine wC (wAs (v := .bool nl) (eS hz24) ?_);refine wEk hz24 hd24 fun a27 ha27 hz27 hd27 => ?_;have g27_4 : get a27 4 = .bool nl := kG ha27 hz24;refine hK26 a27 w4 ?_;refine wp_ret ?_;have hW : ZG fd (.mk n s nl l u) = (nl) := by rw [Z0Q, if_neg h0, if_neg h7, if_pos h8, if_pos hnn]; rfl
        exact ⟨hd27,_,rIs hres g27_4,by rw[hW],hF5⟩
      refine hK9 a10 w4 ?_;refine Zj ?_;refine wS fun K28 hK28=>?_;refine wC (ZQ (k1:=.i64) (i:=fd.kind) (j:=0) h0 (eK g10_10) rfl ?_);refine wC (wAs (v:=.bool false) (eS hz10) ?_);refine wEk hz10 hd10 fun a29 ha29 hz29 hd29=>?_;have g29_2:=kP ha29 g10_2;have g29_3:=kP ha29 g10_3;have g29_10:=kP ha29 g10_10;have g29_11:get a29 11 = .bool false:=kG ha29 hz10;refine hK28 a29 w4 ?_;refine wp_cond_split (t:=false) (eK g29_11) (fun h=>by cases h) (fun _=>?_);refine wS fun K31 hK31=>?_;refine wC (ZQ (k1:=.i64) (i:=fd.kind) (j:=7) h7 (eK g29_10) rfl ?_);refine wC (wAs (v:=.bool false) (eS hz29) ?_);refine wEk hz29 hd29 fun a32 ha32 hz32 hd32=>?_;have g32_2:=kP ha32 g29_2;have g32_3:=kP ha32 g29_3;have g32_10:=kP ha32 g29_10;have g32_19:get a32 19 = .bool false:=kG ha32 hz29;refine hK31 a32 w4 ?_;refine wp_cond_split (t:=false) (eK g32_19) (fun h=>by cases h) (fun _=>?_);refine wp_seq_k fun K34 hK34=>?_;refine wS fun K35 hK35=>?_;refine wC (Z11 (k1:=.i64) (i:=fd.kind) (j:=8) h8' (eK g32_10) rfl ?_);refine wC (wAs (v:=.bool true) (eS hz32) ?_);refine wEk hz32 hd32 fun a36 ha36 hz36 hd36=>?_;have g36_2:=kP ha36 g32_2;have g36_3:=kP ha36 g32_3;have g36_36:get a36 36 = .bool true:=kG ha36 hz32;refine hK35 a36 w4 ?_;refine wp_cond_split (t:=true) (eK g36_36) (fun _=>?_) (fun h=>by cases h);refine wp_skip ?_;refine hK34 a36 w4 ?_;refine wp_cond_split (t:=true) (eK g36_36) (fun _=>?_) (fun h=>by cases h);refine wp_seq_k fun K39 hK39=>?_;refine wS fun K40 hK40=>?_;refine wC (wFa (b:=w.heap.size) (i:=0) (hFlT45.fld (by decide)) (eK g36_2) ?_);rw[show (0+3:Nat)=3 from rfl];refine wC (wL0 (j:=3) (v:=.int .i64 fd.nul) hcT3 (eS hz36) rb6 rfl ?_);refine wC (Z38 (k1:=.i64) (i:=fd.nul) (j:=0) hnn (eS hz36) rfl ?_);refine wEk hz36 hd36 fun a41 ha41 hz41 hd41=>?_;have g41_3:=kP ha41 g36_3;have g41_41:get a41 41 = .bool false:=kG ha41 hz36;refine hK40 a41 w4 ?_;refine wp_cond_split (t:=false) (eK g41_41) (fun h=>by cases h) (fun _=>?_);refine wp_skip ?_;refine hK39 a41 w4 ?_;refine wS fun K43 hK43=>?_;refine wC (wFa (b:=w2.heap.size) (i:=0) (hFlT26.fld (by decide)) (eK g41_3) ?_);rw[show (0+1:Nat)=1 from rfl];refine wC (wL0 (j:=1) (v:=.slice sq s.length scap) hcT22 (eS hz41) r4 rfl ?_);refine wC (Zs (n:=s.length) hsT22 (eS hz41) ?_);refine wC (Z0i (k1:=.i64) (i:=((s.length:Nat):Int)) (j:=0) (eS hz41) rfl ?_);refine wC (wAs (v:=.bool ((((s.length:Nat):Int):Int)==(0:Int))) (eS hz41) ?_);refine wEk hz41 hd41 fun a44 ha44 hz44 hd44=>?_;have g44_4:get a44 4 = .bool ((((s.length:Nat):Int):Int)==(0:Int)):=kG ha44 hz41;refine hK43 a44 w4 ?_;refine wp_ret ?_;have hW:ZG fd (.mk n s nl l u)=(((((s.length:Nat):Int):Int)==(0:Int))):=by rw[Z0Q,if_neg h0,if_neg h7,if_pos h8,if_neg hnn];cases s <;> rfl
      exact ⟨hd44,_,rIs hres g44_4,by rw[hW],hF5⟩
    have h9:fd.kind=9:=by omega
    by_cases hnn:fd.nul≥0
    · refine hK9 a10 w4 ?_;refine Zj ?_;refine wS fun K45 hK45 => ?_;refine wC (ZQ (k1 := .i64) (i := fd.kind) (j := 0) h0 (eK g10_10) rfl ?_);refine wC (wAs (v := .bool false) (eS hz10) ?_);refine wEk hz10 hd10 fun a46 ha46 hz46 hd46 => ?_;have g46_2 := kP ha46 g10_2;have g46_3 := kP ha46 g10_3;have g46_10 := kP ha46 g10_10;have g46_11 : get a46 11 = .bool false := kG ha46 hz10;refine hK45 a46 w4 ?_;refine wp_cond_split (t := false) (eK g46_11) (fun h => by cases h) (fun _ => ?_);refine wS fun K48 hK48 => ?_;refine wC (ZQ (k1 := .i64) (i := fd.kind) (j := 7) h7 (eK g46_10) rfl ?_);refine wC (wAs (v := .bool false) (eS hz46) ?_);refine wEk hz46 hd46 fun a49 ha49 hz49 hd49 => ?_;have g49_2 := kP ha49 g46_2;have g49_3 := kP ha49 g46_3;have g49_10 := kP ha49 g46_10;have g49_19 : get a49 19 = .bool false := kG ha49 hz46;refine hK48 a49 w4 ?_;refine wp_cond_split (t := false) (eK g49_19) (fun h => by cases h) (fun _ => ?_);refine wp_seq_k fun K51 hK51 => ?_;refine wS fun K52 hK52 => ?_;refine wC (ZQ (k1 := .i64) (i := fd.kind) (j := 8) h8' (eK g49_10) rfl ?_);refine wC (wAs (v := .bool false) (eS hz49) ?_);refine wEk hz49 hd49 fun a53 ha53 hz53 hd53 => ?_;have g53_2 := kP ha53 g49_2;have g53_3 := kP ha53 g49_3;have g53_10 := kP ha53 g49_10;have g53_36 : get a53 36 = .bool false := kG ha53 hz49;refine hK52 a53 w4 ?_;refine wp_cond_split (t := false) (eK g53_36) (fun h => by cases h) (fun _ => ?_);refine Z2 ?_;refine wC (Z11 (k1 := .i64) (i := fd.kind) (j := 9) h9 (eK g53_10) rfl ?_);refine wC (wAs (v := .bool true) (eS hz53) ?_);refine wEk hz53 hd53 fun a55 ha55 hz55 hd55 => ?_;have g55_2 := kP ha55 g53_2;have g55_3 := kP ha55 g53_3;have g55_36 : get a55 36 = .bool true := kG ha55 hz53;refine hK51 a55 w4 ?_;refine wp_cond_split (t := true) (eK g55_36) (fun _ => ?_) (fun h => by cases h);refine wp_seq_k fun K57 hK57 => ?_;refine wS fun K58 hK58 => ?_;refine wC (wFa (b := w.heap.size) (i := 0) (hFlT45.fld (by decide)) (eK g55_2) ?_);rw [show (0 + 3 : Nat) = 3 from rfl];refine wC (wL0 (j := 3) (v := .int .i64 fd.nul) hcT3 (eS hz55) rb6 rfl ?_);refine wC (Z2r (k1 := .i64) (i := fd.nul) (j := 0) hnn (eS hz55) rfl ?_);refine wEk hz55 hd55 fun a59 ha59 hz59 hd59 => ?_;have g59_3 := kP ha59 g55_3;have g59_41 : get a59 41 = .bool true := kG ha59 hz55;refine hK58 a59 w4 ?_;refine wp_cond_split (t := true) (eK g59_41) (fun _ => ?_) (fun h => by cases h);refine wS fun K61 hK61 => ?_;refine wC (wFa (b := w2.heap.size) (i := 0) (hFlT26.fld (by decide)) (eK g59_3) ?_);rw [show (0 + 2 : Nat) = 2 from rfl];refine wC (wL0 (j := 2) (v := .bool nl) hcT4 (eS hz59) r4 rfl ?_);refine wC (wAs (v := .bool nl) (eS hz59) ?_);refine wEk hz59 hd59 fun a62 ha62 hz62 hd62 => ?_;have g62_4 : get a62 4 = .bool nl := kG ha62 hz59;refine hK61 a62 w4 ?_;refine wp_ret ?_;have hW : ZG fd (.mk n s nl l u) = (nl) := by rw [Z0Q, if_neg h0, if_neg h7, if_pos h8, if_pos hnn]; rfl
      exact ⟨hd62,_,rIs hres g62_4,by rw[hW],hF5⟩
    refine hK9 a10 w4 ?_;refine Zj ?_;refine wS fun K63 hK63=>?_;refine wC (ZQ (k1:=.i64) (i:=fd.kind) (j:=0) h0 (eK g10_10) rfl ?_);refine wC (wAs (v:=.bool false) (eS hz10) ?_);refine wEk hz10 hd10 fun a64 ha64 hz64 hd64=>?_;have g64_2:=kP ha64 g10_2;have g64_3:=kP ha64 g10_3;have g64_10:=kP ha64 g10_10;have g64_11:get a64 11 = .bool false:=kG ha64 hz10;refine hK63 a64 w4 ?_;refine wp_cond_split (t:=false) (eK g64_11) (fun h=>by cases h) (fun _=>?_);refine wS fun K66 hK66=>?_;refine wC (ZQ (k1:=.i64) (i:=fd.kind) (j:=7) h7 (eK g64_10) rfl ?_);refine wC (wAs (v:=.bool false) (eS hz64) ?_);refine wEk hz64 hd64 fun a67 ha67 hz67 hd67=>?_;have g67_2:=kP ha67 g64_2;have g67_3:=kP ha67 g64_3;have g67_10:=kP ha67 g64_10;have g67_19:get a67 19 = .bool false:=kG ha67 hz64;refine hK66 a67 w4 ?_;refine wp_cond_split (t:=false) (eK g67_19) (fun h=>by cases h) (fun _=>?_);refine wp_seq_k fun K69 hK69=>?_;refine wS fun K70 hK70=>?_;refine wC (ZQ (k1:=.i64) (i:=fd.kind) (j:=8) h8' (eK g67_10) rfl ?_);refine wC (wAs (v:=.bool false) (eS hz67) ?_);refine wEk hz67 hd67 fun a71 ha71 hz71 hd71=>?_;have g71_2:=kP ha71 g67_2;have g71_3:=kP ha71 g67_3;have g71_10:=kP ha71 g67_10;have g71_36:get a71 36 = .bool false:=kG ha71 hz67;refine hK70 a71 w4 ?_;refine wp_cond_split (t:=false) (eK g71_36) (fun h=>by cases h) (fun _=>?_);refine Z2 ?_;refine wC (Z11 (k1:=.i64) (i:=fd.kind) (j:=9) h9 (eK g71_10) rfl ?_);refine wC (wAs (v:=.bool true) (eS hz71) ?_);refine wEk hz71 hd71 fun a73 ha73 hz73 hd73=>?_;have g73_2:=kP ha73 g71_2;have g73_3:=kP ha73 g71_3;have g73_36:get a73 36 = .bool true:=kG ha73 hz71;refine hK69 a73 w4 ?_;refine wp_cond_split (t:=true) (eK g73_36) (fun _=>?_) (fun h=>by cases h);refine wp_seq_k fun K75 hK75=>?_;refine wS fun K76 hK76=>?_;refine wC (wFa (b:=w.heap.size) (i:=0) (hFlT45.fld (by decide)) (eK g73_2) ?_);rw[show (0+3:Nat)=3 from rfl];refine wC (wL0 (j:=3) (v:=.int .i64 fd.nul) hcT3 (eS hz73) rb6 rfl ?_);refine wC (Z38 (k1:=.i64) (i:=fd.nul) (j:=0) hnn (eS hz73) rfl ?_);refine wEk hz73 hd73 fun a77 ha77 hz77 hd77=>?_;have g77_3:=kP ha77 g73_3;have g77_41:get a77 41 = .bool false:=kG ha77 hz73;refine hK76 a77 w4 ?_;refine wp_cond_split (t:=false) (eK g77_41) (fun h=>by cases h) (fun _=>?_);refine wp_skip ?_;refine hK75 a77 w4 ?_;refine wS fun K79 hK79=>?_;refine wC (wFa (b:=w2.heap.size) (i:=0) (hFlT26.fld (by decide)) (eK g77_3) ?_);rw[show (0+1:Nat)=1 from rfl];refine wC (wL0 (j:=1) (v:=.slice sq s.length scap) hcT22 (eS hz77) r4 rfl ?_);refine wC (Zs (n:=s.length) hsT22 (eS hz77) ?_);refine wC (Z0i (k1:=.i64) (i:=((s.length:Nat):Int)) (j:=0) (eS hz77) rfl ?_);refine wC (wAs (v:=.bool ((((s.length:Nat):Int):Int)==(0:Int))) (eS hz77) ?_);refine wEk hz77 hd77 fun a80 ha80 hz80 hd80=>?_;have g80_4:get a80 4 = .bool ((((s.length:Nat):Int):Int)==(0:Int)):=kG ha80 hz77;refine hK79 a80 w4 ?_;refine wp_ret ?_;have hW:ZG fd (.mk n s nl l u)=(((((s.length:Nat):Int):Int)==(0:Int))):=by rw[Z0Q,if_neg h0,if_neg h7,if_pos h8,if_neg hnn];cases s <;> rfl
    exact ⟨hd80,_,rIs hres g80_4,by rw[hW],hF5⟩
  by_cases h11:fd.kind=11
  · refine hK9 a10 w4 ?_;refine Zj ?_;refine wS fun K81 hK81 => ?_;refine wC (ZQ (k1 := .i64) (i := fd.kind) (j := 0) h0 (eK g10_10) rfl ?_);refine wC (wAs (v := .bool false) (eS hz10) ?_);refine wEk hz10 hd10 fun a82 ha82 hz82 hd82 => ?_;have g82_3 := kP ha82 g10_3;have g82_10 := kP ha82 g10_10;have g82_11 : get a82 11 = .bool false := kG ha82 hz10;refine hK81 a82 w4 ?_;refine wp_cond_split (t := false) (eK g82_11) (fun h => by cases h) (fun _ => ?_);refine wS fun K84 hK84 => ?_;refine wC (ZQ (k1 := .i64) (i := fd.kind) (j := 7) h7 (eK g82_10) rfl ?_);refine wC (wAs (v := .bool false) (eS hz82) ?_);refine wEk hz82 hd82 fun a85 ha85 hz85 hd85 => ?_;have g85_3 := kP ha85 g82_3;have g85_10 := kP ha85 g82_10;have g85_19 : get a85 19 = .bool false := kG ha85 hz82;refine hK84 a85 w4 ?_;refine wp_cond_split (t := false) (eK g85_19) (fun h => by cases h) (fun _ => ?_);refine wp_seq_k fun K87 hK87 => ?_;refine wS fun K88 hK88 => ?_;refine wC (ZQ (k1 := .i64) (i := fd.kind) (j := 8) (by omega) (eK g85_10) rfl ?_);refine wC (wAs (v := .bool false) (eS hz85) ?_);refine wEk hz85 hd85 fun a89 ha89 hz89 hd89 => ?_;have g89_3 := kP ha89 g85_3;have g89_10 := kP ha89 g85_10;have g89_36 : get a89 36 = .bool false := kG ha89 hz85;refine hK88 a89 w4 ?_;refine wp_cond_split (t := false) (eK g89_36) (fun h => by cases h) (fun _ => ?_);refine Z2 ?_;refine wC (ZQ (k1 := .i64) (i := fd.kind) (j := 9) (by omega) (eK g89_10) rfl ?_);refine wC (wAs (v := .bool false) (eS hz89) ?_);refine wEk hz89 hd89 fun a91 ha91 hz91 hd91 => ?_;have g91_3 := kP ha91 g89_3;have g91_10 := kP ha91 g89_10;have g91_36 : get a91 36 = .bool false := kG ha91 hz89;refine hK87 a91 w4 ?_;refine wp_cond_split (t := false) (eK g91_36) (fun h => by cases h) (fun _ => ?_);refine wS fun K93 hK93 => ?_;refine wC (Z11 (k1 := .i64) (i := fd.kind) (j := 11) h11 (eK g91_10) rfl ?_);refine wC (wAs (v := .bool true) (eS hz91) ?_);refine wEk hz91 hd91 fun a94 ha94 hz94 hd94 => ?_;have g94_3 := kP ha94 g91_3;have g94_48 : get a94 48 = .bool true := kG ha94 hz91;refine hK93 a94 w4 ?_;refine wp_cond_split (t := true) (eK g94_48) (fun _ => ?_) (fun h => by cases h);refine wS fun K96 hK96 => ?_;refine wC (wFa (b := w2.heap.size) (i := 0) (hFlT26.fld (by decide)) (eK g94_3) ?_);rw [show (0 + 3 : Nat) = 3 from rfl];refine wC (wL0 (j := 3) (v := .slice lq l.length lcap) hcT23 (eS hz94) r4 rfl ?_);refine wC (Zs (n := l.length) hsT23 (eS hz94) ?_);refine wC (Z0i (k1 := .i64) (i := ((l.length : Nat) : Int)) (j := 0) (eS hz94) rfl ?_);refine wC (wAs (v := .bool ((((l.length : Nat) : Int) : Int) == (0 : Int))) (eS hz94) ?_);refine wEk hz94 hd94 fun a97 ha97 hz97 hd97 => ?_;have g97_4 : get a97 4 = .bool ((((l.length : Nat) : Int) : Int) == (0 : Int)) := kG ha97 hz94;refine hK96 a97 w4 ?_;refine wp_ret ?_;have hW : ZG fd (.mk n s nl l u) = (((((l.length : Nat) : Int) : Int) == (0 : Int))) := by rw [Z0Q, if_neg h0, if_neg h7, if_neg h8, if_pos h11]; cases l <;> rfl
    exact ⟨hd97,_,rIs hres g97_4,by rw[hW],hF5⟩
  refine hK9 a10 w4 ?_;refine Zj ?_;refine wS fun K98 hK98=>?_;refine wC (ZQ (k1:=.i64) (i:=fd.kind) (j:=0) h0 (eK g10_10) rfl ?_);refine wC (wAs (v:=.bool false) (eS hz10) ?_);refine wEk hz10 hd10 fun a99 ha99 hz99 hd99=>?_;have g99_2:=kP ha99 g10_2;have g99_3:=kP ha99 g10_3;have g99_10:=kP ha99 g10_10;have g99_11:get a99 11 = .bool false:=kG ha99 hz10;refine hK98 a99 w4 ?_;refine wp_cond_split (t:=false) (eK g99_11) (fun h=>by cases h) (fun _=>?_);refine wS fun K101 hK101=>?_;refine wC (ZQ (k1:=.i64) (i:=fd.kind) (j:=7) h7 (eK g99_10) rfl ?_);refine wC (wAs (v:=.bool false) (eS hz99) ?_);refine wEk hz99 hd99 fun a102 ha102 hz102 hd102=>?_;have g102_2:=kP ha102 g99_2;have g102_3:=kP ha102 g99_3;have g102_10:=kP ha102 g99_10;have g102_19:get a102 19 = .bool false:=kG ha102 hz99;refine hK101 a102 w4 ?_;refine wp_cond_split (t:=false) (eK g102_19) (fun h=>by cases h) (fun _=>?_);refine wp_seq_k fun K104 hK104=>?_;refine wS fun K105 hK105=>?_;refine wC (ZQ (k1:=.i64) (i:=fd.kind) (j:=8) (by omega) (eK g102_10) rfl ?_);refine wC (wAs (v:=.bool false) (eS hz102) ?_);refine wEk hz102 hd102 fun a106 ha106 hz106 hd106=>?_;have g106_2:=kP ha106 g102_2;have g106_3:=kP ha106 g102_3;have g106_10:=kP ha106 g102_10;have g106_36:get a106 36 = .bool false:=kG ha106 hz102;refine hK105 a106 w4 ?_;refine wp_cond_split (t:=false) (eK g106_36) (fun h=>by cases h) (fun _=>?_);refine Z2 ?_;refine wC (ZQ (k1:=.i64) (i:=fd.kind) (j:=9) (by omega) (eK g106_10) rfl ?_);refine wC (wAs (v:=.bool false) (eS hz106) ?_);refine wEk hz106 hd106 fun a108 ha108 hz108 hd108=>?_;have g108_2:=kP ha108 g106_2;have g108_3:=kP ha108 g106_3;have g108_10:=kP ha108 g106_10;have g108_36:get a108 36 = .bool false:=kG ha108 hz106;refine hK104 a108 w4 ?_;refine wp_cond_split (t:=false) (eK g108_36) (fun h=>by cases h) (fun _=>?_);refine wS fun K110 hK110=>?_;refine wC (ZQ (k1:=.i64) (i:=fd.kind) (j:=11) h11 (eK g108_10) rfl ?_);refine wC (wAs (v:=.bool false) (eS hz108) ?_);refine wEk hz108 hd108 fun a111 ha111 hz111 hd111=>?_;have g111_2:=kP ha111 g108_2;have g111_3:=kP ha111 g108_3;have g111_10:=kP ha111 g108_10;have g111_48:get a111 48 = .bool false:=kG ha111 hz108;refine hK110 a111 w4 ?_;refine wp_cond_split (t:=false) (eK g111_48) (fun h=>by cases h) (fun _=>?_);refine wS fun K113 hK113=>?_;refine wC (ZQ (k1:=.i64) (i:=fd.kind) (j:=10) h10 (eK g111_10) rfl ?_);refine wC (wAs (v:=.bool false) (eS hz111) ?_);refine wEk hz111 hd111 fun a114 ha114 hz114 hd114=>?_;have g114_2:=kP ha114 g111_2;have g114_3:=kP ha114 g111_3;have g114_54:get a114 54 = .bool false:=kG ha114 hz111;refine hK113 a114 w4 ?_;refine wp_cond_split (t:=false) (eK g114_54) (fun h=>by cases h) (fun _=>?_);refine wp_skip ?_;refine hK8 a114 w4 (tUp ?_);refine tId (wp_seq_k fun K116 hK116=>?_);refine Z0V (os:=[oF 78 T26 3 0 t88 p88 e88,oL 79 T2 78 t89 p89 e89,oF 80 T45 2 0 t90 p90 e90,oL 81 T3 80 t91 p91 e91,oC 82 f95 #[(.tmp 81)] ct3 t92 p92 e92,oC 83 f94 #[(.tmp 79),(.tmp 82)] ct4 t93 p93 e93,oF 84 T45 2 5 t94 p94 e94,oL 85 T2 84 t95 p95 e95,oF 86 T45 2 0 t96 p96 e96,oL 87 T3 86 t97 p97 e97,oC 88 f95 #[(.tmp 87)] ct5 t98 p98 e98,oC 89 f94 #[(.tmp 85),(.tmp 88)] ct6 t99 p99 e99,oC 90 f13 #[(.tmp 83),(.tmp 89)] ct7 t100 p100 e100]) (rest:=[oT 4 90 t101 p101 e101]) [spC [] (.pointer (some ⟨w2.heap.size,0,none⟩)),spC [0] (.int .i64 n),spC [] (.pointer (some ⟨w.heap.size,0,none⟩)),spC [2] (.int .i64 fd.kind),spC [3] (.int .i64 ((Zg fd.kind:Nat):Int)),spR [1,4] (fun x w'=>Own w' (From w4.heap.size w') 1 x (fxW n (Zg fd.kind)).length (Z0 (fxW n (Zg fd.kind)))),spC [] (.pointer (some ⟨w.heap.size,5,none⟩)),spC [6] (.int .i64 fd.df),spC [] (.pointer (some ⟨w.heap.size,0,none⟩)),spC [8] (.int .i64 fd.kind),spC [9] (.int .i64 ((Zg fd.kind:Nat):Int)),spR [7,10] (fun x w'=>Own w' (From w4.heap.size w') 1 x (fxW fd.df (Zg fd.kind)).length (Z0 (fxW fd.df (Zg fd.kind)))),spR [5,11] (fun x w'=>x = .bool (decide (fxW n (Zg fd.kind)=fxW fd.df (Zg fd.kind))))] 78 [] hmx he27 (by simp[Z0R]) (by simp[Z13]) (by simp[spC,spR]) (by simp;omega) ⟨lCc _ _ _,lCc _ _ _,lCc _ _ _,lCc _ _ _,lCc _ _ _,(fun v w1 w2 f h=>h.upTo f (From.mono f.size)),lCc _ _ _,lCc _ _ _,lCc _ _ _,lCc _ _ _,lCc _ _ _,(fun v w1 w2 f h=>h.upTo f (From.mono f.size)),(fun v w1 w2 f h=>h),trivial⟩ ?_ ?_
  · refine oCs ?_ ?_
    · refine op_c fun a' w' hk' hf' hd' K' hK'=>?_;refine wFa (b:=w2.heap.size) (i:=0) (hFlT26.fld (by decide)) (by rw[eTm,hk'.get 3 (by omega),g114_3]) ?_;rw[show (0+0:Nat)=0 from rfl];exact hK'
    refine oCs ?_ ?_
    · refine op_c fun a' w' hk' hf' hd' K' hK'=>?_;refine wL0 (j:=0) (v:=.int .i64 n) hcT2 (by rw[eTm];exact hd'.c (nd':=[]) 0 (by simp) rfl) (hf'.range r4 .nil) rfl ?_;exact hK'
    refine oCs ?_ ?_
    · refine op_c fun a' w' hk' hf' hd' K' hK'=>?_;refine wFa (b:=w.heap.size) (i:=0) (hFlT45.fld (by decide)) (by rw[eTm,hk'.get 2 (by omega),g114_2]) ?_;rw[show (0+0:Nat)=0 from rfl];exact hK'
    refine oCs ?_ ?_
    · refine op_c fun a' w' hk' hf' hd' K' hK'=>?_;refine wL0 (j:=0) (v:=.int .i64 fd.kind) hcT3 (by rw[eTm];exact hd'.c (nd':=[]) 2 (by simp) rfl) (hf'.range rb6 .nil) rfl ?_;exact hK'
    refine oCs ?_ ?_
    · refine op_c fun a' w' hk' hf' hd' K' hK'=>?_;refine wCr (R:=fun x wz=>x = .int .i64 (Zg fd.kind:Nat)∧wz=w') (vs:=#[.int .i64 fd.kind]) hWi.enters (by simp only[List.map_toArray,List.map_cons,List.map_nil];rw[show a'.eval (.tmp 81)=Value.int .i64 fd.kind from (by rw[eTm];exact hd'.c (nd':=[2]) 3 (by simp) rfl)]) ((hWi.call w' fd.kind).mono (by rintro e wz ⟨rfl,rfl⟩;exact ⟨_,rfl,rfl,rfl⟩)) ?_;rintro _ _ ⟨rfl,rfl⟩;exact hK'
    refine oCs ?_ ?_
    · refine op_r fun a' w' hk' hf' hd' K' hK'=>?_;refine wCr (R:=fun vz wz=>Fr [] w' wz∧Own wz (From w'.heap.size wz) 1 vz (fxW n (Zg fd.kind)).length (Z0 (fxW n (Zg fd.kind)))) (vs:=#[.int .i64 n,.int .i64 ((Zg fd.kind:Nat):Int)]) hFx.enters (by simp only[List.map_toArray,List.map_cons,List.map_nil];rw[show a'.eval (.tmp 79)=Value.int .i64 n from (by rw[eTm];exact hd'.c (nd':=[0]) 1 (by simp) rfl),show a'.eval (.tmp 82)=Value.int .i64 ((Zg fd.kind:Nat):Int) from (by rw[eTm];exact hd'.c (nd':=[3]) 4 (by simp) rfl)]) (Za (hFx.call w' n (Zg fd.kind) (Z2H _))) ?_;rintro x117 w117 ⟨fr117,ow117⟩;exact hK' x117 w117 (ow117.from hf'.size) fr117
    refine oCs ?_ ?_
    · refine op_c fun a' w' hk' hf' hd' K' hK'=>?_;refine wFa (b:=w.heap.size) (i:=0) (hFlT45.fld (by decide)) (by rw[eTm,hk'.get 2 (by omega),g114_2]) ?_;rw[show (0+5:Nat)=5 from rfl];exact hK'
    refine oCs ?_ ?_
    · refine op_c fun a' w' hk' hf' hd' K' hK'=>?_;refine wL0 (j:=5) (v:=.int .i64 fd.df) hcT2 (by rw[eTm];exact hd'.c (nd':=[]) 6 (by simp) rfl) (hf'.range rb6 .nil) rfl ?_;exact hK'
    refine oCs ?_ ?_
    · refine op_c fun a' w' hk' hf' hd' K' hK'=>?_;refine wFa (b:=w.heap.size) (i:=0) (hFlT45.fld (by decide)) (by rw[eTm,hk'.get 2 (by omega),g114_2]) ?_;rw[show (0+0:Nat)=0 from rfl];exact hK'
    refine oCs ?_ ?_
    · refine op_c fun a' w' hk' hf' hd' K' hK'=>?_;refine wL0 (j:=0) (v:=.int .i64 fd.kind) hcT3 (by rw[eTm];exact hd'.c (nd':=[]) 8 (by simp) rfl) (hf'.range rb6 .nil) rfl ?_;exact hK'
    refine oCs ?_ ?_
    · refine op_c fun a' w' hk' hf' hd' K' hK'=>?_;refine wCr (R:=fun x wz=>x = .int .i64 (Zg fd.kind:Nat)∧wz=w') (vs:=#[.int .i64 fd.kind]) hWi.enters (by simp only[List.map_toArray,List.map_cons,List.map_nil];rw[show a'.eval (.tmp 87)=Value.int .i64 fd.kind from (by rw[eTm];exact hd'.c (nd':=[8]) 9 (by simp) rfl)]) ((hWi.call w' fd.kind).mono (by rintro e wz ⟨rfl,rfl⟩;exact ⟨_,rfl,rfl,rfl⟩)) ?_;rintro _ _ ⟨rfl,rfl⟩;exact hK'
    refine oCs ?_ ?_
    · refine op_r fun a' w' hk' hf' hd' K' hK'=>?_;refine wCr (R:=fun vz wz=>Fr [] w' wz∧Own wz (From w'.heap.size wz) 1 vz (fxW fd.df (Zg fd.kind)).length (Z0 (fxW fd.df (Zg fd.kind)))) (vs:=#[.int .i64 fd.df,.int .i64 ((Zg fd.kind:Nat):Int)]) hFx.enters (by simp only[List.map_toArray,List.map_cons,List.map_nil];rw[show a'.eval (.tmp 85)=Value.int .i64 fd.df from (by rw[eTm];exact hd'.c (nd':=[6]) 7 (by simp) rfl),show a'.eval (.tmp 88)=Value.int .i64 ((Zg fd.kind:Nat):Int) from (by rw[eTm];exact hd'.c (nd':=[9]) 10 (by simp) rfl)]) (Za (hFx.call w' fd.df (Zg fd.kind) (Z2H _))) ?_;rintro x118 w118 ⟨fr118,ow118⟩;exact hK' x118 w118 (ow118.from hf'.size) fr118
    refine oCs ?_ ?_
    · refine op_r fun a' w' hk' hf' hd' K' hK'=>?_;have hx5:Own w' (From w4.heap.size w') 1 (get a' 83) (fxW n (Zg fd.kind)).length (Z0 (fxW n (Zg fd.kind))):=hd'.at (d:=5) (by simp) rfl;have hx11:Own w' (From w4.heap.size w') 1 (get a' 89) (fxW fd.df (Zg fd.kind)).length (Z0 (fxW fd.df (Zg fd.kind))):=hd'.at (d:=11) (by simp) rfl;refine wCr (R:=fun x wz=>x = .bool (decide (fxW n (Zg fd.kind)=fxW fd.df (Zg fd.kind)))∧Fr [] w' wz) (vs:=#[(get a' 83),(get a' 89)]) hSa.enters (by simp only[List.map_toArray,List.map_cons,List.map_nil];rw[show a'.eval (.tmp 83)=(get a' 83) from (by rw[eTm]),show a'.eval (.tmp 89)=(get a' 89) from (by rw[eTm])]) ((hSa.call w' _ _ _ _ _ _ (hx5.octE (by rw[fxL];have:=Z2H fd.kind;omega)) (hx11.octE (by rw[fxL];have:=Z2H fd.kind;omega)) (by rw[fxL,fxL])).mono (by rintro e wz ⟨rfl,h⟩;exact ⟨_,rfl,rfl,h⟩)) ?_;rintro x wz ⟨rfl,fr⟩;exact hK' _ wz rfl fr
    exact ZX
  intro a119 w119 k119 f119 hd_119;have hz119:a119.tmps.size=91:=k119.size.trans hz114;have hd119:a119.defers=[]:=k119.defers.trans hd114;have hF120:Fr [] w w119:=hF5.tr f119;have rb121:=f119.range rb6 .nil;have rb122:=f119.range r4 .nil;have hb12:get a119 90 = .bool (decide (fxW n (Zg fd.kind)=fxW fd.df (Zg fd.kind))):=hd_119.at (d:=12) (by simp) rfl;refine wC (wAs (v:=.bool (decide (fxW n (Zg fd.kind)=fxW fd.df (Zg fd.kind)))) (by rw[eTm,hb12]) ?_);refine wEk hz119 hd119 fun a123 ha123 hz123 hd123=>?_;have g123_4:get a123 4 = .bool (decide (fxW n (Zg fd.kind)=fxW fd.df (Zg fd.kind))):=kG ha123 hz119;refine hK116 a123 w119 (tUp ?_);refine wp_ret ?_;have hW:ZG fd (.mk n s nl l u)=(decide (fxW n (Zg fd.kind)=fxW fd.df (Zg fd.kind))):=by rw[Z0Q,if_neg h0,if_neg h7,if_neg h8,if_neg h11,if_neg h10];rfl
  exact ⟨hd123,_,rIs hres g123_4,by rw[hW],hF120⟩
end Go.Kq

namespace Go.Kq
open Go
def Inv (f:Rd) (ver:Int) (fl:Bool) (ap:V→List UInt8) (out:List UInt8):Prop :=
  ∀ rest nl,(nl=true→out++rest=[])→∃ x,f ver fl ⟨out++rest,nl,false⟩=some (x,⟨rest,nl,false⟩)∧ap x=out
def InvL (f:Rd) (ver:Int) (fl:Bool) (gs:List (V→List UInt8)) (out:List UInt8):Prop :=
  ∀ rest nl,(nl=true→out++rest=[])→∃ xs,f ver fl ⟨out++rest,nl,false⟩=some (.l xs,⟨rest,nl,false⟩)∧Z69 gs xs=out
theorem invl_nil {ver:Int} {fl:Bool}:InvL Z6Y ver fl [] []:=fun rest nl _=>⟨[],rfl,rfl⟩
theorem Z5x {f g:Rd} {ver:Int} {fl:Bool} {a:V→List UInt8} {gs:List (V→List UInt8)} {o1 o2:List UInt8} (h1:Inv f ver fl a o1) (h2:InvL g ver fl gs o2):InvL (Z03 f g) ver fl (a::gs) (o1++o2):=by
  intro rest nl hn;obtain ⟨x,hx,hax⟩:=h1 (o2++rest) nl (by rw[← List.append_assoc];exact hn);obtain ⟨xs,hxs,haxs⟩:=h2 rest nl (fun h=>by have:=hn h;simp only[List.append_eq_nil_iff] at this ⊢;exact ⟨this.1.2,this.2⟩);refine ⟨x::xs,?_,by simp only[Z69,hax,haxs]⟩;rw[List.append_assoc];simp only[Z03,hx,hxs,Z7e]
theorem inv_st {f:Rd} {ver:Int} {fl:Bool} {gs:List (V→List UInt8)} {o:List UInt8} (h:InvL f ver fl gs o):Inv f ver fl (apSt gs) o:=by
  intro rest nl hn;obtain ⟨xs,h1,h2⟩:=h rest nl hn;exact ⟨.l xs,h1,h2⟩
theorem Z64 {g1 g2:RSt→V × RSt} {ver:Int} {fl:Bool} {a1 a2:V→List UInt8} {o1 o2:List UInt8} (h1:fl=true→Inv (Z05 fun _ _=>g1) ver fl a1 o1) (h2:fl=false→Inv (Z05 fun _ _=>g2) ver fl a2 o2) :
    Inv (Z05 fun _ fl st=>if fl then g1 st else g2 st) ver fl (fun x=>if fl then a1 x else a2 x) (if fl then o1 else o2):=by
  intro rest nl hn
  cases fl with
  | true=>exact h1 rfl rest nl hn
  | false=>exact h2 rfl rest nl hn
theorem Z4k (n:Nat):(UInt8.ofNat n).toNat=n % 256:=by simp
theorem Z6F (i:Int):((Lib.beNat (fxW i 2):Nat):Int)=i % 65536:=by
  simp only[fxW,be2,Z4k,Nat.reduceMul,Nat.reducePow];omega
theorem Z4T (i:Int):((Lib.beNat (fxW i 4):Nat):Int)=i % 4294967296:=by
  simp only[fxW,be4,Z4k,Nat.reduceMul,Nat.reducePow];omega
theorem Z7j (a:UInt8) (l:List UInt8):Lib.beNat (a::l)=a.toNat * 256 ^ l.length+Lib.beNat l:=by
  have h:=Lib.beFrom_eq l a.toNat;have h2:=Lib.beNat_eq l;rw[h2];show Lib.beFrom 0 (a::l)=_
  rw[show Lib.beFrom 0 (a::l)=Lib.beFrom a.toNat l from by simp[Lib.beFrom],h]
theorem Z3D (i:Int):∀ k,((Lib.beNat (fxW i (k+1)):Nat):Int)=(i / (2 ^ (8 * k):Nat)) % 256 * (2 ^ (8 * k):Nat)+(Lib.beNat (fxW i k):Nat):=by
  intro k;rw[fxW,Z7j,fxL,Z4k];have h:(256:Nat) ^ k=2 ^ (8 * k):=by rw[show (256:Nat)=2 ^ 8 from rfl,← Nat.pow_mul]
  rw[h];have h1:(0:Int)≤(i / (2 ^ (8 * k):Nat)) % 256:=by omega
  have h2:(i / (2 ^ (8 * k):Nat)) % 256 < 256:=by omega
  rw[Int.natCast_add,Int.natCast_mul];rw[show (((i / (2 ^ (8 * k):Nat)) % 256).toNat % 256:Nat)=((i / (2 ^ (8 * k):Nat)) % 256).toNat from by omega,Int.toNat_of_nonneg h1]
theorem beNat_f8 (i:Int):((Lib.beNat (fxW i 8):Nat):Int)=i % 18446744073709551616:=by
  rw[Z3D,Z3D,Z3D,Z3D,Z4T];simp only[Nat.reduceMul,Nat.reducePow];omega
theorem Z6X {k:Nat} {o rest:List UInt8} {nl:Bool} (h:o.length=k):Z1Q k ⟨o++rest,nl,false⟩=(some o,⟨rest,nl,false⟩):=by
  subst h;simp[Z1Q]
theorem Z2T {kd:IntKind} {k:Nat} {i:Int} {rest:List UInt8} {nl:Bool}:Zo kd k ⟨fxW i k++rest,nl,false⟩=(kd.wrap (Lib.beNat (fxW i k)),⟨rest,nl,false⟩):=by
  simp only[Zo,Z6X (fxL i k)]
theorem Z77 (i:Int):fxW (IntKind.i64.wrap i) 8=fxW i 8:=by
  have h:IntKind.i64.wrap i % 18446744073709551616=i % 18446744073709551616:=by simp[IntKind.wrap,IntKind.signed,IntKind.bits];split <;> omega
  rw[← Z1I,h,Z1I]
theorem Z8a {kd:IntKind} {k:Nat} {i:Int} {ver:Int} {fl:Bool} (h:fxW (kd.wrap (Lib.beNat (fxW i k))) k=fxW i k):Inv (Z05 fun _ _=>gNum kd k) ver fl (Z18 k) (fxW i k):=by
  intro rest nl _;refine ⟨.n (kd.wrap (Lib.beNat (fxW i k))),?_,h⟩;simp only[Z05,gNum,Z2T]
theorem inv_i32 {i ver:Int} {fl:Bool}:Inv (Z05 fun _ _=>gNum .i32 4) ver fl (Z18 4) (fxW i 4):=Z8a (by rw[Z4A,Z4T,Z1J])
theorem inv_i64 {i ver:Int} {fl:Bool}:Inv (Z05 fun _ _=>gNum .i64 8) ver fl (Z18 8) (fxW i 8):=Z8a (by rw[Z77,beNat_f8,Z1I])
theorem Z0u {o rest:List UInt8} {l:Int} {nl:Bool} (h:l=o.length) (hn:nl=true→o++rest=[]):∃ y,Z9 l ⟨o++rest,nl,false⟩=(y,⟨rest,nl,false⟩)∧y.getD []=o∧(nl=false→y=some o):=by
  subst h
  cases nl with
  | true =>
    have:=hn rfl;simp only[List.append_eq_nil_iff] at this;obtain ⟨rfl,rfl⟩:=this;exact ⟨none,by simp[Z9],rfl,by simp⟩
  | false =>
    refine ⟨some o,?_,rfl,fun _=>rfl⟩;have h1:¬ (((o++rest).length:Int) < (o.length:Int)∨(o.length:Int) < 0):=by rw[List.length_append];omega
    simp only[Z9,if_neg h1];simp
theorem Z1b {nl:Bool} {o r:List UInt8} (h:nl=true→o++r=[]) (ho:o ≠ []):nl=false:=by
  cases nl with
  | false=>rfl
  | true=>exact absurd (List.append_eq_nil_iff.1 (h rfl)).1 ho
theorem Z43 {i:Int} {k:Nat} (hk:0 < k):fxW i k ≠ []:=by
  intro h;have:=fxL i k;rw[h] at this;simp at this;omega
theorem rd16 {n:Nat} (h:n≤32767) {rest:List UInt8} {nl:Bool}:Zo .i16 2 ⟨fxW (n:Int) 2++rest,nl,false⟩=((n:Int),⟨rest,nl,false⟩):=by
  rw[Z2T,Z6F]
  congr 1
  simp[IntKind.wrap,IntKind.signed,IntKind.bits];omega
theorem rd32 {n:Nat} (h:n≤2147483647) {rest:List UInt8} {nl:Bool}:Zo .i32 4 ⟨fxW (n:Int) 4++rest,nl,false⟩=((n:Int),⟨rest,nl,false⟩):=by
  rw[Z2T,Z4T]
  congr 1
  simp[IntKind.wrap,IntKind.signed,IntKind.bits];omega
theorem inv_str {s:List UInt8} (h:s.length≤32767) {ver:Int} {fl:Bool}:Inv (Z05 fun _ _=>gStr) ver fl Z1M (fxW s.length 2++s):=by
  intro rest nl hn;have hnl:=Z1b hn (by simp[Z43]);subst hnl;obtain ⟨y,h1,h2,_⟩:=Z0u (o:=s) (rest:=rest) (l:=s.length) (nl:=false) rfl (by simp);refine ⟨.s s,?_,rfl⟩;simp only[Z05,gStr,Z0y,List.append_assoc,rd16 h,h1,h2]
theorem inv_nstr {s:List UInt8} (h:s.length≤32767) {ver:Int} {fl:Bool}:Inv (Z05 fun _ _=>Z3j) ver fl Z1f (fxW s.length 2++s):=by
  intro rest nl hn;have hnl:=Z1b hn (by simp[Z43]);subst hnl;obtain ⟨y,h1,h2,_⟩:=Z0u (o:=s) (rest:=rest) (l:=s.length) (nl:=false) rfl (by simp);refine ⟨.s s,?_,rfl⟩;have h0:¬ ((s.length:Int) < 0):=by omega
  simp only[Z05,Z3j,Z3R,List.append_assoc,rd16 h,h0,if_false,h1,h2]
theorem Z8b {ver:Int} {fl:Bool}:Inv (Z05 fun _ _=>Z3j) ver fl Z1f (fxW (-1) 2):=by
  intro rest nl hn;refine ⟨.nil,?_,rfl⟩;have:IntKind.i16.wrap ((Lib.beNat (fxW (-1) 2):Nat):Int) = -1:=by rw[Z6F];rfl
  simp[Z05,Z3j,Z3R,Z2T,this]
theorem Z6k:∀ (k n:Nat) (rest:List UInt8),n * 8 < 128 ^ (k+1)→uvGo (k+1) (uvW n++rest)=some (n,(uvW n).length)
  | 0, n, rest, h => by
    have hn:n < 16:=by simp at h;omega
    rw[uvW,if_neg (by omega)];have h1:(UInt8.ofNat n).toNat=n:=by rw[Z4k];omega
    simp[uvGo,h1]
    omega
  | k + 1, n, rest, h => by
    rw[uvW]
    split
    · rename_i hn
      have h1:(UInt8.ofNat (n % 128+128)).toNat=n % 128+128:=by rw[Z4k];omega
      have hp:128 ^ (k+1+1)=128 * 128 ^ (k+1):=by rw[Nat.pow_succ];omega
      rw[hp] at h;have ih:=Z6k k (n / 128) rest (by omega);rw[List.cons_append];simp only[uvGo,h1,ih];simp
      rw[if_neg (by omega)];congr 2;omega
    have h1:(UInt8.ofNat n).toNat=n:=by rw[Z4k];omega
    simp[uvGo,h1]
    omega
theorem Z0e {n:Nat} (h:n < 4294967296) {rest:List UInt8} {nl:Bool}:rdUv ⟨uvW n++rest,nl,false⟩=(n,⟨rest,nl,false⟩):=by
  have h1:uv (uvW n++rest)=some (n,(uvW n).length):=Z6k 4 n rest (by simp;omega);simp[rdUv,h1]
theorem Z4j (n:Nat):uvW n ≠ []:=by
  intro h;have:=Z1C n;rw[h] at this;simp at this
theorem inv_cstr {s:List UInt8} (h:s.length≤32767) {ver:Int} {fl:Bool}:Inv (Z05 fun _ _=>Z4f) ver fl Z0D (uvW (s.length+1)++s):=by
  intro rest nl hn;have hnl:=Z1b hn (by simp[Z4j]);subst hnl;obtain ⟨y,h1,h2,_⟩:=Z0u (o:=s) (rest:=rest) (l:=s.length) (nl:=false) rfl (by simp);refine ⟨.s s,?_,rfl⟩;have e:((s.length+1:Nat):Int) - 1=s.length:=by omega
  simp only[Z05,Z4f,Z3U,List.append_assoc,Z0e (show s.length+1 < 4294967296 by omega),e,h1,h2]
theorem Z8c {s:List UInt8} (h:s.length≤32767) {ver:Int} {fl:Bool}:Inv (Z05 fun _ _=>Z1x) ver fl Z0E (uvW (s.length+1)++s):=by
  intro rest nl hn;have hnl:=Z1b hn (by simp[Z4j]);subst hnl;obtain ⟨y,h1,h2,_⟩:=Z0u (o:=s) (rest:=rest) (l:=s.length) (nl:=false) rfl (by simp);refine ⟨.s s,?_,rfl⟩;have e:((s.length+1:Nat):Int) - 1=s.length:=by omega
  have h0:¬ ((s.length:Int) < 0):=by omega
  simp only[Z05,Z1x,Z3a,List.append_assoc,Z0e (show s.length+1 < 4294967296 by omega),e,h0,if_false,h1,h2]
theorem Z6i:uvW 0=[0]:=by rw[uvW];rfl
theorem Z73 {ver:Int} {fl:Bool}:Inv (Z05 fun _ _=>Z1x) ver fl Z0E [0]:=by
  intro rest nl hn;refine ⟨.nil,?_,by rw[Z0E,Z6i]⟩;simp only[Z05,Z1x,Z3a];rw[show ([0]++rest:List UInt8)=uvW 0++rest from by rw[Z6i],Z0e (by omega)];simp
theorem Z4r {f:Rd} {ver:Int} {fl:Bool} {a:V→List UInt8}:∀ (os:List (List UInt8)) (rest:List UInt8),(∀ o ∈ os,Inv f ver fl a o) →
    ∃ xs,Z09 f ver fl os.length ⟨os.flatten++rest,false,false⟩=some (xs,⟨rest,false,false⟩)∧xs.length=os.length∧(xs.map a).flatten=os.flatten
  | [],rest,_=>⟨[],rfl,rfl,rfl⟩
  | o :: os, rest, h => by
    obtain ⟨x,h1,h2⟩:=h o (by simp) (os.flatten++rest) false (by simp);obtain ⟨xs,h3,h4,h5⟩:=Z4r os rest fun o ho=>h o (by simp[ho]);refine ⟨x::xs,?_,by simp[h4],by simp[h2,h5]⟩;simp only[List.flatten_cons,List.append_assoc,List.length_cons,Z09,h1,h3]
theorem Z42 {os:List (List UInt8)} (h:∀ o ∈ os,1≤o.length):os.length≤os.flatten.length:=by
  induction os with
  | nil=>simp
  | cons o os ih =>
    have h1:=h o (by simp);have h2:=ih fun o ho=>h o (by simp[ho]);simp only[List.flatten_cons,List.length_append,List.length_cons];omega
def LenI (len:RSt→V × RSt) (lo:List UInt8) (n:Nat):Prop:=lo ≠ []∧∀ rest:List UInt8,n≤rest.length→len ⟨lo++rest,false,false⟩=(.n n,⟨rest,false,false⟩)
theorem Z7Y {n:Nat} (h:n≤32767):LenI Z76 (fxW n 4) n:=by
  refine ⟨Z43 (by omega),fun rest hr=>?_⟩;have h0:¬ ((rest.length:Int) < (n:Int)):=by omega
  simp only[Z76,Z0p,rd32 (show n≤2147483647 by omega),h0,if_false]
theorem len_uv {n:Nat} (h:n≤32767):LenI Z32 (uvW (n+1)) n:=by
  refine ⟨Z4j _,fun rest hr=>?_⟩;have h0:¬ ((rest.length:Int) < (n:Int)):=by omega
  have e:IntKind.i32.wrap (IntKind.i32.wrap ((n+1:Nat):Int) - 1)=(n:Int):=by
    simp[IntKind.wrap,IntKind.signed,IntKind.bits];omega
  simp only[Z32,Z1G,Z0e (show n+1 < 4294967296 by omega),e,h0,if_false]
theorem inv_arr {len:Int→Bool→RSt→V × RSt} {f:Rd} {ver:Int} {fl:Bool} {a:V→List UInt8} {la:Nat→List UInt8} {lo:List UInt8} {os:List (List UInt8)} (hl:LenI (len ver fl) lo os.length) (hla:la os.length=lo) (ho:∀ o ∈ os,Inv f ver fl a o) (h1:∀ o ∈ os,1≤o.length) :
    Inv (Z4d len f) ver fl (fun x=>la x.items.length++(x.items.map a).flatten) (lo++os.flatten):=by
  intro rest nl hn;have hnl:=Z1b hn (by simp[hl.1]);subst hnl;have h2:=hl.2 (os.flatten++rest) (by rw[List.length_append];have:=Z42 h1;omega);obtain ⟨xs,h3,h4,h5⟩:=Z4r os rest ho;simp only[Z4d,List.append_assoc,h2]
  by_cases h0:os.length=0
  · have:os=[]:=List.eq_nil_of_length_eq_zero h0;subst this;exact ⟨.nil,by simp,by simp[V.items,← hla]⟩
  refine ⟨.l xs,?_,by simp[V.items,h4,h5,hla]⟩;have h6:(0:Int) < os.length:=by omega
  have h7:os ≠ []:=by rintro rfl;exact h0 rfl
  simp[h7,h3]
end Go.Kq

namespace Go.Kq
open Go Go.Proofs
theorem Z5w:∀ {fs:List Fd},(∀ f ∈ fs,f.tag < 4294967295)→Z5 fs≤4294967295
  | [],_=>by simp[Z5]
  | f :: fs, h => by
    have h1:=h f (by simp);have h2:=Z5w fun g hg=>h g (List.mem_cons_of_mem f hg);unfold Z5
    split <;> omega
theorem Z7g {fs:List Fd} {ver:Int} {encs:List (List UInt8)} {j:Nat} {fd:Fd} (h:fs[j]?=some fd):Z0T fs ver encs (j+1)=Z0T fs ver encs j++if (decide (fd.tag < 0) && fd.has ver)=true then encs.getD j [] else []:=by
  unfold Z0T;rw[List.range_succ,List.flatMap_append];simp[h]
def Gap (a b c:Nat) (w:World) (x:Nat):Prop:=(a≤x∧x < b)∨(c≤x∧x < w.heap.size)
theorem Gap.mono {a b c:Nat} {w w':World} (h:w.heap.size≤w'.heap.size) (x:Nat) (hx:Gap a b c w x):Gap a b c w' x:=by
  rcases hx with hx | hx
  · exact .inl hx
  exact .inr ⟨hx.1,by omega⟩
theorem Z4w {a b c:Nat} {w w':World} (h1:c≤w.heap.size) (h2:w.heap.size≤w'.heap.size) (x:Nat) (hx:Gap a b c w x∨(w.heap.size≤x∧x < w'.heap.size)):Gap a b c w' x:=by
  rcases hx with hx | hx
  · exact Gap.mono h2 x hx
  exact .inr ⟨by omega,hx.2⟩
section
variable {fs:List Fd} {t:T} {encs:List (List UInt8)}
def knAt (fs:List Fd) (t:T) (encs:List (List UInt8)) (tag i:Nat):List (Nat × List UInt8):=match fs[i]? with
  | some f=>if decide (f.tag=((tag:Nat):Int)) && !ZG f (atT t.l i) then [(tag,encs.getD i [])] else []
  | none=>[]
def knIn (fs:List Fd) (t:T) (encs:List (List UInt8)) (tag n:Nat):List (Nat × List UInt8):=(List.range n).flatMap (knAt fs t encs tag)
def knUp (fs:List Fd) (t:T) (encs:List (List UInt8)) (n:Nat):List (Nat × List UInt8):=(List.range n).flatMap fun tag=>knIn fs t encs tag fs.length
def knTo (fs:List Fd) (t:T) (encs:List (List UInt8)) (k j:Nat):List (Nat × List UInt8):=knUp fs t encs k++knIn fs t encs k j
theorem Z5v:Zl fs t encs=knUp fs t encs (Z5 fs):=rfl
theorem Z80 {k:Nat}:knTo fs t encs k 0=knUp fs t encs k:=by simp[knTo,knIn]
theorem Z6q {k:Nat}:knTo fs t encs k fs.length=knUp fs t encs (k+1):=by simp[knTo,knUp,List.range_succ]
theorem Z81 {k j:Nat}:knTo fs t encs k (j+1)=knTo fs t encs k j++knAt fs t encs k j:=by simp[knTo,knIn,List.range_succ]
theorem Z6s {k j:Nat}:∀ d:Nat,∃ r,knIn fs t encs k (j+d)=knIn fs t encs k j++r
  | 0=>⟨[],by simp⟩
  | d + 1 => by
    obtain ⟨r,h⟩:=Z6s (k:=k) (j:=j) d;exact ⟨r++knAt fs t encs k (j+d),by rw[← List.append_assoc,← h];simp[knIn,← Nat.add_assoc,List.range_succ]⟩
theorem Z6p {k:Nat}:∀ d:Nat,∃ r,knUp fs t encs (k+d)=knUp fs t encs k++r
  | 0=>⟨[],by simp⟩
  | d + 1 => by
    obtain ⟨r,h⟩:=Z6p (k:=k) d;exact ⟨r++knIn fs t encs (k+d) fs.length,by rw[← List.append_assoc,← h];simp[knUp,← Nat.add_assoc,List.range_succ]⟩
theorem knTo_pre {k j:Nat} (hk:k < Z5 fs) (hj:j≤fs.length):∃ r,Zl fs t encs=knTo fs t encs k j++r:=by
  obtain ⟨r1,h1⟩:=Z6p (fs:=fs) (t:=t) (encs:=encs) (k:=k+1) (Z5 fs - (k+1));obtain ⟨r2,h2⟩:=Z6s (fs:=fs) (t:=t) (encs:=encs) (k:=k) (j:=j) (fs.length - j);rw[show k+1+(Z5 fs - (k+1))=Z5 fs from by omega] at h1;rw[show j+(fs.length - j)=fs.length from by omega] at h2;refine ⟨r2++r1,?_⟩;rw[Z5v,h1,← Z6q];simp only[knTo,h2,List.append_assoc]
theorem Z2U:∀ (l:List (Nat × List UInt8)),l.length≤(l.flatMap ZP).length
  | []=>by simp
  | p :: l => by
    have h1:=Z2U l;have h2:1≤(ZP p).length:=by
      have:uvW p.1 ≠ []:=Z4j _;have h3:0 < (uvW p.1).length:=List.length_pos_iff.2 this;simp only[ZP,List.length_append];omega
    simp only[List.flatMap_cons,List.length_append,List.length_cons];omega
end
set_option maxHeartbeats 16000000 in
theorem partk_m {P:Program} {f:FuncId} {fn:Func} {T3 T4 T22 T24 T26 T29 T45 T59 T61 T76:TypeId} {f54 f55 f56 f57 f58 f59 f60 f61:FuncId} {ct0:Array TypeId} {ct1:Array TypeId} {ct2:Array TypeId} {ct3:Array TypeId} {ct4:Array TypeId} {ct5:Array TypeId} {ct6:Array TypeId} {ct7:Array TypeId} {ct8:Array TypeId} {ct9:Array TypeId} {ct10:Array TypeId} {ct11:Array TypeId} {ct12:Array TypeId} {ct13:Array TypeId} {ct14:Array TypeId} {i0 i1 i2 i3 i4 i5 i6 i7 i8 i9 i10 i11 i12 i13 i14 i15 i16 i17 i18 i19 i20 i21 i22 i23 i24 i25 i26 i27 i28 i29 i30:Nat} {t0 t1 t2 t3 t4 t5 t6 t7 t8 t9 t10 t11 t12 t13 t14 t15 t16 t17 t18 t19 t20 t21 t22 t23 t24 t25 t26 t27 t28 t29 t30 t31 t32 t33 t34 t35 t36 t37 t38 t39 t40 t41 t42 t43 t44 t45 t46 t47 t48 t49 t50 t51 t52 t53 t54 t55 t56 t57 t58 t59 t60 t61 t62 t63 t64 t65 t66 t67 t68 t69 t70 t71 t72 t73 t74 t75 t76 t77 t78 t79 t80 t81 t82 t83 t84 t85 t86 t87 t88 t89 t90 t91 t92 t93 t94 t95 t96 t97 t98 t99 t100 t101 t102 t103 t104 t105 t106 t107 t108 t109 t110 t111 t112 t113 t114 t115 t116 t117 t118 t119 t120 t121 t122 t123 t124 t125 t126 t127 t128 t129 t130 t131 t132 t133 t134 t135 t136 t137:TypeId} {p0 p1 p2 p3 p4 p5 p6 p7 p8 p9 p10 p11 p12 p13 p14 p15 p16 p17 p18 p19 p20 p21 p22 p23 p24 p25 p26 p27 p28 p29 p30 p31 p32 p33 p34 p35 p36 p37 p38 p39 p40 p41 p42 p43 p44 p45 p46 p47 p48 p49 p50 p51 p52 p53 p54 p55 p56 p57 p58 p59 p60 p61 p62 p63 p64 p65 p66 p67 p68 p69 p70 p71 p72 p73 p74 p75 p76 p77 p78 p79 p80 p81 p82 p83 p84 p85 p86 p87 p88 p89 p90 p91 p92 p93 p94 p95 p96 p97 p98 p99 p100 p101 p102 p103 p104 p105 p106 p107 p108 p109 p110 p111 p112 p113 p114 p115 p116 p117 p118 p119 p120 p121 p122 p123 p124 p125 p126 p127 p128 p129 p130 p131 p132 p133 p134 p135 p136 p137:String} {e0 e1 e2 e3 e4 e5 e6 e7 e8 e9 e10 e11 e12 e13 e14 e15 e16 e17 e18 e19 e20 e21 e22 e23 e24 e25 e26 e27 e28 e29 e30 e31 e32 e33 e34 e35 e36 e37 e38 e39 e40 e41 e42 e43 e44 e45 e46 e47 e48 e49 e50 e51 e52 e53 e54 e55 e56 e57 e58 e59 e60 e61 e62 e63 e64 e65 e66 e67 e68 e69 e70 e71 e72 e73 e74 e75 e76 e77 e78 e79 e80 e81 e82 e83 e84 e85 e86 e87 e88 e89 e90 e91 e92 e93 e94 e95 e96 e97 e98 e99 e100 e101 e102 e103 e104 e105 e106 e107 e108 e109 e110 e111 e112 e113 e114 e115 e116 e117 e118 e119 e120 e121 e122 e123 e124 e125 e126 e127 e128 e129 e130 e131 e132 e133 e134 e135 e136 e137:Array Edge} {te te8 teT:TypeId} {tb:Nat} {fs:List Fd}
    (hf:P.funcs[f]?=some fn) (hname:nG fn=false) (hres:fn.results = #[.tmp 8]) (hN:fn.ntmps=132)
    (hbody:fn.body=some (.seq (Code.region i0 ⟨[⟨some 7,.box T26 (.tmp 3),t0,p0,e0,none⟩,
    oA 8 (.const (.slice none 0 0)) t1 p1 e1]⟩ false) (.seq (Code.region i1 ⟨[oA 9 (.const (.slice none 0 0)) t2 p2 e2,
    oA 10 (.const (.slice none 0 0)) t3 p3 e3]⟩ false) (.seq (Code.region i2 ⟨[oA 11 (.const (.int .i64 0)) t4 p4 e4]⟩ false) (.seq (.seq (Code.region i3 ⟨[oM 21 0 t5 p5 e5,⟨some 22,.call ⟨.builtin .len,#[(.tmp 21)],#[T29]⟩,t6,p6,e6,none⟩,⟨some 23,.move (.const (.int .i64 0)),t7,p7,e7,none⟩]⟩ false) (.block 0 (.loop (.seq (Code.region i4 ⟨[⟨some 24,.binOp .lss T3 (.tmp 23) (.tmp 22) T3,t8,p8,e8,none⟩]⟩ false) (.seq (.cond (.tmp 24) .skip
  (.exit 0)) (.seq (.block 1 (.seq (Code.region i5 ⟨[oM 25 23 t9 p9 e9,⟨some 26,.indexAddr T29 (.tmp 21) (.tmp 23),t10,p10,e10,none⟩,
    oL 27 T45 26 t11 p11 e11,⟨some 13,.alloc T45,t12,p12,e12,none⟩,
    oT 12 25 t13 p13 e13,
    oS T45 13 27 t14 p14 e14]⟩ false) (.seq (Code.region i6 ⟨[oF 28 T45 13 4 t15 p15 e15,
    oL 29 T3 28 t16 p16 e16,⟨some 30,.binOp .lss T3 (.tmp 29) (.const (.int .i64 0)) T3,t17,p17,e17,none⟩,
    oM 31 30 t18 p18 e18,⟨some 32,.load T45 (.tmp 13),t19,p19,e19,some (3,true)⟩,⟨some 33,.move (.tmp 1),t20,p20,e20,some (3,true)⟩,⟨some 34,.call ⟨.value (.func f54),#[(.tmp 32),(.tmp 33)],ct0⟩,t21,p21,e21,some (3,true)⟩,⟨some 35,.pick (.tmp 31) (.tmp 34) (.const (.bool false)),t22,p22,e22,none⟩]⟩ false) (.cond (.tmp 35) (Code.region i7 ⟨[oM 36 9 t23 p23 e23,
    oL 37 T45 13 t24 p24 e24,
    oM 38 1 t25 p25 e25,
    oM 39 2 t26 p26 e26,
    oL 40 T26 7 t27 p27 e27,
    oM 41 12 t28 p28 e28,
    oC 42 f56 #[(.tmp 40),(.tmp 41)] ct1 t29 p29 e29,
    oC 43 f55 #[(.tmp 37),(.tmp 38),(.tmp 39),(.tmp 42)] ct2 t30 p30 e30,⟨some 44,.call ⟨.builtin .append,#[(.tmp 36),(.tmp 43)],#[T22,T22]⟩,t31,p31,e31,none⟩,
    oT 9 44 t32 p32 e32]⟩ true) .skip))))
  (Code.region i8 ⟨[⟨some 45,.binOp .add T3 (.tmp 23) (.const (.int .i64 1)) T3,t33,p33,e33,none⟩,
    oM 23 45 t34 p34 e34]⟩ false))))))) (.seq (.seq (Code.region i9 ⟨[oM 46 2 t35 p35 e35,⟨some 47,.unOp .not T4 (.tmp 46),t36,p36,e36,none⟩]⟩ false) (.cond (.tmp 47) (.seq (Code.region i10 ⟨[oM 48 9 t37 p37 e37,
    oT 8 48 t38 p38 e38]⟩ false) .ret) .skip)) (.seq (.seq (Code.region i11 ⟨[oM 49 0 t39 p39 e39,
    oC 50 f57 #[(.tmp 49)] ct3 t40 p40 e40,⟨some 51,.convert T59 T3 (.tmp 50),t41,p41,e41,none⟩,⟨some 52,.move (.const (.int .i64 0)),t42,p42,e42,none⟩]⟩ false) (.block 2 (.loop (.seq (Code.region i12 ⟨[⟨some 53,.binOp .lss T3 (.tmp 52) (.tmp 51) T3,t43,p43,e43,none⟩]⟩ false) (.seq (.cond (.tmp 53) .skip
  (.exit 2)) (.seq (.block 3 (.seq (Code.region i13 ⟨[oM 54 52 t44 p44 e44,
    oT 14 54 t45 p45 e45]⟩ false) (.seq (Code.region i14 ⟨[oM 55 0 t46 p46 e46,⟨some 56,.call ⟨.builtin .len,#[(.tmp 55)],#[T29]⟩,t47,p47,e47,none⟩,⟨some 57,.move (.const (.int .i64 0)),t48,p48,e48,none⟩]⟩ false) (.block 4 (.loop (.seq (Code.region i15 ⟨[⟨some 58,.binOp .lss T3 (.tmp 57) (.tmp 56) T3,t49,p49,e49,none⟩]⟩ false) (.seq (.cond (.tmp 58) .skip
  (.exit 4)) (.seq (.block 5 (.seq (Code.region i16 ⟨[oM 59 57 t50 p50 e50,⟨some 60,.indexAddr T29 (.tmp 55) (.tmp 57),t51,p51,e51,none⟩,
    oL 61 T45 60 t52 p52 e52,⟨some 16,.alloc T45,t53,p53,e53,none⟩,
    oT 15 59 t54 p54 e54,
    oS T45 16 61 t55 p55 e55]⟩ false) (.seq (Code.region i17 ⟨[oF 62 T45 16 4 t56 p56 e56,
    oL 63 T3 62 t57 p57 e57,
    oM 64 14 t58 p58 e58,⟨some 65,.binOp .eql T3 (.tmp 63) (.tmp 64) T3,t59,p59,e59,none⟩,
    oM 66 65 t60 p60 e60,⟨some 67,.load T45 (.tmp 16),t61,p61,e61,some (4,true)⟩,⟨some 68,.load T26 (.tmp 7),t62,p62,e62,some (4,true)⟩,⟨some 69,.move (.tmp 15),t63,p63,e63,some (4,true)⟩,⟨some 70,.call ⟨.value (.func f56),#[(.tmp 68),(.tmp 69)],ct4⟩,t64,p64,e64,some (4,true)⟩,⟨some 71,.call ⟨.value (.func f58),#[(.tmp 67),(.tmp 70)],ct5⟩,t65,p65,e65,some (4,true)⟩,⟨some 72,.unOp .not T4 (.tmp 71),t66,p66,e66,some (4,true)⟩,⟨some 73,.pick (.tmp 66) (.tmp 72) (.const (.bool false)),t67,p67,e67,none⟩]⟩ true) (.cond (.tmp 73) (.seq (Code.region i18 ⟨[oL 74 T45 16 t68 p68 e68,
    oM 75 1 t69 p69 e69,
    oM 76 2 t70 p70 e70,
    oL 77 T26 7 t71 p71 e71,
    oM 78 15 t72 p72 e72,
    oC 79 f56 #[(.tmp 77),(.tmp 78)] ct6 t73 p73 e73,
    oC 80 f55 #[(.tmp 74),(.tmp 75),(.tmp 76),(.tmp 79)] ct7 t74 p74 e74,
    oT 17 80 t75 p75 e75]⟩ true) (.seq (Code.region i19 ⟨[oM 81 10 t76 p76 e76,
    oM 82 14 t77 p77 e77,⟨some 83,.convert T3 T76 (.tmp 82),t78,p78,e78,none⟩,
    oC 84 f59 #[(.tmp 83)] ct8 t79 p79 e79,⟨some 85,.call ⟨.builtin .append,#[(.tmp 81),(.tmp 84)],#[T22,T22]⟩,t80,p80,e80,none⟩,
    oM 86 17 t81 p81 e81,⟨some 87,.call ⟨.builtin .len,#[(.tmp 86)],#[T22]⟩,t82,p82,e82,none⟩,⟨some 88,.convert T3 T76 (.tmp 87),t83,p83,e83,none⟩,
    oC 89 f59 #[(.tmp 88)] ct9 t84 p84 e84,⟨some 90,.call ⟨.builtin .append,#[(.tmp 85),(.tmp 89)],#[T22,T22]⟩,t85,p85,e85,none⟩,
    oM 91 17 t86 p86 e86,⟨some 92,.call ⟨.builtin .append,#[(.tmp 90),(.tmp 91)],#[T22,T22]⟩,t87,p87,e87,none⟩,
    oT 10 92 t88 p88 e88]⟩ false)
  (Code.region i20 ⟨[oM 93 11 t89 p89 e89,⟨some 94,.binOp .add T3 (.tmp 93) (.const (.int .i64 1)) T3,t90,p90,e90,none⟩,
    oT 11 94 t91 p91 e91]⟩ false))) .skip))))
  (Code.region i21 ⟨[⟨some 95,.binOp .add T3 (.tmp 57) (.const (.int .i64 1)) T3,t92,p92,e92,none⟩,
    oM 57 95 t93 p93 e93]⟩ false)))))))))
  (Code.region i22 ⟨[⟨some 96,.binOp .add T3 (.tmp 52) (.const (.int .i64 1)) T3,t94,p94,e94,none⟩,
    oM 52 96 t95 p95 e95]⟩ false))))))) (.seq (.seq (Code.region i23 ⟨[oM 97 0 t96 p96 e96,
    oF 98 T26 7 4 t97 p97 e97,
    oL 99 T24 98 t98 p98 e98,
    oC 100 f60 #[(.tmp 97),(.tmp 99)] ct10 t99 p99 e99,⟨some 101,.call ⟨.builtin .len,#[(.tmp 100)],#[T24]⟩,t100,p100,e100,none⟩,⟨some 102,.move (.const (.int .i64 0)),t101,p101,e101,none⟩]⟩ false) (.block 6 (.loop (.seq (Code.region i24 ⟨[⟨some 103,.binOp .lss T3 (.tmp 102) (.tmp 101) T3,t102,p102,e102,none⟩]⟩ false) (.seq (.cond (.tmp 103) .skip
  (.exit 6)) (.seq (.block 7 (.seq (Code.region i25 ⟨[⟨some 104,.indexAddr T24 (.tmp 100) (.tmp 102),t103,p103,e103,none⟩,
    oL 105 T61 104 t104 p104 e104,⟨some 19,.alloc T61,t105,p105,e105,none⟩,
    oS T61 19 105 t106 p106 e106]⟩ false) (.seq (Code.region i26 ⟨[oF 106 T61 19 1 t107 p107 e107,
    oL 107 T22 106 t108 p108 e108,
    oC 108 f61 #[(.tmp 107)] ct11 t109 p109 e109,
    oT 20 108 t110 p110 e110]⟩ false) (.seq (Code.region i27 ⟨[oM 109 10 t111 p111 e111,
    oF 110 T61 19 0 t112 p112 e112,
    oL 111 T59 110 t113 p113 e113,⟨some 112,.convert T59 T76 (.tmp 111),t114,p114,e114,none⟩,
    oC 113 f59 #[(.tmp 112)] ct12 t115 p115 e115,⟨some 114,.call ⟨.builtin .append,#[(.tmp 109),(.tmp 113)],#[T22,T22]⟩,t116,p116,e116,none⟩,
    oM 115 20 t117 p117 e117,⟨some 116,.call ⟨.builtin .len,#[(.tmp 115)],#[T22]⟩,t118,p118,e118,none⟩,⟨some 117,.convert T3 T76 (.tmp 116),t119,p119,e119,none⟩,
    oC 118 f59 #[(.tmp 117)] ct13 t120 p120 e120,⟨some 119,.call ⟨.builtin .append,#[(.tmp 114),(.tmp 118)],#[T22,T22]⟩,t121,p121,e121,none⟩,
    oM 120 20 t122 p122 e122,⟨some 121,.call ⟨.builtin .append,#[(.tmp 119),(.tmp 120)],#[T22,T22]⟩,t123,p123,e123,none⟩,
    oT 10 121 t124 p124 e124]⟩ false)
  (Code.region i28 ⟨[oM 122 11 t125 p125 e125,⟨some 123,.binOp .add T3 (.tmp 122) (.const (.int .i64 1)) T3,t126,p126,e126,none⟩,
    oT 11 123 t127 p127 e127]⟩ false)))))
  (Code.region i29 ⟨[⟨some 124,.binOp .add T3 (.tmp 102) (.const (.int .i64 1)) T3,t128,p128,e128,none⟩,
    oM 102 124 t129 p129 e129]⟩ false))))))) (.seq (Code.region i30 ⟨[oM 125 9 t130 p130 e130,
    oM 126 11 t131 p131 e131,⟨some 127,.convert T3 T76 (.tmp 126),t132,p132,e132,none⟩,
    oC 128 f59 #[(.tmp 127)] ct14 t133 p133 e133,⟨some 129,.call ⟨.builtin .append,#[(.tmp 125),(.tmp 128)],#[T22,T22]⟩,t134,p134,e134,none⟩,
    oM 130 10 t135 p135 e135,⟨some 131,.call ⟨.builtin .append,#[(.tmp 129),(.tmp 130)],#[T22,T22]⟩,t136,p136,e136,none⟩,
    oT 8 131 t137 p137 e137]⟩ false) .ret)))))))))
    (hs_T22:Z4 P T22 te 1 1=true) (hz_T22:ZI P te [.int .u8 0]) (hsT29:slTy P T29=true) (hs_T29:Z4 P T29 te8 8 tb=true) (hFlT45:Flat P T45 zF) (hcT3:scal P T3=true) (hFlT26:Flat P T26 zT) (he7:Z0q 0 [e23,e24,e25,e26,e27,e28,e29,e30,e31,e32] [[],[],[],[],[],[],[4,5],[1,2,3,6],[0,1,2,3,4,5,6,7],[0,1,2,3,4,5,6,7,8]]=true) (hmx:P.follows .mixedOrders=true) (hT59_u32:Zh P T59 .u32=true) (hT3_i64:Zh P T3 .i64=true) (he17:Z0q 0 [e56,e57,e58,e59,e60,e61,e62,e63,e64,e65,e66,e67] [[],[0],[],[1,2],[3],[4],[4],[4],[4,6,7],[4,5,8],[4,9],[4,10]]=true) (he18:Z0q 0 [e68,e69,e70,e71,e72,e73,e74,e75] [[],[],[],[],[],[3,4],[0,1,2,5],[0,1,2,3,4,5,6]]=true) (hT76_u64:Zh P T76 .u64=true) (hsT22:slTy P T22=true) (hcT24:scal P T24=true) (hsT24:slTy P T24=true) (hs_T24:Z4 P T24 teT 2 32=true) (hFlT61:Flat P T61 zTag) (hcT22:scal P T22=true) (hcT59:scal P T59=true) (htg:∀ f ∈ fs,f.tag < 4294967295) (hFi:∀ fd ∈ fs,Z17 P f55 fd (Zc fd)) (hUsm:∀ fd ∈ fs,0≤fd.tag→Z1S P f58 fd) (hHa:HasM P f54) (hAt:AtM P f56) (hKn:Z6M P f57) (hUn:UnkM P f60) (hWh:Z6L P f61) (hUv:UvWM P f59):Z1W P f fs (Z07 fs):=by
  refine ⟨enters_of hf hname hbody,?_⟩;intro w A B v ver flex ct t hfs ht hA hB hlen
  cases t with
  | mk n s nl l u =>
  have ht0:=ht;obtain ⟨sv,lv,uv,rfl,hn,hs,hl,hu⟩:=Z0x.1 ht;obtain ⟨encs,hencs⟩:∃ x,x=ZY fs ver flex l 0:=⟨_,rfl⟩;obtain ⟨q,cap,hv,hbig,hk⟩:=hfs.slice;subst hv;have hknl:=Z5w htg;have hPW:Z07 fs ver flex (.mk n s nl l u)=if flex then Z0T fs ver encs fs.length++(uvW ((Zl fs (.mk n s nl l u) encs).length+(ZC fs (.mk n s nl l u)).length)++((Zl fs (.mk n s nl l u) encs).flatMap ZP++(ZC fs (.mk n s nl l u)).flatMap ZP)) else Z0T fs ver encs fs.length:=by rw[hencs,← List.flatMap_append];rfl
  rw[hPW] at hlen;have hb0:(Z0T fs ver encs fs.length).length≤4294967296:=by
    split at hlen
    · simp only[List.length_append] at hlen;omega
    exact hlen
  refine calls_of_wp hf hbody ?_;generalize ha0:({ tmps:=#[Value.slice q fs.length cap,Value.int .i64 ver,Value.bool flex,Value.agg ([.int .i64 n,sv,.bool nl,lv,uv]:List Value).toArray]++Array.replicate (fn.ntmps - (#[Value.slice q fs.length cap,Value.int .i64 ver,Value.bool flex,Value.agg ([.int .i64 n,sv,.bool nl,lv,uv]:List Value).toArray]:Array Value).size) undef,defers:=[] }:Act)=a0;have hz0:a0.tmps.size=132:=by subst ha0;simp[hN]
  have hd0:a0.defers=[]:=by subst ha0;rfl
  have g0_0:get a0 0 = .slice q fs.length cap:=by subst ha0;exact gAr rfl
  have g0_1:get a0 1 = .int .i64 ver:=by subst ha0;exact gAr rfl
  have g0_2:get a0 2 = .bool flex:=by subst ha0;exact gAr rfl
  have g0_3:get a0 3 = .agg ([.int .i64 n,sv,.bool nl,lv,uv]:List Value).toArray:=by subst ha0;exact gAr rfl
  refine wT fun K1 hK1=>?_;refine wC (ZL (cs:=[.int .i64 n,sv,.bool nl,lv,uv]) (eK g0_3) ?_);rintro w2 f2 sz2 r2 th2;have hF3:Fr [] w w2:=f2;refine wC (wAs (v:=.slice none 0 0) rfl ?_);refine wEk hz0 hd0 fun a4 ha4 hz4 hd4=>?_;have g4_0:=kP ha4 g0_0;have g4_1:=kP ha4 g0_1;have g4_2:=kP ha4 g0_2;have g4_3:=kP ha4 g0_3;have g4_7:get a4 7 = .pointer (some ⟨w.heap.size,0,none⟩):=kG ha4 hz0;have g4_8:get a4 8 = .slice none 0 0:=kG ha4 hz0;refine hK1 a4 w2 (tUp ?_);refine tId (wp_seq_k fun K5 hK5=>?_);have hS0:w.heap.size+1≤w2.heap.size:=by omega
  refine Z2 ?_;refine wC (wAs (v:=.slice none 0 0) rfl ?_);refine wC (wAs (v:=.slice none 0 0) rfl ?_);refine wEk hz4 hd4 fun a6 ha6 hz6 hd6=>?_;have g6_0:=kP ha6 g4_0;have g6_1:=kP ha6 g4_1;have g6_2:=kP ha6 g4_2;have g6_3:=kP ha6 g4_3;have g6_7:=kP ha6 g4_7;have g6_8:=kP ha6 g4_8;have g6_9:get a6 9 = .slice none 0 0:=kG ha6 hz4;have g6_10:get a6 10 = .slice none 0 0:=kG ha6 hz4;refine hK5 a6 w2 (tUp ?_);refine wT fun K7 hK7=>?_;refine wC (wAs (v:=.int .i64 0) rfl ?_);refine wEk hz6 hd6 fun a8 ha8 hz8 hd8=>?_;have g8_0:=kP ha8 g6_0;have g8_1:=kP ha8 g6_1;have g8_2:=kP ha8 g6_2;have g8_3:=kP ha8 g6_3;have g8_7:=kP ha8 g6_7;have g8_8:=kP ha8 g6_8;have g8_9:=kP ha8 g6_9;have g8_10:=kP ha8 g6_10;have g8_11:get a8 11 = .int .i64 0:=kG ha8 hz6;refine hK7 a8 w2 (tUp ?_);refine tId (wp_seq_k fun K9 hK9=>?_);refine wS fun K10 hK10=>?_;refine wC (wMv (v:=.slice q fs.length cap) (eK g8_0) ?_);refine wC (Zs (n:=fs.length) hsT29 (eS hz8) ?_);refine wC (wMv (v:=.int .i64 0) rfl ?_);refine wEk hz8 hd8 fun a11 ha11 hz11 hd11=>?_;have g11_0:=kP ha11 g8_0;have g11_1:=kP ha11 g8_1;have g11_2:=kP ha11 g8_2;have g11_3:=kP ha11 g8_3;have g11_7:=kP ha11 g8_7;have g11_8:=kP ha11 g8_8;have g11_9:=kP ha11 g8_9;have g11_10:=kP ha11 g8_10;have g11_11:=kP ha11 g8_11;have g11_21:get a11 21 = .slice q fs.length cap:=kG ha11 hz8;have g11_22:get a11 22 = .int .i64 ((fs.length:Nat):Int):=kG ha11 hz8;have g11_23:get a11 23 = .int .i64 0:=kG ha11 hz8;refine hK10 a11 w2 ?_;refine wp_block (wp_loop_ghost (fun (m:Nat) a' w'=>∃ (j:Nat) (v9:Value),a'.tmps.size=132∧a'.defers=[]∧get a' 0 = .slice q fs.length cap∧get a' 1 = .int .i64 ver∧get a' 2 = .bool flex∧get a' 3 = .agg ([.int .i64 n,sv,.bool nl,lv,uv]:List Value).toArray∧get a' 7 = .pointer (some ⟨w.heap.size,0,none⟩)∧get a' 8 = .slice none 0 0∧get a' 9=v9∧get a' 10 = .slice none 0 0∧get a' 11 = .int .i64 0∧get a' 21 = .slice q fs.length cap∧get a' 22 = .int .i64 ((fs.length:Nat):Int)∧get a' 23 = .int .i64 (j:Int)∧j+m=fs.length∧Own w' (From w2.heap.size w') 1 v9 (Z0T fs ver encs j).length (Z0 (Z0T fs ver encs j))∧w'.rangeAt w.heap.size 0 [.int .i64 n,sv,.bool nl,lv,uv]∧Fr [] w w'∧w2.heap.size≤w'.heap.size) fs.length ?_ ?_)
  · exact ⟨0,.slice none 0 0,hz11,hd11,g11_0,g11_1,g11_2,g11_3,g11_7,g11_8,g11_9,g11_10,g11_11,g11_21,g11_22,g11_23,by omega,Own.nil,r2,hF3,(Fr.refl [] w2).size⟩
  rintro m a12 w12 ⟨j,v9,hz12,hd12,g12_0,g12_1,g12_2,g12_3,g12_7,g12_8,g12_9,g12_10,g12_11,g12_21,g12_22,g12_23,hjm,ho,hbl,hfl,hSl⟩;refine wS fun K13 hK13=>?_;refine wC (Z0g (k1:=.i64) (i:=(j:Int)) (j:=((fs.length:Nat):Int)) (eK g12_23) (eK g12_22) ?_);refine wEk hz12 hd12 fun a14 ha14 hz14 hd14=>?_;have g14_0:=kP ha14 g12_0;have g14_1:=kP ha14 g12_1;have g14_2:=kP ha14 g12_2;have g14_3:=kP ha14 g12_3;have g14_7:=kP ha14 g12_7;have g14_8:=kP ha14 g12_8;have g14_9:=kP ha14 g12_9;have g14_10:=kP ha14 g12_10;have g14_11:=kP ha14 g12_11;have g14_21:=kP ha14 g12_21;have g14_22:=kP ha14 g12_22;have g14_23:=kP ha14 g12_23;have g14_24:get a14 24 = .bool (decide (((j:Int):Int) < (((fs.length:Nat):Int):Int))):=kG ha14 hz12;refine hK13 a14 w12 ?_;refine wp_seq_k fun K15 hK15=>?_;refine wp_cond_split (t:=decide (((j:Int):Int) < (((fs.length:Nat):Int):Int))) (eK g14_24) (fun hc16=>?_) (fun hc16=>?_)
  · have hjl : j < fs.length := by simpa using hc16
    obtain ⟨fd,hfd⟩:∃ fd,fs[j]?=some fd:=⟨fs[j],by simp[hjl]⟩;obtain ⟨bl,ol,cl,hq,hbl2,hrl,hrep⟩:=hk j fd hfd;obtain ⟨fsv,rfl,hsub⟩:=ZO.1 hrep;have hFm:=hFi fd (List.mem_of_getElem? hfd);have henc:encs.getD j []=Zc fd ver flex (atT l j):=by rw[hencs,Z2h fs ver flex l 0 j fd hfd,Nat.zero_add]
    have hbs:=Z7g (ver:=ver) (encs:=encs) hfd;have hble:=Z6D (ver:=ver) (encs:=encs) (fs:=fs) (n:=j+1) (m:=fs.length) (by omega);rw[henc] at hbs;refine wp_skip ?_;refine hK15 a14 w12 ?_;refine wp_seq_k fun K17 hK17=>?_;refine Zj ?_;refine wS fun K18 hK18=>?_;refine wC (wMv (v:=.int .i64 (j:Int)) (eK g14_23) ?_);refine wC (Z10 (b:=bl) (o:=ol) (i:=j) hs_T29 (by rw[eTm,nZ (by decide),g14_21,hq]) (eK g14_23) hjl ?_);refine wC (Z7 (cs:=[.int .i64 fd.kind,.int .i64 fd.fr,.int .i64 fd.to,.int .i64 fd.nul,.int .i64 fd.tag,.int .i64 fd.df,.int .i64 fd.of,fsv]) (b:=bl) (o:=ol+j * 8) hFlT45 rfl (eS hz14) (hfl.range hrl .nil) ?_);refine wC (Z0w hFlT45 ?_);rintro w19 f19 sz19 r19 th19;have hF20:Fr [] w w19:=hfl.tr f19;have hL20_w12:Fr [] w12 w19:=(Fr.refl [] w12).tr f19;have rb21:=f19.range hbl .nil;refine wC (wAs (v:=.int .i64 (j:Int)) (eS hz14) ?_);refine wC (Z0f (cs:=[.int .i64 fd.kind,.int .i64 fd.fr,.int .i64 fd.to,.int .i64 fd.nul,.int .i64 fd.tag,.int .i64 fd.df,.int .i64 fd.of,fsv]) (o:=0) hFlT45 rfl (eS hz14) (eS hz14) (by intro u hu;simp at hu;rcases hu with rfl | rfl | rfl | rfl | rfl | rfl | rfl | rfl <;> first | rfl | exact hsub.one) th19 ?_);rintro w22 f22 sz22 r22 th22;have hF22:Fr [] w w22:=hF20.trans f22 (fun r hr=>.inl (by simp at hr;subst hr;have:=hfl.size;simp only;omega));have rb23:=f22.range rb21 (.cons (.inl (by simp only;omega)) .nil);have hL22_w12:Fr [] w12 w22:=hL20_w12.trans f22 (fun r hr=>.inl (by simp at hr;subst hr;have:=(Fr.refl [] w12).size;simp only;omega));refine wEk hz14 hd14 fun a24 ha24 hz24 hd24=>?_;have g24_0:=kP ha24 g14_0;have g24_1:=kP ha24 g14_1;have g24_2:=kP ha24 g14_2;have g24_3:=kP ha24 g14_3;have g24_7:=kP ha24 g14_7;have g24_8:=kP ha24 g14_8;have g24_9:=kP ha24 g14_9;have g24_10:=kP ha24 g14_10;have g24_11:=kP ha24 g14_11;have g24_12:get a24 12 = .int .i64 (j:Int):=kG ha24 hz14;have g24_13:get a24 13 = .pointer (some ⟨w12.heap.size,0,none⟩):=kG ha24 hz14;have g24_21:=kP ha24 g14_21;have g24_22:=kP ha24 g14_22;have g24_23:=kP ha24 g14_23;refine hK18 a24 w22 ?_;refine wp_seq_k fun K25 hK25=>?_
    by_cases hft:fd.tag < 0
    · refine ZV ?_;refine gCn ?_;refine wFa (b := w12.heap.size) (i := 0) (hFlT45.fld (by decide)) (eK g24_13) ?_;rw [show (0 + 4 : Nat) = 4 from rfl];refine gCn ?_;refine wL0 (j := 4) (v := .int .i64 fd.tag) hcT3 (eS hz24) r22 rfl ?_;refine gCn ?_;refine Z1g (k1 := .i64) (i := fd.tag) (j := 0) hft (eS hz24) rfl ?_;refine gCn ?_;refine wMv (v := .bool true) (eS hz24) ?_;refine Zm (dj := 31) rfl (lZ hz24) (gS hz24) ?_;refine Z7 (cs := [.int .i64 fd.kind, .int .i64 fd.fr, .int .i64 fd.to, .int .i64 fd.nul, .int .i64 fd.tag, .int .i64 fd.df, .int .i64 fd.of, fsv]) (b := w12.heap.size) (o := 0) hFlT45 rfl (eK g24_13) r22 ?_;refine Zm (dj := 31) rfl (lZ hz24) (gS hz24) ?_;refine wMv (v := .int .i64 ver) (eK g24_1) ?_;refine Zm (dj := 31) rfl (lZ hz24) (gS hz24) ?_;refine wCr (R := fun x wz => x = .bool (fd.has ver) ∧ Fr [] w22 wz) (vs := #[.agg ([.int .i64 fd.kind, .int .i64 fd.fr, .int .i64 fd.to, .int .i64 fd.nul, .int .i64 fd.tag, .int .i64 fd.df, .int .i64 fd.of, fsv] : List Value).toArray, .int .i64 ver]) hHa.enters (mX2 (eS hz24) (eS hz24)) ((hHa.call w22 A _ fd ver (hrep.kept hF22 (by simp) (fun _ h => h))).mono (by rintro e w' ⟨rfl, hf⟩; exact ⟨_, rfl, rfl, hf⟩)) ?_;rintro x26 w26 ⟨rfl, fr26⟩;have hF27 : Fr [] w w26 := hF22.tr fr26;have hL27_w12 : Fr [] w12 w26 := hL22_w12.tr fr26;have rb28 := fr26.range rb23 .nil;have rb29 := fr26.range r22 .nil;refine gCn ?_;refine Zq (v := .bool (fd.has ver)) (eS hz24) (eS hz24) ?_;refine Z0l fun a30 ha30 => ?_;have hz30 := kS ha30 hz24;have hd30 := kD ha30 hd24;have g30_0 := kP ha30 g24_0;have g30_1 := kP ha30 g24_1;have g30_2 := kP ha30 g24_2;have g30_3 := kP ha30 g24_3;have g30_7 := kP ha30 g24_7;have g30_8 := kP ha30 g24_8;have g30_9 := kP ha30 g24_9;have g30_10 := kP ha30 g24_10;have g30_11 := kP ha30 g24_11;have g30_12 := kP ha30 g24_12;have g30_13 := kP ha30 g24_13;have g30_21 := kP ha30 g24_21;have g30_22 := kP ha30 g24_22;have g30_23 := kP ha30 g24_23;have g30_35 : get a30 35 = .bool (fd.has ver) := kG ha30 hz24;refine hK25 a30 w26 ?_;refine wp_cond_split (t := (fd.has ver)) (eK g30_35) (fun hc31 => ?_) (fun hc31 => ?_)
      · have hcond : (decide (fd.tag < 0) && fd.has ver) = true := by simp [hft, hc31]
        refine Z0V (os:=[oM 36 9 t23 p23 e23,oL 37 T45 13 t24 p24 e24,oM 38 1 t25 p25 e25,oM 39 2 t26 p26 e26,oL 40 T26 7 t27 p27 e27,oM 41 12 t28 p28 e28,oC 42 f56 #[(.tmp 40),(.tmp 41)] ct1 t29 p29 e29,oC 43 f55 #[(.tmp 37),(.tmp 38),(.tmp 39),(.tmp 42)] ct2 t30 p30 e30]) (rest:=[⟨some 44,.call ⟨.builtin .append,#[(.tmp 36),(.tmp 43)],#[T22,T22]⟩,t31,p31,e31,none⟩,oT 9 44 t32 p32 e32]) [spC [] (v9),spC [] (.agg ([.int .i64 fd.kind,.int .i64 fd.fr,.int .i64 fd.to,.int .i64 fd.nul,.int .i64 fd.tag,.int .i64 fd.df,.int .i64 fd.of,fsv]:List Value).toArray),spC [] (.int .i64 ver),spC [] (.bool flex),spC [] (.agg ([.int .i64 n,sv,.bool nl,lv,uv]:List Value).toArray),spC [] (.int .i64 (j:Int)),spR [4,5] (fun x w'=>∃ cs:List Value,x = .agg cs.toArray∧RepT w' B cs (atT l j)),spR [1,2,3,6] (fun x w'=>Own w' (From w26.heap.size w') 1 x (Zc fd ver flex (atT l j)).length (Z0 (Zc fd ver flex (atT l j))))] 36 [] hmx he7 (by simp[Z0R]) (by simp[Z13]) (by simp[spC,spR]) (by simp;omega) ⟨lCc _ _ _,lCc _ _ _,lCc _ _ _,lCc _ _ _,lCc _ _ _,lCc _ _ _,(fun v w1 w2 f h=>by obtain ⟨cs,h1,h2⟩:=h;exact ⟨cs,h1,h2.kept f (by simp) (fun _ h=>h)⟩),(fun v w1 w2 f h=>h.upTo f (From.mono f.size)),trivial⟩ ?_ ?_
        · refine oCs ?_ ?_
          · refine op_c fun a' w' hk' hf' hd' K' hK'=>?_;refine wMv (v:=v9) (by rw[eTm,hk'.get 9 (by omega),g30_9]) ?_;exact hK'
          refine oCs ?_ ?_
          · refine op_c fun a' w' hk' hf' hd' K' hK'=>?_;refine Z7 (cs:=[.int .i64 fd.kind,.int .i64 fd.fr,.int .i64 fd.to,.int .i64 fd.nul,.int .i64 fd.tag,.int .i64 fd.df,.int .i64 fd.of,fsv]) (b:=w12.heap.size) (o:=0) hFlT45 rfl (by rw[eTm,hk'.get 13 (by omega),g30_13]) (hf'.range rb29 .nil) ?_;exact hK'
          refine oCs ?_ ?_
          · refine op_c fun a' w' hk' hf' hd' K' hK'=>?_;refine wMv (v:=.int .i64 ver) (by rw[eTm,hk'.get 1 (by omega),g30_1]) ?_;exact hK'
          refine oCs ?_ ?_
          · refine op_c fun a' w' hk' hf' hd' K' hK'=>?_;refine wMv (v:=.bool flex) (by rw[eTm,hk'.get 2 (by omega),g30_2]) ?_;exact hK'
          refine oCs ?_ ?_
          · refine op_c fun a' w' hk' hf' hd' K' hK'=>?_;refine Z7 (cs:=[.int .i64 n,sv,.bool nl,lv,uv]) (b:=w.heap.size) (o:=0) hFlT26 rfl (by rw[eTm,hk'.get 7 (by omega),g30_7]) (hf'.range rb28 .nil) ?_;exact hK'
          refine oCs ?_ ?_
          · refine op_c fun a' w' hk' hf' hd' K' hK'=>?_;refine wMv (v:=.int .i64 (j:Int)) (by rw[eTm,hk'.get 12 (by omega),g30_12]) ?_;exact hK'
          refine oCs ?_ ?_
          · refine op_r fun a' w' hk' hf' hd' K' hK'=>?_;refine wCr (R:=fun x wz=>∃ cs:List Value,x = .agg cs.toArray∧Fr [] w' wz∧((∀ b,B b→b < w'.heap.size)→RepT wz B cs (atT l j))) (vs:=#[.agg ([.int .i64 n,sv,.bool nl,lv,uv]:List Value).toArray,.int .i64 (j:Int)]) hAt.enters (by simp only[List.map_toArray,List.map_cons,List.map_nil];rw[show a'.eval (.tmp 40)=Value.agg ([.int .i64 n,sv,.bool nl,lv,uv]:List Value).toArray from (by rw[eTm];exact hd'.c (nd':=[]) 4 (by simp) rfl),show a'.eval (.tmp 41)=Value.int .i64 (j:Int) from (by rw[eTm];exact hd'.c (nd':=[]) 5 (by simp) rfl)]) ((hAt.call w' B _ (.mk n s nl l u) j (ht0.kept (hF27.tr hf') (by simp) (fun _ h=>h))).mono (by rintro e wz ⟨cs,rfl,h1,h2⟩;exact ⟨_,rfl,cs,rfl,h1,h2⟩)) ?_;rintro _ w32 ⟨cs32,rfl,fr32,hr32⟩;exact hK' _ w32 ⟨cs32,rfl,hr32 (fun b hb=>Nat.lt_of_lt_of_le (hB b hb) (hF27.tr hf').size)⟩ fr32
          refine oCs ?_ ?_
          · refine op_r fun a' w' hk' hf' hd' K' hK'=>?_;obtain ⟨ct',hct,hrt'⟩:∃ cs:List Value,get a' 42 = .agg cs.toArray∧RepT w' B cs (atT l j):=hd'.at (d:=6) (by simp) rfl;refine wCr (R:=fun vz wz=>Fr [] w' wz∧Own wz (From w'.heap.size wz) 1 vz (Zc fd ver flex (atT l j)).length (Z0 (Zc fd ver flex (atT l j)))) (vs:=#[.agg ([.int .i64 fd.kind,.int .i64 fd.fr,.int .i64 fd.to,.int .i64 fd.nul,.int .i64 fd.tag,.int .i64 fd.df,.int .i64 fd.of,fsv]:List Value).toArray,.int .i64 ver,.bool flex,.agg ct'.toArray]) hFm.enters (by simp only[List.map_toArray,List.map_cons,List.map_nil];rw[show a'.eval (.tmp 37)=Value.agg ([.int .i64 fd.kind,.int .i64 fd.fr,.int .i64 fd.to,.int .i64 fd.nul,.int .i64 fd.tag,.int .i64 fd.df,.int .i64 fd.of,fsv]:List Value).toArray from (by rw[eTm];exact hd'.c (nd':=[]) 1 (by simp) rfl),show a'.eval (.tmp 38)=Value.int .i64 ver from (by rw[eTm];exact hd'.c (nd':=[]) 2 (by simp) rfl),show a'.eval (.tmp 39)=Value.bool flex from (by rw[eTm];exact hd'.c (nd':=[]) 3 (by simp) rfl),show a'.eval (.tmp 42)=Value.agg ct'.toArray from (by rw[eTm];exact hct)]) (Za (hFm.call w' A B ver flex _ ct' (atT l j) (hrep.kept (hF27.tr hf') (by simp) (fun _ h=>h)) hrt' (fun b hb=>Nat.lt_of_lt_of_le (hA b hb) (hF27.tr hf').size) (fun b hb=>Nat.lt_of_lt_of_le (hB b hb) (hF27.tr hf').size) (by rw[hbs,if_pos hcond,List.length_append] at hble;omega))) ?_;rintro x33 w33 ⟨fr33,ow33⟩;exact hK' x33 w33 (ow33.from hf'.size) fr33
          exact ZX
        intro a34 w34 k34 f34 hd_34;have g34_0:get a34 0 = .slice q fs.length cap:=by rw[k34.get 0 (by omega),g30_0]
        have g34_1:get a34 1 = .int .i64 ver:=by rw[k34.get 1 (by omega),g30_1]
        have g34_2:get a34 2 = .bool flex:=by rw[k34.get 2 (by omega),g30_2]
        have g34_3:get a34 3 = .agg ([.int .i64 n,sv,.bool nl,lv,uv]:List Value).toArray:=by rw[k34.get 3 (by omega),g30_3]
        have g34_7:get a34 7 = .pointer (some ⟨w.heap.size,0,none⟩):=by rw[k34.get 7 (by omega),g30_7]
        have g34_8:get a34 8 = .slice none 0 0:=by rw[k34.get 8 (by omega),g30_8]
        have g34_10:get a34 10 = .slice none 0 0:=by rw[k34.get 10 (by omega),g30_10]
        have g34_11:get a34 11 = .int .i64 0:=by rw[k34.get 11 (by omega),g30_11]
        have g34_21:get a34 21 = .slice q fs.length cap:=by rw[k34.get 21 (by omega),g30_21]
        have g34_22:get a34 22 = .int .i64 ((fs.length:Nat):Int):=by rw[k34.get 22 (by omega),g30_22]
        have g34_23:get a34 23 = .int .i64 (j:Int):=by rw[k34.get 23 (by omega),g30_23]
        have hz34:a34.tmps.size=132:=k34.size.trans hz30;have hd34:a34.defers=[]:=k34.defers.trans hd30;have g34_36:get a34 36=v9:=hd_34.c (nd':=[]) 0 (by simp) rfl;have hF35:Fr [] w w34:=hF27.tr f34;have hL35_w12:Fr [] w12 w34:=hL27_w12.tr f34;have rb36:=f34.range rb28 .nil;have rb37:=f34.range rb29 .nil;have hv:Own w34 (From w26.heap.size w34) 1 (get a34 43) (Zc fd ver flex (atT l j)).length (Z0 (Zc fd ver flex (atT l j))):=hd_34.at (d:=7) (by simp) rfl;rw[wCo];have ob38:=ho.upTo hL35_w12 (From.mono hL35_w12.size);have hSl38:w2.heap.size≤w34.heap.size:=Nat.le_trans hSl hL35_w12.size;refine Z0c hs_T22 hz_T22 (eK g34_36) rfl ob38 (hv.octE (by rw[hbs,if_pos hcond,List.length_append] at hble;omega)) (by rw[hbs,if_pos hcond,List.length_append] at hble;omega) ?_;rintro v38 w38 fa38 oa38 sp38 bk38;have ho38:=oa38.imp_A (Z2W hSl38 fa38.size);have hF38:Fr [] w w38:=Z0C hF35 fa38 (ob38.from (s0:=w.heap.size) (by omega)) (fun b hb=>hb.1);have rb39:=fa38.range rb36 (fun r hr=>.inl fun e=>by have:=(ob38.spare_in r hr).1;have:=hS0;omega);refine wC (wAs (v:=v38) (eS hz34) ?_);refine wEk hz34 hd34 fun a40 ha40 hz40 hd40=>?_;have g40_0:=kP ha40 g34_0;have g40_1:=kP ha40 g34_1;have g40_2:=kP ha40 g34_2;have g40_3:=kP ha40 g34_3;have g40_7:=kP ha40 g34_7;have g40_8:=kP ha40 g34_8;have g40_9:get a40 9=v38:=kG ha40 hz34;have g40_10:=kP ha40 g34_10;have g40_11:=kP ha40 g34_11;have g40_21:=kP ha40 g34_21;have g40_22:=kP ha40 g34_22;have g40_23:=kP ha40 g34_23;have hSN:=Nat.le_trans hSl38 fa38.size;refine hK17 a40 w38 ?_;refine Z2 ?_;refine wC (ZF (k1:=.i64) (i:=(j:Int)) (j:=1) (eK g40_23) rfl ?_);rw[show (IntKind.i64.wrap (((j:Int):Int)+(1:Int)):Int)=(((j+1:Nat):Int):Int) from by simp only[IntKind.wrap,IntKind.bits,IntKind.signed];simp;omega];refine wC (wMv (v:=.int .i64 ((j+1:Nat):Int)) (eS hz40) ?_);refine wEk hz40 hd40 fun a41 ha41 hz41 hd41=>?_;have g41_0:=kP ha41 g40_0;have g41_1:=kP ha41 g40_1;have g41_2:=kP ha41 g40_2;have g41_3:=kP ha41 g40_3;have g41_7:=kP ha41 g40_7;have g41_8:=kP ha41 g40_8;have g41_9:=kP ha41 g40_9;have g41_10:=kP ha41 g40_10;have g41_11:=kP ha41 g40_11;have g41_21:=kP ha41 g40_21;have g41_22:=kP ha41 g40_22;have g41_23:get a41 23 = .int .i64 ((j+1:Nat):Int):=kG ha41 hz40;refine ⟨m - 1,by omega,j+1,_,hz41,hd41,g41_0,g41_1,g41_2,g41_3,g41_7,g41_8,g41_9,g41_10,g41_11,g41_21,g41_22,g41_23,by omega,?_,rb39,hF38,?_⟩
        · rw[hbs,if_pos hcond];exact ho38
        exact hSN
      have hcond:(decide (fd.tag < 0) && fd.has ver)=false:=by simp[hft,hc31]
      refine wp_skip ?_;refine hK17 a30 w26 ?_;refine Z2 ?_;refine wC (ZF (k1:=.i64) (i:=(j:Int)) (j:=1) (eK g30_23) rfl ?_);rw[show (IntKind.i64.wrap (((j:Int):Int)+(1:Int)):Int)=(((j+1:Nat):Int):Int) from by simp only[IntKind.wrap,IntKind.bits,IntKind.signed];simp;omega];refine wC (wMv (v:=.int .i64 ((j+1:Nat):Int)) (eS hz30) ?_);refine wEk hz30 hd30 fun a42 ha42 hz42 hd42=>?_;have g42_0:=kP ha42 g30_0;have g42_1:=kP ha42 g30_1;have g42_2:=kP ha42 g30_2;have g42_3:=kP ha42 g30_3;have g42_7:=kP ha42 g30_7;have g42_8:=kP ha42 g30_8;have g42_9:=kP ha42 g30_9;have g42_10:=kP ha42 g30_10;have g42_11:=kP ha42 g30_11;have g42_21:=kP ha42 g30_21;have g42_22:=kP ha42 g30_22;have g42_23:get a42 23 = .int .i64 ((j+1:Nat):Int):=kG ha42 hz30;refine ⟨m - 1,by omega,j+1,_,hz42,hd42,g42_0,g42_1,g42_2,g42_3,g42_7,g42_8,g42_9,g42_10,g42_11,g42_21,g42_22,g42_23,by omega,?_,rb28,hF27,?_⟩
      · rw[hbs,hcond,if_neg (by simp),List.append_nil];exact ho.upTo hL27_w12 (From.mono hL27_w12.size)
      exact Nat.le_trans hSl hL27_w12.size
    have hcond:(decide (fd.tag < 0) && fd.has ver)=false:=by simp[hft]
    refine ZV ?_;refine gCn ?_;refine wFa (b:=w12.heap.size) (i:=0) (hFlT45.fld (by decide)) (eK g24_13) ?_;rw[show (0+4:Nat)=4 from rfl];refine gCn ?_;refine wL0 (j:=4) (v:=.int .i64 fd.tag) hcT3 (eS hz24) r22 rfl ?_;refine gCn ?_;refine Z1h (k1:=.i64) (i:=fd.tag) (j:=0) hft (eS hz24) rfl ?_;refine gCn ?_;refine wMv (v:=.bool false) (eS hz24) ?_;refine Z00 (dj:=31) rfl (lZ hz24) (gS hz24) ?_;refine Z00 (dj:=31) rfl (lZ hz24) (gS hz24) ?_;refine Z00 (dj:=31) rfl (lZ hz24) (gS hz24) ?_;refine gCn ?_;refine ZJ (v:=.bool false) (eS hz24) rfl ?_;refine Z0l fun a43 ha43=>?_;have hz43:=kS ha43 hz24;have hd43:=kD ha43 hd24;have g43_0:=kP ha43 g24_0;have g43_1:=kP ha43 g24_1;have g43_2:=kP ha43 g24_2;have g43_3:=kP ha43 g24_3;have g43_7:=kP ha43 g24_7;have g43_8:=kP ha43 g24_8;have g43_9:=kP ha43 g24_9;have g43_10:=kP ha43 g24_10;have g43_11:=kP ha43 g24_11;have g43_21:=kP ha43 g24_21;have g43_22:=kP ha43 g24_22;have g43_23:=kP ha43 g24_23;have g43_35:get a43 35 = .bool false:=kG ha43 hz24;refine hK25 a43 w22 ?_;refine wp_cond_split (t:=false) (eK g43_35) (fun h=>by cases h) (fun _=>?_);refine wp_skip ?_;refine hK17 a43 w22 ?_;refine Z2 ?_;refine wC (ZF (k1:=.i64) (i:=(j:Int)) (j:=1) (eK g43_23) rfl ?_);rw[show (IntKind.i64.wrap (((j:Int):Int)+(1:Int)):Int)=(((j+1:Nat):Int):Int) from by simp only[IntKind.wrap,IntKind.bits,IntKind.signed];simp;omega];refine wC (wMv (v:=.int .i64 ((j+1:Nat):Int)) (eS hz43) ?_);refine wEk hz43 hd43 fun a45 ha45 hz45 hd45=>?_;have g45_0:=kP ha45 g43_0;have g45_1:=kP ha45 g43_1;have g45_2:=kP ha45 g43_2;have g45_3:=kP ha45 g43_3;have g45_7:=kP ha45 g43_7;have g45_8:=kP ha45 g43_8;have g45_9:=kP ha45 g43_9;have g45_10:=kP ha45 g43_10;have g45_11:=kP ha45 g43_11;have g45_21:=kP ha45 g43_21;have g45_22:=kP ha45 g43_22;have g45_23:get a45 23 = .int .i64 ((j+1:Nat):Int):=kG ha45 hz43;refine ⟨m - 1,by omega,j+1,_,hz45,hd45,g45_0,g45_1,g45_2,g45_3,g45_7,g45_8,g45_9,g45_10,g45_11,g45_21,g45_22,g45_23,by omega,?_,rb23,hF22,?_⟩
    · rw[hbs,hcond,if_neg (by simp),List.append_nil];exact ho.upTo hL22_w12 (From.mono hL22_w12.size)
    exact Nat.le_trans hSl hL22_w12.size
  have hj0:j=fs.length:=by simp at hc16;omega
  rw[hj0] at ho;refine wp_exit ?_;show K9 a14 w12
  refine hK9 a14 w12 (tUp ?_);refine tId (wp_seq_k fun K46 hK46=>?_);refine wS fun K47 hK47=>?_;refine wC (wMv (v:=.bool flex) (eK g14_2) ?_);refine wC (Z3n (b:=flex) (eS hz14) ?_);refine wEk hz14 hd14 fun a48 ha48 hz48 hd48=>?_;have g48_0:=kP ha48 g14_0;have g48_1:=kP ha48 g14_1;have g48_2:=kP ha48 g14_2;have g48_3:=kP ha48 g14_3;have g48_7:=kP ha48 g14_7;have g48_8:=kP ha48 g14_8;have g48_9:=kP ha48 g14_9;have g48_10:=kP ha48 g14_10;have g48_11:=kP ha48 g14_11;have g48_21:=kP ha48 g14_21;have g48_22:=kP ha48 g14_22;have g48_23:=kP ha48 g14_23;have g48_47:get a48 47 = .bool (!flex):=kG ha48 hz14;refine hK47 a48 w12 ?_;refine wp_cond_split (t := !flex) (eK g48_47) (fun hc49=>?_) (fun hc49=>?_)
  · have hfx : flex = false := by simpa using hc49
    refine wS fun K50 hK50=>?_;refine wC (wMv (v:=v9) (eK g48_9) ?_);refine wC (wAs (v:=v9) (eS hz48) ?_);refine wEk hz48 hd48 fun a51 ha51 hz51 hd51=>?_;have g51_8:get a51 8=v9:=kG ha51 hz48;refine hK50 a51 w12 ?_;refine wp_ret ?_;rw[hPW,hfx,if_neg (by simp)];exact ⟨hd51,_,rIs hres g51_8,_,rfl,hfl,ho.from (by omega)⟩
  have hfx:flex=true:=by simpa using hc49
  have hlenF:(Z0T fs ver encs fs.length).length+(uvW ((Zl fs (.mk n s nl l u) encs).length+(ZC fs (.mk n s nl l u)).length)).length+((Zl fs (.mk n s nl l u) encs).flatMap ZP).length+((ZC fs (.mk n s nl l u)).flatMap ZP).length≤4294967296:=by rw[hfx,if_pos rfl] at hlen;simp only[List.length_append] at hlen;omega
  have hkl0:=Z2U (Zl fs (.mk n s nl l u) encs);refine wp_skip ?_;refine hK46 a48 w12 (tUp ?_);refine tId (wp_seq_k fun K52 hK52=>?_);refine wS fun K53 hK53=>?_;refine wC (wMv (v:=.slice q fs.length cap) (eK g48_0) ?_);refine wC (wCr (R:=fun x wz=>x = .int .u32 ((Z5 fs:Nat):Int)∧Fr [] w12 wz) (vs:=#[.slice q fs.length cap]) hKn.enters (mX1 (eS hz48)) ((hKn.call w12 A _ fs (hfs.kept hfl (by simp) (fun _ h=>h)) htg).mono (by rintro e w' ⟨rfl,hf⟩;exact ⟨_,rfl,rfl,hf⟩)) ?_);rintro x54 w54 ⟨rfl,fr54⟩;have hF55:Fr [] w w54:=hfl.tr fr54;have hL55_w12:Fr [] w12 w54:=(Fr.refl [] w12).tr fr54;have rb56:=fr54.range hbl .nil;refine wC (wCv (k1:=.u32) (i:=((Z5 fs:Nat):Int)) hT59_u32 hT3_i64 (eS hz48) ?_);rw[show (IntKind.i64.wrap (((Z5 fs:Nat):Int):Int))=(((Z5 fs:Nat):Int):Int) from by simp only[IntKind.wrap,IntKind.bits,IntKind.signed];simp;omega];refine wC (wMv (v:=.int .i64 0) rfl ?_);refine wEk hz48 hd48 fun a57 ha57 hz57 hd57=>?_;have g57_0:=kP ha57 g48_0;have g57_1:=kP ha57 g48_1;have g57_2:=kP ha57 g48_2;have g57_3:=kP ha57 g48_3;have g57_7:=kP ha57 g48_7;have g57_8:=kP ha57 g48_8;have g57_9:=kP ha57 g48_9;have g57_10:=kP ha57 g48_10;have g57_11:=kP ha57 g48_11;have g57_21:=kP ha57 g48_21;have g57_22:=kP ha57 g48_22;have g57_23:=kP ha57 g48_23;have g57_51:get a57 51 = .int .i64 ((Z5 fs:Nat):Int):=kG ha57 hz48;have g57_52:get a57 52 = .int .i64 0:=kG ha57 hz48;have ho1:=ho.upTo hL55_w12 (From.mono hL55_w12.size);have hb9:∀ b,blk v9=some b→b < w54.heap.size:=fun b hb=>(ho1.blk_lt hb).2;have hS1:w2.heap.size≤w54.heap.size:=Nat.le_trans hSl hL55_w12.size;refine hK53 a57 w54 ?_;refine wp_block (wp_loop_ghost (fun (m2:Nat) a' w'=>∃ (k:Nat) (v10:Value),a'.tmps.size=132∧a'.defers=[]∧get a' 0 = .slice q fs.length cap∧get a' 1 = .int .i64 ver∧get a' 2 = .bool flex∧get a' 3 = .agg ([.int .i64 n,sv,.bool nl,lv,uv]:List Value).toArray∧get a' 7 = .pointer (some ⟨w.heap.size,0,none⟩)∧get a' 8 = .slice none 0 0∧get a' 9=v9∧get a' 10=v10∧get a' 11 = .int .i64 (((knUp fs (.mk n s nl l u) encs k).length:Nat):Int)∧get a' 21 = .slice q fs.length cap∧get a' 22 = .int .i64 ((fs.length:Nat):Int)∧get a' 23 = .int .i64 (j:Int)∧get a' 51 = .int .i64 ((Z5 fs:Nat):Int)∧get a' 52 = .int .i64 (k:Int)∧k+m2=Z5 fs∧Own w' (From w2.heap.size w') 1 v9 ((Z0T fs ver encs fs.length)).length (Z0 (Z0T fs ver encs fs.length))∧Own w' (From w54.heap.size w') 1 v10 (((knUp fs (.mk n s nl l u) encs k).flatMap ZP)).length (Z0 ((knUp fs (.mk n s nl l u) encs k).flatMap ZP))∧w'.rangeAt w.heap.size 0 [.int .i64 n,sv,.bool nl,lv,uv]∧Fr [] w w'∧w54.heap.size≤w'.heap.size) (Z5 fs) ?_ ?_)
  · exact ⟨0,.slice none 0 0,hz57,hd57,g57_0,g57_1,g57_2,g57_3,g57_7,g57_8,g57_9,g57_10,g57_11,g57_21,g57_22,g57_23,g57_51,g57_52,by omega,ho1,Own.nil,rb56,hF55,Nat.le_refl _⟩
  rintro m2 a58 w58 ⟨k,v10,hz58,hd58,g58_0,g58_1,g58_2,g58_3,g58_7,g58_8,g58_9,g58_10,g58_11,g58_21,g58_22,g58_23,g58_51,g58_52,hkm,ho2,ho10,hbl3,hfl2,hSl2⟩;refine wS fun K59 hK59=>?_;refine wC (Z0g (k1:=.i64) (i:=(k:Int)) (j:=((Z5 fs:Nat):Int)) (eK g58_52) (eK g58_51) ?_);refine wEk hz58 hd58 fun a60 ha60 hz60 hd60=>?_;have g60_0:=kP ha60 g58_0;have g60_1:=kP ha60 g58_1;have g60_2:=kP ha60 g58_2;have g60_3:=kP ha60 g58_3;have g60_7:=kP ha60 g58_7;have g60_8:=kP ha60 g58_8;have g60_9:=kP ha60 g58_9;have g60_10:=kP ha60 g58_10;have g60_11:=kP ha60 g58_11;have g60_21:=kP ha60 g58_21;have g60_22:=kP ha60 g58_22;have g60_23:=kP ha60 g58_23;have g60_51:=kP ha60 g58_51;have g60_52:=kP ha60 g58_52;have g60_53:get a60 53 = .bool (decide (((k:Int):Int) < (((Z5 fs:Nat):Int):Int))):=kG ha60 hz58;refine hK59 a60 w58 ?_;refine wp_seq_k fun K61 hK61=>?_;refine wp_cond_split (t:=decide (((k:Int):Int) < (((Z5 fs:Nat):Int):Int))) (eK g60_53) (fun hc62=>?_) (fun hc62=>?_)
  · have hkl : k < Z5 fs := by simpa using hc62
    refine wp_skip ?_;refine hK61 a60 w58 ?_;refine wp_seq_k fun K63 hK63=>?_;refine Zj ?_;refine wS fun K64 hK64=>?_;refine wC (wMv (v:=.int .i64 (k:Int)) (eK g60_52) ?_);refine wC (wAs (v:=.int .i64 (k:Int)) (eS hz60) ?_);refine wEk hz60 hd60 fun a65 ha65 hz65 hd65=>?_;have g65_0:=kP ha65 g60_0;have g65_1:=kP ha65 g60_1;have g65_2:=kP ha65 g60_2;have g65_3:=kP ha65 g60_3;have g65_7:=kP ha65 g60_7;have g65_8:=kP ha65 g60_8;have g65_9:=kP ha65 g60_9;have g65_10:=kP ha65 g60_10;have g65_11:=kP ha65 g60_11;have g65_14:get a65 14 = .int .i64 (k:Int):=kG ha65 hz60;have g65_21:=kP ha65 g60_21;have g65_22:=kP ha65 g60_22;have g65_23:=kP ha65 g60_23;have g65_51:=kP ha65 g60_51;have g65_52:=kP ha65 g60_52;refine hK64 a65 w58 ?_;refine wS fun K66 hK66=>?_;refine wC (wMv (v:=.slice q fs.length cap) (eK g65_0) ?_);refine wC (Zs (n:=fs.length) hsT29 (eS hz65) ?_);refine wC (wMv (v:=.int .i64 0) rfl ?_);refine wEk hz65 hd65 fun a67 ha67 hz67 hd67=>?_;have g67_0:=kP ha67 g65_0;have g67_1:=kP ha67 g65_1;have g67_2:=kP ha67 g65_2;have g67_3:=kP ha67 g65_3;have g67_7:=kP ha67 g65_7;have g67_8:=kP ha67 g65_8;have g67_9:=kP ha67 g65_9;have g67_10:=kP ha67 g65_10;have g67_11:=kP ha67 g65_11;have g67_14:=kP ha67 g65_14;have g67_21:=kP ha67 g65_21;have g67_22:=kP ha67 g65_22;have g67_23:=kP ha67 g65_23;have g67_51:=kP ha67 g65_51;have g67_52:=kP ha67 g65_52;have g67_55:get a67 55 = .slice q fs.length cap:=kG ha67 hz65;have g67_56:get a67 56 = .int .i64 ((fs.length:Nat):Int):=kG ha67 hz65;have g67_57:get a67 57 = .int .i64 0:=kG ha67 hz65;refine hK66 a67 w58 ?_;rw[← Z80 (fs:=fs) (t:=(.mk n s nl l u)) (encs:=encs) (k:=k)] at ho10 g67_11;refine wp_block (wp_loop_ghost (fun (m4:Nat) a' w'=>∃ (j4:Nat) (u10:Value),a'.tmps.size=132∧a'.defers=[]∧get a' 0 = .slice q fs.length cap∧get a' 1 = .int .i64 ver∧get a' 2 = .bool flex∧get a' 3 = .agg ([.int .i64 n,sv,.bool nl,lv,uv]:List Value).toArray∧get a' 7 = .pointer (some ⟨w.heap.size,0,none⟩)∧get a' 8 = .slice none 0 0∧get a' 9=v9∧get a' 10=u10∧get a' 11 = .int .i64 (((knTo fs (.mk n s nl l u) encs k j4).length:Nat):Int)∧get a' 14 = .int .i64 (k:Int)∧get a' 21 = .slice q fs.length cap∧get a' 22 = .int .i64 ((fs.length:Nat):Int)∧get a' 23 = .int .i64 (j:Int)∧get a' 51 = .int .i64 ((Z5 fs:Nat):Int)∧get a' 52 = .int .i64 (k:Int)∧get a' 55 = .slice q fs.length cap∧get a' 56 = .int .i64 ((fs.length:Nat):Int)∧get a' 57 = .int .i64 (j4:Int)∧j4+m4=fs.length∧Own w' (From w2.heap.size w') 1 v9 ((Z0T fs ver encs fs.length)).length (Z0 (Z0T fs ver encs fs.length))∧Own w' (From w54.heap.size w') 1 u10 (((knTo fs (.mk n s nl l u) encs k j4).flatMap ZP)).length (Z0 ((knTo fs (.mk n s nl l u) encs k j4).flatMap ZP))∧w'.rangeAt w.heap.size 0 [.int .i64 n,sv,.bool nl,lv,uv]∧Fr [] w w'∧w54.heap.size≤w'.heap.size) fs.length ?_ ?_)
    · exact ⟨0,v10,hz67,hd67,g67_0,g67_1,g67_2,g67_3,g67_7,g67_8,g67_9,g67_10,g67_11,g67_14,g67_21,g67_22,g67_23,g67_51,g67_52,g67_55,g67_56,g67_57,by omega,ho2.upTo (Fr.refl [] w58) (From.mono (Fr.refl [] w58).size),ho10.upTo (Fr.refl [] w58) (From.mono (Fr.refl [] w58).size),hbl3,hfl2,Nat.le_trans hSl2 (Fr.refl [] w58).size⟩
    rintro m4 a68 w68 ⟨j4,u10,hz68,hd68,g68_0,g68_1,g68_2,g68_3,g68_7,g68_8,g68_9,g68_10,g68_11,g68_14,g68_21,g68_22,g68_23,g68_51,g68_52,g68_55,g68_56,g68_57,hjm4,ho4,hp4,hbl4,hfl4,hSl4⟩;refine wS fun K69 hK69=>?_;refine wC (Z0g (k1:=.i64) (i:=(j4:Int)) (j:=((fs.length:Nat):Int)) (eK g68_57) (eK g68_56) ?_);refine wEk hz68 hd68 fun a70 ha70 hz70 hd70=>?_;have g70_0:=kP ha70 g68_0;have g70_1:=kP ha70 g68_1;have g70_2:=kP ha70 g68_2;have g70_3:=kP ha70 g68_3;have g70_7:=kP ha70 g68_7;have g70_8:=kP ha70 g68_8;have g70_9:=kP ha70 g68_9;have g70_10:=kP ha70 g68_10;have g70_11:=kP ha70 g68_11;have g70_14:=kP ha70 g68_14;have g70_21:=kP ha70 g68_21;have g70_22:=kP ha70 g68_22;have g70_23:=kP ha70 g68_23;have g70_51:=kP ha70 g68_51;have g70_52:=kP ha70 g68_52;have g70_55:=kP ha70 g68_55;have g70_56:=kP ha70 g68_56;have g70_57:=kP ha70 g68_57;have g70_58:get a70 58 = .bool (decide (((j4:Int):Int) < (((fs.length:Nat):Int):Int))):=kG ha70 hz68;refine hK69 a70 w68 ?_;refine wp_seq_k fun K71 hK71=>?_;refine wp_cond_split (t:=decide (((j4:Int):Int) < (((fs.length:Nat):Int):Int))) (eK g70_58) (fun hc72=>?_) (fun hc72=>?_)
    · have hjl : j4 < fs.length := by simpa using hc72
      obtain ⟨fd,hfd⟩:∃ fd,fs[j4]?=some fd:=⟨fs[j4],by simp[hjl]⟩;obtain ⟨bl,ol,cl,hq,hbl2,hrl,hrep⟩:=hk j4 fd hfd;obtain ⟨fsv,rfl,hsub⟩:=ZO.1 hrep;have hFm:=hFi fd (List.mem_of_getElem? hfd);have henc:encs.getD j4 []=Zc fd ver flex (atT l j4):=by rw[hencs,Z2h fs ver flex l 0 j4 fd hfd,Nat.zero_add]
      obtain ⟨kr,hkr⟩:=knTo_pre (fs:=fs) (t:=(.mk n s nl l u)) (encs:=encs) hkl (show j4+1≤fs.length from hjl);have hkpl:((knTo fs (.mk n s nl l u) encs k (j4+1)).flatMap ZP).length≤((Zl fs (.mk n s nl l u) encs).flatMap ZP).length:=by rw[hkr,List.flatMap_append,List.length_append];omega
      have hkll:=Z2U (knTo fs (.mk n s nl l u) encs k (j4+1));have hks:=Z81 (fs:=fs) (t:=(.mk n s nl l u)) (encs:=encs) (k:=k) (j:=j4);refine wp_skip ?_;refine hK71 a70 w68 ?_;refine wp_seq_k fun K73 hK73=>?_;refine Zj ?_;refine wS fun K74 hK74=>?_;refine wC (wMv (v:=.int .i64 (j4:Int)) (eK g70_57) ?_);refine wC (Z10 (b:=bl) (o:=ol) (i:=j4) hs_T29 (by rw[eTm,nZ (by decide),g70_55,hq]) (eK g70_57) hjl ?_);refine wC (Z7 (cs:=[.int .i64 fd.kind,.int .i64 fd.fr,.int .i64 fd.to,.int .i64 fd.nul,.int .i64 fd.tag,.int .i64 fd.df,.int .i64 fd.of,fsv]) (b:=bl) (o:=ol+j4 * 8) hFlT45 rfl (eS hz70) (hfl4.range hrl .nil) ?_);refine wC (Z0w hFlT45 ?_);rintro w75 f75 sz75 r75 th75;have hF76:Fr [] w w75:=hfl4.tr f75;have hL76_w68:Fr [] w68 w75:=(Fr.refl [] w68).tr f75;have rb77:=f75.range hbl4 .nil;refine wC (wAs (v:=.int .i64 (j4:Int)) (eS hz70) ?_);refine wC (Z0f (cs:=[.int .i64 fd.kind,.int .i64 fd.fr,.int .i64 fd.to,.int .i64 fd.nul,.int .i64 fd.tag,.int .i64 fd.df,.int .i64 fd.of,fsv]) (o:=0) hFlT45 rfl (eS hz70) (eS hz70) (by intro u hu;simp at hu;rcases hu with rfl | rfl | rfl | rfl | rfl | rfl | rfl | rfl <;> first | rfl | exact hsub.one) th75 ?_);rintro w78 f78 sz78 r78 th78;have hF78:Fr [] w w78:=hF76.trans f78 (fun r hr=>.inl (by simp at hr;subst hr;have:=hfl4.size;simp only;omega));have rb79:=f78.range rb77 (.cons (.inl (by simp only;omega)) .nil);have hL78_w68:Fr [] w68 w78:=hL76_w68.trans f78 (fun r hr=>.inl (by simp at hr;subst hr;have:=(Fr.refl [] w68).size;simp only;omega));refine wEk hz70 hd70 fun a80 ha80 hz80 hd80=>?_;have g80_0:=kP ha80 g70_0;have g80_1:=kP ha80 g70_1;have g80_2:=kP ha80 g70_2;have g80_3:=kP ha80 g70_3;have g80_7:=kP ha80 g70_7;have g80_8:=kP ha80 g70_8;have g80_9:=kP ha80 g70_9;have g80_10:=kP ha80 g70_10;have g80_11:=kP ha80 g70_11;have g80_14:=kP ha80 g70_14;have g80_15:get a80 15 = .int .i64 (j4:Int):=kG ha80 hz70;have g80_16:get a80 16 = .pointer (some ⟨w68.heap.size,0,none⟩):=kG ha80 hz70;have g80_21:=kP ha80 g70_21;have g80_22:=kP ha80 g70_22;have g80_23:=kP ha80 g70_23;have g80_51:=kP ha80 g70_51;have g80_52:=kP ha80 g70_52;have g80_55:=kP ha80 g70_55;have g80_56:=kP ha80 g70_56;have g80_57:=kP ha80 g70_57;refine hK74 a80 w78 ?_;refine wp_seq_k fun K81 hK81=>?_
      by_cases hte:fd.tag=((k:Nat):Int)
      · have hUs := hUsm fd (List.mem_of_getElem? hfd) (by omega);refine Z0k [spC [] (.pointer (some ⟨w68.heap.size, 4, none⟩)), spC [0] (.int .i64 fd.tag), spC [] (.int .i64 (k : Int)), spC [1, 2] (.bool true), spC [3] (.bool true), spC [4] (.agg ([.int .i64 fd.kind, .int .i64 fd.fr, .int .i64 fd.to, .int .i64 fd.nul, .int .i64 fd.tag, .int .i64 fd.df, .int .i64 fd.of, fsv] : List Value).toArray), spC [4] (.agg ([.int .i64 n, sv, .bool nl, lv, uv] : List Value).toArray), spC [4] (.int .i64 (j4 : Int)), spR [4, 6, 7] (fun x w' => ∃ cs : List Value, x = .agg cs.toArray ∧ RepT w' B cs (atT l j4)), spR [4, 5, 8] (fun x w' => x = .bool (ZG fd (atT l j4))), spC [4, 9] (.bool (!(ZG fd (atT l j4)))), spC [4, 10] (.bool (!(ZG fd (atT l j4))))] 62 [] hmx he17 (by simp [Z0R]) (by simp [spC, spR]) (by simp; omega) ⟨lCc _ _ _, lCc _ _ _, lCc _ _ _, lCc _ _ _, lCc _ _ _, lCc _ _ _, lCc _ _ _, lCc _ _ _, (fun v w1 w2 f h => by obtain ⟨cs, h1, h2⟩ := h; exact ⟨cs, h1, h2.kept f (by simp) (fun _ h => h)⟩), (fun v w1 w2 f h => h), lCc _ _ _, lCc _ _ _, trivial⟩ ?_ ?_
        · refine oCs ?_ ?_
          · refine op_c fun a' w' hk' hf' hd' K' hK'=>?_;refine wFa (b:=w68.heap.size) (i:=0) (hFlT45.fld (by decide)) (by rw[eTm,hk'.get 16 (by omega),g80_16]) ?_;rw[show (0+4:Nat)=4 from rfl];exact hK'
          refine oCs ?_ ?_
          · refine op_c fun a' w' hk' hf' hd' K' hK'=>?_;refine wL0 (j:=4) (v:=.int .i64 fd.tag) hcT3 (by rw[eTm];exact hd'.c (nd':=[]) 0 (by simp) rfl) (hf'.range r78 .nil) rfl ?_;exact hK'
          refine oCs ?_ ?_
          · refine op_c fun a' w' hk' hf' hd' K' hK'=>?_;refine wMv (v:=.int .i64 (k:Int)) (by rw[eTm,hk'.get 14 (by omega),g80_14]) ?_;exact hK'
          refine oCs ?_ ?_
          · refine op_c fun a' w' hk' hf' hd' K' hK'=>?_;refine Z11 (k1:=.i64) (i:=fd.tag) (j:=(k:Int)) hte (by rw[eTm];exact hd'.c (nd':=[0]) 1 (by simp) rfl) (by rw[eTm];exact hd'.c (nd':=[]) 2 (by simp) rfl) ?_;exact hK'
          refine oCs ?_ ?_
          · refine op_c fun a' w' hk' hf' hd' K' hK'=>?_;refine wMv (v:=.bool true) (by rw[eTm];exact hd'.c (nd':=[1,2]) 3 (by simp) rfl) ?_;exact hK'
          refine oCs ?_ ?_
          · refine ZK rfl (by decide) (fun a w h=>h.c (nd':=[3]) 4 (by simp[spC,spR]) rfl) ?_;refine op_c fun a' w' hk' hf' hd' K' hK'=>?_;refine Z7 (cs:=[.int .i64 fd.kind,.int .i64 fd.fr,.int .i64 fd.to,.int .i64 fd.nul,.int .i64 fd.tag,.int .i64 fd.df,.int .i64 fd.of,fsv]) (b:=w68.heap.size) (o:=0) hFlT45 rfl (by rw[eTm,hk'.get 16 (by omega),g80_16]) (hf'.range r78 .nil) ?_;exact hK'
          refine oCs ?_ ?_
          · refine ZK rfl (by decide) (fun a w h=>h.c (nd':=[3]) 4 (by simp[spC,spR]) rfl) ?_;refine op_c fun a' w' hk' hf' hd' K' hK'=>?_;refine Z7 (cs:=[.int .i64 n,sv,.bool nl,lv,uv]) (b:=w.heap.size) (o:=0) hFlT26 rfl (by rw[eTm,hk'.get 7 (by omega),g80_7]) (hf'.range rb79 .nil) ?_;exact hK'
          refine oCs ?_ ?_
          · refine ZK rfl (by decide) (fun a w h=>h.c (nd':=[3]) 4 (by simp[spC,spR]) rfl) ?_;refine op_c fun a' w' hk' hf' hd' K' hK'=>?_;refine wMv (v:=.int .i64 (j4:Int)) (by rw[eTm,hk'.get 15 (by omega),g80_15]) ?_;exact hK'
          refine oCs ?_ ?_
          · refine ZK rfl (by decide) (fun a w h=>h.c (nd':=[3]) 4 (by simp[spC,spR]) rfl) ?_;refine op_r fun a' w' hk' hf' hd' K' hK'=>?_;refine wCr (R:=fun x wz=>∃ cs:List Value,x = .agg cs.toArray∧Fr [] w' wz∧((∀ b,B b→b < w'.heap.size)→RepT wz B cs (atT l j4))) (vs:=#[.agg ([.int .i64 n,sv,.bool nl,lv,uv]:List Value).toArray,.int .i64 (j4:Int)]) hAt.enters (by simp only[List.map_toArray,List.map_cons,List.map_nil];rw[show a'.eval (.tmp 68)=Value.agg ([.int .i64 n,sv,.bool nl,lv,uv]:List Value).toArray from (by rw[eTm];exact hd'.c (nd':=[4]) 6 (by simp) rfl),show a'.eval (.tmp 69)=Value.int .i64 (j4:Int) from (by rw[eTm];exact hd'.c (nd':=[4]) 7 (by simp) rfl)]) ((hAt.call w' B _ (.mk n s nl l u) j4 (ht0.kept (hF78.tr hf') (by simp) (fun _ h=>h))).mono (by rintro e wz ⟨cs,rfl,h1,h2⟩;exact ⟨_,rfl,cs,rfl,h1,h2⟩)) ?_;rintro _ w82 ⟨cs82,rfl,fr82,hr82⟩;exact hK' _ w82 ⟨cs82,rfl,hr82 (fun b hb=>Nat.lt_of_lt_of_le (hB b hb) (hF78.tr hf').size)⟩ fr82
          refine oCs ?_ ?_
          · refine ZK rfl (by decide) (fun a w h=>h.c (nd':=[3]) 4 (by simp[spC,spR]) rfl) ?_;refine op_r fun a' w' hk' hf' hd' K' hK'=>?_;obtain ⟨ct',hct,hrt'⟩:∃ cs:List Value,get a' 70 = .agg cs.toArray∧RepT w' B cs (atT l j4):=hd'.at (d:=8) (by simp) rfl;refine wCr (R:=fun x wz=>x = .bool (ZG fd (atT l j4))∧Fr [] w' wz) (vs:=#[.agg ([.int .i64 fd.kind,.int .i64 fd.fr,.int .i64 fd.to,.int .i64 fd.nul,.int .i64 fd.tag,.int .i64 fd.df,.int .i64 fd.of,fsv]:List Value).toArray,.agg ct'.toArray]) hUs.enters (by simp only[List.map_toArray,List.map_cons,List.map_nil];rw[show a'.eval (.tmp 67)=Value.agg ([.int .i64 fd.kind,.int .i64 fd.fr,.int .i64 fd.to,.int .i64 fd.nul,.int .i64 fd.tag,.int .i64 fd.df,.int .i64 fd.of,fsv]:List Value).toArray from (by rw[eTm];exact hd'.c (nd':=[4]) 5 (by simp) rfl),show a'.eval (.tmp 70)=Value.agg ct'.toArray from (by rw[eTm];exact hct)]) ((hUs.call w' A B _ _ _ (hrep.kept (hF78.tr hf') (by simp) (fun _ h=>h)) hrt').mono (by rintro e wz ⟨rfl,h⟩;exact ⟨_,rfl,rfl,h⟩)) ?_;rintro x wz ⟨rfl,fr⟩;exact hK' _ wz rfl fr
          refine oCs ?_ ?_
          · refine ZK rfl (by decide) (fun a w h=>h.c (nd':=[3]) 4 (by simp[spC,spR]) rfl) ?_;refine op_c fun a' w' hk' hf' hd' K' hK'=>?_;have hu9:get a' 71 = .bool (ZG fd (atT l j4)):=hd'.at (d:=9) (by simp) rfl;refine Z3n (b:=ZG fd (atT l j4)) (by rw[eTm];exact hu9) ?_;exact hK'
          refine oCs ?_ ?_
          · refine op_c fun a' w' hk' hf' hd' K' hK'=>?_;refine Zq (v:=.bool (!(ZG fd (atT l j4)))) (by rw[eTm];exact hd'.c (nd':=[3]) 4 (by simp) rfl) (by rw[eTm];exact hd'.c (nd':=[4,9]) 10 (by simp) rfl) ?_;exact hK'
          exact ZX
        intro a83 w83 k83 f83 hd_83;have g83_0:get a83 0 = .slice q fs.length cap:=by rw[k83.get 0 (by omega),g80_0]
        have g83_1:get a83 1 = .int .i64 ver:=by rw[k83.get 1 (by omega),g80_1]
        have g83_2:get a83 2 = .bool flex:=by rw[k83.get 2 (by omega),g80_2]
        have g83_3:get a83 3 = .agg ([.int .i64 n,sv,.bool nl,lv,uv]:List Value).toArray:=by rw[k83.get 3 (by omega),g80_3]
        have g83_7:get a83 7 = .pointer (some ⟨w.heap.size,0,none⟩):=by rw[k83.get 7 (by omega),g80_7]
        have g83_8:get a83 8 = .slice none 0 0:=by rw[k83.get 8 (by omega),g80_8]
        have g83_9:get a83 9=v9:=by rw[k83.get 9 (by omega),g80_9]
        have g83_10:get a83 10=u10:=by rw[k83.get 10 (by omega),g80_10]
        have g83_11:get a83 11 = .int .i64 (((knTo fs (.mk n s nl l u) encs k j4).length:Nat):Int):=by rw[k83.get 11 (by omega),g80_11]
        have g83_14:get a83 14 = .int .i64 (k:Int):=by rw[k83.get 14 (by omega),g80_14]
        have g83_15:get a83 15 = .int .i64 (j4:Int):=by rw[k83.get 15 (by omega),g80_15]
        have g83_16:get a83 16 = .pointer (some ⟨w68.heap.size,0,none⟩):=by rw[k83.get 16 (by omega),g80_16]
        have g83_21:get a83 21 = .slice q fs.length cap:=by rw[k83.get 21 (by omega),g80_21]
        have g83_22:get a83 22 = .int .i64 ((fs.length:Nat):Int):=by rw[k83.get 22 (by omega),g80_22]
        have g83_23:get a83 23 = .int .i64 (j:Int):=by rw[k83.get 23 (by omega),g80_23]
        have g83_51:get a83 51 = .int .i64 ((Z5 fs:Nat):Int):=by rw[k83.get 51 (by omega),g80_51]
        have g83_52:get a83 52 = .int .i64 (k:Int):=by rw[k83.get 52 (by omega),g80_52]
        have g83_55:get a83 55 = .slice q fs.length cap:=by rw[k83.get 55 (by omega),g80_55]
        have g83_56:get a83 56 = .int .i64 ((fs.length:Nat):Int):=by rw[k83.get 56 (by omega),g80_56]
        have g83_57:get a83 57 = .int .i64 (j4:Int):=by rw[k83.get 57 (by omega),g80_57]
        have hz83:a83.tmps.size=132:=k83.size.trans hz80;have hd83:a83.defers=[]:=k83.defers.trans hd80;have g83_73:get a83 73 = .bool (!(ZG fd (atT l j4))):=hd_83.c (nd':=[4,10]) 11 (by simp) rfl;have hF84:Fr [] w w83:=hF78.tr f83;have hL84_w68:Fr [] w68 w83:=hL78_w68.tr f83;have rb85:=f83.range rb79 .nil;have rb86:=f83.range r78 .nil;refine hK81 a83 w83 ?_;refine wp_cond_split (t := !(ZG fd (atT l j4))) (eK g83_73) (fun hc87=>?_) (fun hc87=>?_)
        · have hkn : knAt fs (.mk n s nl l u) encs k j4 = [(k, Zc fd ver flex (atT l j4))] := by rw [← henc]; simpa [knAt, hfd, hte, T.l] using hc87
          refine wp_seq_k fun K88 hK88=>?_;rw[hkn] at hks;have hpk:(knTo fs (.mk n s nl l u) encs k (j4+1)).flatMap ZP=(((knTo fs (.mk n s nl l u) encs k j4).flatMap ZP++uvW k)++uvW (Zc fd ver flex (atT l j4)).length)++Zc fd ver flex (atT l j4):=by rw[hks];simp[List.flatMap_append,ZP]
          rw[hpk] at hkpl;simp only[List.length_append] at hkpl;have hkl2:(knTo fs (.mk n s nl l u) encs k j4).length≤4294967296:=by have:=Z2U (knTo fs (.mk n s nl l u) encs k j4);omega
          have hoA:=hp4.upTo hL84_w68 (From.mono hL84_w68.size);refine Z0V (os:=[oL 74 T45 16 t68 p68 e68,oM 75 1 t69 p69 e69,oM 76 2 t70 p70 e70,oL 77 T26 7 t71 p71 e71,oM 78 15 t72 p72 e72,oC 79 f56 #[(.tmp 77),(.tmp 78)] ct6 t73 p73 e73,oC 80 f55 #[(.tmp 74),(.tmp 75),(.tmp 76),(.tmp 79)] ct7 t74 p74 e74]) (rest:=[oT 17 80 t75 p75 e75]) [spC [] (.agg ([.int .i64 fd.kind,.int .i64 fd.fr,.int .i64 fd.to,.int .i64 fd.nul,.int .i64 fd.tag,.int .i64 fd.df,.int .i64 fd.of,fsv]:List Value).toArray),spC [] (.int .i64 ver),spC [] (.bool flex),spC [] (.agg ([.int .i64 n,sv,.bool nl,lv,uv]:List Value).toArray),spC [] (.int .i64 (j4:Int)),spR [3,4] (fun x w'=>∃ cs:List Value,x = .agg cs.toArray∧RepT w' B cs (atT l j4)),spR [0,1,2,5] (fun x w'=>Own w' (From w83.heap.size w') 1 x (Zc fd ver flex (atT l j4)).length (Z0 (Zc fd ver flex (atT l j4))))] 74 [] hmx he18 (by simp[Z0R]) (by simp[Z13]) (by simp[spC,spR]) (by simp;omega) ⟨lCc _ _ _,lCc _ _ _,lCc _ _ _,lCc _ _ _,lCc _ _ _,(fun v w1 w2 f h=>by obtain ⟨cs,h1,h2⟩:=h;exact ⟨cs,h1,h2.kept f (by simp) (fun _ h=>h)⟩),(fun v w1 w2 f h=>h.upTo f (From.mono f.size)),trivial⟩ ?_ ?_
          · refine oCs ?_ ?_
            · refine op_c fun a' w' hk' hf' hd' K' hK'=>?_;refine Z7 (cs:=[.int .i64 fd.kind,.int .i64 fd.fr,.int .i64 fd.to,.int .i64 fd.nul,.int .i64 fd.tag,.int .i64 fd.df,.int .i64 fd.of,fsv]) (b:=w68.heap.size) (o:=0) hFlT45 rfl (by rw[eTm,hk'.get 16 (by omega),g83_16]) (hf'.range rb86 .nil) ?_;exact hK'
            refine oCs ?_ ?_
            · refine op_c fun a' w' hk' hf' hd' K' hK'=>?_;refine wMv (v:=.int .i64 ver) (by rw[eTm,hk'.get 1 (by omega),g83_1]) ?_;exact hK'
            refine oCs ?_ ?_
            · refine op_c fun a' w' hk' hf' hd' K' hK'=>?_;refine wMv (v:=.bool flex) (by rw[eTm,hk'.get 2 (by omega),g83_2]) ?_;exact hK'
            refine oCs ?_ ?_
            · refine op_c fun a' w' hk' hf' hd' K' hK'=>?_;refine Z7 (cs:=[.int .i64 n,sv,.bool nl,lv,uv]) (b:=w.heap.size) (o:=0) hFlT26 rfl (by rw[eTm,hk'.get 7 (by omega),g83_7]) (hf'.range rb85 .nil) ?_;exact hK'
            refine oCs ?_ ?_
            · refine op_c fun a' w' hk' hf' hd' K' hK'=>?_;refine wMv (v:=.int .i64 (j4:Int)) (by rw[eTm,hk'.get 15 (by omega),g83_15]) ?_;exact hK'
            refine oCs ?_ ?_
            · refine op_r fun a' w' hk' hf' hd' K' hK'=>?_;refine wCr (R:=fun x wz=>∃ cs:List Value,x = .agg cs.toArray∧Fr [] w' wz∧((∀ b,B b→b < w'.heap.size)→RepT wz B cs (atT l j4))) (vs:=#[.agg ([.int .i64 n,sv,.bool nl,lv,uv]:List Value).toArray,.int .i64 (j4:Int)]) hAt.enters (by simp only[List.map_toArray,List.map_cons,List.map_nil];rw[show a'.eval (.tmp 77)=Value.agg ([.int .i64 n,sv,.bool nl,lv,uv]:List Value).toArray from (by rw[eTm];exact hd'.c (nd':=[]) 3 (by simp) rfl),show a'.eval (.tmp 78)=Value.int .i64 (j4:Int) from (by rw[eTm];exact hd'.c (nd':=[]) 4 (by simp) rfl)]) ((hAt.call w' B _ (.mk n s nl l u) j4 (ht0.kept (hF84.tr hf') (by simp) (fun _ h=>h))).mono (by rintro e wz ⟨cs,rfl,h1,h2⟩;exact ⟨_,rfl,cs,rfl,h1,h2⟩)) ?_;rintro _ w89 ⟨cs89,rfl,fr89,hr89⟩;exact hK' _ w89 ⟨cs89,rfl,hr89 (fun b hb=>Nat.lt_of_lt_of_le (hB b hb) (hF84.tr hf').size)⟩ fr89
            refine oCs ?_ ?_
            · refine op_r fun a' w' hk' hf' hd' K' hK'=>?_;obtain ⟨ct',hct,hrt'⟩:∃ cs:List Value,get a' 79 = .agg cs.toArray∧RepT w' B cs (atT l j4):=hd'.at (d:=5) (by simp) rfl;refine wCr (R:=fun vz wz=>Fr [] w' wz∧Own wz (From w'.heap.size wz) 1 vz (Zc fd ver flex (atT l j4)).length (Z0 (Zc fd ver flex (atT l j4)))) (vs:=#[.agg ([.int .i64 fd.kind,.int .i64 fd.fr,.int .i64 fd.to,.int .i64 fd.nul,.int .i64 fd.tag,.int .i64 fd.df,.int .i64 fd.of,fsv]:List Value).toArray,.int .i64 ver,.bool flex,.agg ct'.toArray]) hFm.enters (by simp only[List.map_toArray,List.map_cons,List.map_nil];rw[show a'.eval (.tmp 74)=Value.agg ([.int .i64 fd.kind,.int .i64 fd.fr,.int .i64 fd.to,.int .i64 fd.nul,.int .i64 fd.tag,.int .i64 fd.df,.int .i64 fd.of,fsv]:List Value).toArray from (by rw[eTm];exact hd'.c (nd':=[]) 0 (by simp) rfl),show a'.eval (.tmp 75)=Value.int .i64 ver from (by rw[eTm];exact hd'.c (nd':=[]) 1 (by simp) rfl),show a'.eval (.tmp 76)=Value.bool flex from (by rw[eTm];exact hd'.c (nd':=[]) 2 (by simp) rfl),show a'.eval (.tmp 79)=Value.agg ct'.toArray from (by rw[eTm];exact hct)]) (Za (hFm.call w' A B ver flex _ ct' (atT l j4) (hrep.kept (hF84.tr hf') (by simp) (fun _ h=>h)) hrt' (fun b hb=>Nat.lt_of_lt_of_le (hA b hb) (hF84.tr hf').size) (fun b hb=>Nat.lt_of_lt_of_le (hB b hb) (hF84.tr hf').size) (by omega))) ?_;rintro x90 w90 ⟨fr90,ow90⟩;exact hK' x90 w90 (ow90.from hf'.size) fr90
            exact ZX
          intro a91 w91 k91 f91 hd_91;have g91_0:get a91 0 = .slice q fs.length cap:=by rw[k91.get 0 (by omega),g83_0]
          have g91_1:get a91 1 = .int .i64 ver:=by rw[k91.get 1 (by omega),g83_1]
          have g91_2:get a91 2 = .bool flex:=by rw[k91.get 2 (by omega),g83_2]
          have g91_3:get a91 3 = .agg ([.int .i64 n,sv,.bool nl,lv,uv]:List Value).toArray:=by rw[k91.get 3 (by omega),g83_3]
          have g91_7:get a91 7 = .pointer (some ⟨w.heap.size,0,none⟩):=by rw[k91.get 7 (by omega),g83_7]
          have g91_8:get a91 8 = .slice none 0 0:=by rw[k91.get 8 (by omega),g83_8]
          have g91_9:get a91 9=v9:=by rw[k91.get 9 (by omega),g83_9]
          have g91_10:get a91 10=u10:=by rw[k91.get 10 (by omega),g83_10]
          have g91_11:get a91 11 = .int .i64 (((knTo fs (.mk n s nl l u) encs k j4).length:Nat):Int):=by rw[k91.get 11 (by omega),g83_11]
          have g91_14:get a91 14 = .int .i64 (k:Int):=by rw[k91.get 14 (by omega),g83_14]
          have g91_21:get a91 21 = .slice q fs.length cap:=by rw[k91.get 21 (by omega),g83_21]
          have g91_22:get a91 22 = .int .i64 ((fs.length:Nat):Int):=by rw[k91.get 22 (by omega),g83_22]
          have g91_23:get a91 23 = .int .i64 (j:Int):=by rw[k91.get 23 (by omega),g83_23]
          have g91_51:get a91 51 = .int .i64 ((Z5 fs:Nat):Int):=by rw[k91.get 51 (by omega),g83_51]
          have g91_52:get a91 52 = .int .i64 (k:Int):=by rw[k91.get 52 (by omega),g83_52]
          have g91_55:get a91 55 = .slice q fs.length cap:=by rw[k91.get 55 (by omega),g83_55]
          have g91_56:get a91 56 = .int .i64 ((fs.length:Nat):Int):=by rw[k91.get 56 (by omega),g83_56]
          have g91_57:get a91 57 = .int .i64 (j4:Int):=by rw[k91.get 57 (by omega),g83_57]
          have hz91:a91.tmps.size=132:=k91.size.trans hz83;have hd91:a91.defers=[]:=k91.defers.trans hd83;have hF92:Fr [] w w91:=hF84.tr f91;have hL92_w68:Fr [] w68 w91:=hL84_w68.tr f91;have hL92_w83:Fr [] w83 w91:=(Fr.refl [] w83).tr f91;have rb93:=f91.range rb85 .nil;have rb94:=f91.range rb86 .nil;have hv:Own w91 (From w83.heap.size w91) 1 (get a91 80) (Zc fd ver flex (atT l j4)).length (Z0 (Zc fd ver flex (atT l j4))):=hd_91.at (d:=6) (by simp) rfl;obtain ⟨q17,c17,hs17⟩:=hv.sl;rw[hs17] at hv;refine wC (wAs (v:=.slice q17 ((Zc fd ver flex (atT l j4)).length) c17) (by rw[eTm,hs17]) ?_);refine wEk hz91 hd91 fun a95 ha95 hz95 hd95=>?_;have g95_0:=kP ha95 g91_0;have g95_1:=kP ha95 g91_1;have g95_2:=kP ha95 g91_2;have g95_3:=kP ha95 g91_3;have g95_7:=kP ha95 g91_7;have g95_8:=kP ha95 g91_8;have g95_9:=kP ha95 g91_9;have g95_10:=kP ha95 g91_10;have g95_11:=kP ha95 g91_11;have g95_14:=kP ha95 g91_14;have g95_17:get a95 17 = .slice q17 ((Zc fd ver flex (atT l j4)).length) c17:=kG ha95 hz91;have g95_21:=kP ha95 g91_21;have g95_22:=kP ha95 g91_22;have g95_23:=kP ha95 g91_23;have g95_51:=kP ha95 g91_51;have g95_52:=kP ha95 g91_52;have g95_55:=kP ha95 g91_55;have g95_56:=kP ha95 g91_56;have g95_57:=kP ha95 g91_57;refine hK88 a95 w91 ?_;refine wp_seq_k fun K96 hK96=>?_;have hm0:w54.heap.size≤w83.heap.size:=Nat.le_trans hSl4 hL84_w68.size;have hm1:w83.heap.size≤w91.heap.size:=hL92_w83.size;have hoB:Own w91 (Gap w54.heap.size w83.heap.size w91.heap.size w91) 1 u10 _ _:=hoA.upTo hL92_w83 (fun b hb=>.inl hb);have hvB:OctE w91 (fun b=>w83.heap.size≤b∧b < w91.heap.size) _ _:=hv.octE (by omega);have hxB:=ho4.upTo hL92_w68 (From.mono hL92_w68.size);have hSB:w91.heap.size≤w91.heap.size:=Nat.le_refl _;refine Z2 ?_;refine wC (wMv (v:=u10) (eK g95_10) ?_);refine wC (wMv (v:=.int .i64 (k:Int)) (eK g95_14) ?_);refine wC (wCv (k1:=.i64) (i:=(k:Int)) hT3_i64 hT76_u64 (eS hz95) ?_);rw[show (IntKind.u64.wrap ((k:Int):Int))=(((k:Nat):Int):Int) from by simp only[IntKind.wrap,IntKind.bits,IntKind.signed];simp;omega];refine wC (wCr (R:=fun vz wz=>Fr [] w91 wz∧Own wz (From w91.heap.size wz) 1 vz (uvW k).length (Z0 (uvW k))) (vs:=#[.int .u64 ((k:Nat):Int)]) hUv.enters (mX1 (eS hz95)) (Za (hUv.call w91 k (by omega))) ?_);rintro x97 w97 ⟨fr97,ow97⟩;have hF98:Fr [] w w97:=hF92.tr fr97;have rb99:=fr97.range rb93 .nil;have rb100:=fr97.range rb94 .nil;have hy101:=hvB.kept fr97 (by simp) (fun _ h=>h);have hx101:=hxB.upTo fr97 (From.mono fr97.size);have hS101:=Nat.le_trans hSB fr97.size;have hoo101:=hoB.upTo fr97 (Gap.mono fr97.size);rw[wCo];have ob102:=hoo101;have hSl102:w91.heap.size≤w97.heap.size:=hS101;refine Z0c hs_T22 hz_T22 (eS hz95) (eS hz95) ob102 (ow97.octE (by omega)) (by omega) ?_;rintro v102 w102 fa102 oa102 sp102 bk102;have ho102:Own w102 (Gap w54.heap.size w83.heap.size w91.heap.size w102) 1 v102 _ _:=oa102.imp_A (Z4w hSl102 fa102.size);have hF102:Fr [] w w102:=Z0C hF98 fa102 ob102 (fun b hb=>by rcases hb with hb | hb <;> omega);have rb103:=fa102.range rb99 (fun r hr=>.inl fun e=>by rcases ob102.spare_in r hr with h1 | h1 <;> omega);have hy104:=hy101.kept fa102 (A':=fun b=>w83.heap.size≤b∧b < w91.heap.size) (fun r hr hb=>by rcases ob102.spare_in r hr with h1 | h1 <;> omega) (fun _ h=>h);have hx104:=hx101.kept fa102 (A':=From w2.heap.size w102) (by intro r hr hb g o cap hv e;exfalso;have h2:=hb9 g (by rw[hv];rfl);rcases ob102.spare_in r hr with h1 | h1 <;> omega) (From.mono fa102.size);have hS104:=Nat.le_trans hS101 fa102.size;refine wC (wMv (v:=.slice q17 ((Zc fd ver flex (atT l j4)).length) c17) (eK g95_17) ?_);refine wC (Zs (n:=(Zc fd ver flex (atT l j4)).length) hsT22 (eS hz95) ?_);refine wC (wCv (k1:=.i64) (i:=(((Zc fd ver flex (atT l j4)).length:Nat):Int)) hT3_i64 hT76_u64 (eS hz95) ?_);rw[show (IntKind.u64.wrap ((((Zc fd ver flex (atT l j4)).length:Nat):Int):Int))=((((Zc fd ver flex (atT l j4)).length:Nat):Int):Int) from Z3F (by omega)];refine wC (wCr (R:=fun vz wz=>Fr [] w102 wz∧Own wz (From w102.heap.size wz) 1 vz (uvW ((Zc fd ver flex (atT l j4)).length)).length (Z0 (uvW ((Zc fd ver flex (atT l j4)).length)))) (vs:=#[.int .u64 (((Zc fd ver flex (atT l j4)).length:Nat):Int)]) hUv.enters (mX1 (eS hz95)) (Za (hUv.call w102 ((Zc fd ver flex (atT l j4)).length) (by omega))) ?_);rintro x105 w105 ⟨fr105,ow105⟩;have hF106:Fr [] w w105:=hF102.tr fr105;have rb107:=fr105.range rb103 .nil;have hy108:=hy104.kept fr105 (by simp) (fun _ h=>h);have hx108:=hx104.upTo fr105 (From.mono fr105.size);have hS108:=Nat.le_trans hS104 fr105.size;have hoo108:=ho102.upTo fr105 (Gap.mono fr105.size);rw[wCo];have ob109:=hoo108;have hSl109:w91.heap.size≤w105.heap.size:=hS108;refine Z0c hs_T22 hz_T22 (eS hz95) (eS hz95) ob109 (ow105.octE (by omega)) (by simp only[List.length_append];omega) ?_;rintro v109 w109 fa109 oa109 sp109 bk109;have ho109:Own w109 (Gap w54.heap.size w83.heap.size w91.heap.size w109) 1 v109 _ _:=oa109.imp_A (Z4w hSl109 fa109.size);have hF109:Fr [] w w109:=Z0C hF106 fa109 ob109 (fun b hb=>by rcases hb with hb | hb <;> omega);have rb110:=fa109.range rb107 (fun r hr=>.inl fun e=>by rcases ob109.spare_in r hr with h1 | h1 <;> omega);have hy111:=hy108.kept fa109 (A':=fun b=>w83.heap.size≤b∧b < w91.heap.size) (fun r hr hb=>by rcases ob109.spare_in r hr with h1 | h1 <;> omega) (fun _ h=>h);have hx111:=hx108.kept fa109 (A':=From w2.heap.size w109) (by intro r hr hb g o cap hv e;exfalso;have h2:=hb9 g (by rw[hv];rfl);rcases ob109.spare_in r hr with h1 | h1 <;> omega) (From.mono fa109.size);have hS111:=Nat.le_trans hS108 fa109.size;refine wC (wMv (v:=.slice q17 ((Zc fd ver flex (atT l j4)).length) c17) (eK g95_17) ?_);rw[wCo];have ob112:=ho109;have hSl112:w91.heap.size≤w109.heap.size:=hS111;refine Z0c hs_T22 hz_T22 (eS hz95) (eS hz95) ob112 hy111 (by simp only[List.length_append];omega) ?_;rintro v112 w112 fa112 oa112 sp112 bk112;have ho112:Own w112 (Gap w54.heap.size w83.heap.size w91.heap.size w112) 1 v112 _ _:=oa112.imp_A (Z4w hSl112 fa112.size);have hF112:Fr [] w w112:=Z0C hF109 fa112 ob112 (fun b hb=>by rcases hb with hb | hb <;> omega);have rb113:=fa112.range rb110 (fun r hr=>.inl fun e=>by rcases ob112.spare_in r hr with h1 | h1 <;> omega);have hy114:=hy111.kept fa112 (A':=fun b=>w83.heap.size≤b∧b < w91.heap.size) (fun r hr hb=>by rcases ob112.spare_in r hr with h1 | h1 <;> omega) (fun _ h=>h);have hx114:=hx111.kept fa112 (A':=From w2.heap.size w112) (by intro r hr hb g o cap hv e;exfalso;have h2:=hb9 g (by rw[hv];rfl);rcases ob112.spare_in r hr with h1 | h1 <;> omega) (From.mono fa112.size);have hS114:=Nat.le_trans hS111 fa112.size;refine wC (wAs (v:=v112) (eS hz95) ?_);refine wEk hz95 hd95 fun a115 ha115 hz115 hd115=>?_;have g115_0:=kP ha115 g95_0;have g115_1:=kP ha115 g95_1;have g115_2:=kP ha115 g95_2;have g115_3:=kP ha115 g95_3;have g115_7:=kP ha115 g95_7;have g115_8:=kP ha115 g95_8;have g115_9:=kP ha115 g95_9;have g115_10:get a115 10=v112:=kG ha115 hz95;have g115_11:=kP ha115 g95_11;have g115_14:=kP ha115 g95_14;have g115_21:=kP ha115 g95_21;have g115_22:=kP ha115 g95_22;have g115_23:=kP ha115 g95_23;have g115_51:=kP ha115 g95_51;have g115_52:=kP ha115 g95_52;have g115_55:=kP ha115 g95_55;have g115_56:=kP ha115 g95_56;have g115_57:=kP ha115 g95_57;have hkl1:(knTo fs (.mk n s nl l u) encs k (j4+1)).length=(knTo fs (.mk n s nl l u) encs k j4).length+1:=by rw[hks];simp
          refine hK96 a115 w112 ?_;refine Z2 ?_;refine wC (wMv (v:=.int .i64 (((knTo fs (.mk n s nl l u) encs k j4).length:Nat):Int)) (eK g115_11) ?_);refine wC (ZF (k1:=.i64) (i:=(((knTo fs (.mk n s nl l u) encs k j4).length:Nat):Int)) (j:=1) (eS hz115) rfl ?_);rw[show (IntKind.i64.wrap (((((knTo fs (.mk n s nl l u) encs k j4).length:Nat):Int):Int)+(1:Int)):Int)=((((knTo fs (.mk n s nl l u) encs k (j4+1)).length:Nat):Int):Int) from by rw[hkl1];simp only[IntKind.wrap,IntKind.bits,IntKind.signed];simp;omega];refine wC (wAs (v:=.int .i64 (((knTo fs (.mk n s nl l u) encs k (j4+1)).length:Nat):Int)) (eS hz115) ?_);refine wEk hz115 hd115 fun a116 ha116 hz116 hd116=>?_;have g116_0:=kP ha116 g115_0;have g116_1:=kP ha116 g115_1;have g116_2:=kP ha116 g115_2;have g116_3:=kP ha116 g115_3;have g116_7:=kP ha116 g115_7;have g116_8:=kP ha116 g115_8;have g116_9:=kP ha116 g115_9;have g116_10:=kP ha116 g115_10;have g116_11:get a116 11 = .int .i64 (((knTo fs (.mk n s nl l u) encs k (j4+1)).length:Nat):Int):=kG ha116 hz115;have g116_14:=kP ha116 g115_14;have g116_21:=kP ha116 g115_21;have g116_22:=kP ha116 g115_22;have g116_23:=kP ha116 g115_23;have g116_51:=kP ha116 g115_51;have g116_52:=kP ha116 g115_52;have g116_55:=kP ha116 g115_55;have g116_56:=kP ha116 g115_56;have g116_57:=kP ha116 g115_57;refine hK73 a116 w112 ?_;refine Z2 ?_;refine wC (ZF (k1:=.i64) (i:=(j4:Int)) (j:=1) (eK g116_57) rfl ?_);rw[show (IntKind.i64.wrap (((j4:Int):Int)+(1:Int)):Int)=(((j4+1:Nat):Int):Int) from by simp only[IntKind.wrap,IntKind.bits,IntKind.signed];simp;omega];refine wC (wMv (v:=.int .i64 ((j4+1:Nat):Int)) (eS hz116) ?_);refine wEk hz116 hd116 fun a117 ha117 hz117 hd117=>?_;have g117_0:=kP ha117 g116_0;have g117_1:=kP ha117 g116_1;have g117_2:=kP ha117 g116_2;have g117_3:=kP ha117 g116_3;have g117_7:=kP ha117 g116_7;have g117_8:=kP ha117 g116_8;have g117_9:=kP ha117 g116_9;have g117_10:=kP ha117 g116_10;have g117_11:=kP ha117 g116_11;have g117_14:=kP ha117 g116_14;have g117_21:=kP ha117 g116_21;have g117_22:=kP ha117 g116_22;have g117_23:=kP ha117 g116_23;have g117_51:=kP ha117 g116_51;have g117_52:=kP ha117 g116_52;have g117_55:=kP ha117 g116_55;have g117_56:=kP ha117 g116_56;have g117_57:get a117 57 = .int .i64 ((j4+1:Nat):Int):=kG ha117 hz116;refine ⟨m4 - 1,by omega,j4+1,_,hz117,hd117,g117_0,g117_1,g117_2,g117_3,g117_7,g117_8,g117_9,g117_10,g117_11,g117_14,g117_21,g117_22,g117_23,g117_51,g117_52,g117_55,g117_56,g117_57,by omega,hx114,?_,rb113,hF112,by omega⟩;rw[hpk];exact ho112.imp_A (fun b hb=>by rcases hb with hb | hb;exact ⟨hb.1,by omega⟩;exact ⟨by omega,hb.2⟩)
        have hkn:knAt fs (.mk n s nl l u) encs k j4=[]:=by simpa [knAt,hfd,hte,T.l] using hc87
        refine wp_skip ?_;refine hK73 a83 w83 ?_;refine Z2 ?_;refine wC (ZF (k1:=.i64) (i:=(j4:Int)) (j:=1) (eK g83_57) rfl ?_);rw[show (IntKind.i64.wrap (((j4:Int):Int)+(1:Int)):Int)=(((j4+1:Nat):Int):Int) from by simp only[IntKind.wrap,IntKind.bits,IntKind.signed];simp;omega];refine wC (wMv (v:=.int .i64 ((j4+1:Nat):Int)) (eS hz83) ?_);refine wEk hz83 hd83 fun a118 ha118 hz118 hd118=>?_;have g118_0:=kP ha118 g83_0;have g118_1:=kP ha118 g83_1;have g118_2:=kP ha118 g83_2;have g118_3:=kP ha118 g83_3;have g118_7:=kP ha118 g83_7;have g118_8:=kP ha118 g83_8;have g118_9:=kP ha118 g83_9;have g118_10:=kP ha118 g83_10;have g118_11:=kP ha118 g83_11;have g118_14:=kP ha118 g83_14;have g118_21:=kP ha118 g83_21;have g118_22:=kP ha118 g83_22;have g118_23:=kP ha118 g83_23;have g118_51:=kP ha118 g83_51;have g118_52:=kP ha118 g83_52;have g118_55:=kP ha118 g83_55;have g118_56:=kP ha118 g83_56;have g118_57:get a118 57 = .int .i64 ((j4+1:Nat):Int):=kG ha118 hz83;rw[hkn,List.append_nil] at hks;rw[← hks] at hp4 g118_11;exact ⟨m4 - 1,by omega,j4+1,_,hz118,hd118,g118_0,g118_1,g118_2,g118_3,g118_7,g118_8,g118_9,g118_10,g118_11,g118_14,g118_21,g118_22,g118_23,g118_51,g118_52,g118_55,g118_56,g118_57,by omega,ho4.upTo hL84_w68 (From.mono hL84_w68.size),hp4.upTo hL84_w68 (From.mono hL84_w68.size),rb85,hF84,Nat.le_trans hSl4 hL84_w68.size⟩
      have hkn:knAt fs (.mk n s nl l u) encs k j4=[]:=by simp[knAt,hfd,hte]
      refine Z0k [spC [] (.pointer (some ⟨w68.heap.size,4,none⟩)),spC [0] (.int .i64 fd.tag),spC [] (.int .i64 (k:Int)),spC [1,2] (.bool false),spC [3] (.bool false),spC [4] (undef),spC [4] (undef),spC [4] (undef),spC [4,6,7] (undef),spC [4,5,8] (undef),spC [4,9] (undef),spC [4,10] (.bool false)] 62 [] hmx he17 (by simp[Z0R]) (by simp[spC,spR]) (by simp;omega) ⟨lCc _ _ _,lCc _ _ _,lCc _ _ _,lCc _ _ _,lCc _ _ _,lCc _ _ _,lCc _ _ _,lCc _ _ _,lCc _ _ _,lCc _ _ _,lCc _ _ _,lCc _ _ _,trivial⟩ ?_ ?_
      · refine oCs ?_ ?_
        · refine op_c fun a' w' hk' hf' hd' K' hK'=>?_;refine wFa (b:=w68.heap.size) (i:=0) (hFlT45.fld (by decide)) (by rw[eTm,hk'.get 16 (by omega),g80_16]) ?_;rw[show (0+4:Nat)=4 from rfl];exact hK'
        refine oCs ?_ ?_
        · refine op_c fun a' w' hk' hf' hd' K' hK'=>?_;refine wL0 (j:=4) (v:=.int .i64 fd.tag) hcT3 (by rw[eTm];exact hd'.c (nd':=[]) 0 (by simp) rfl) (hf'.range r78 .nil) rfl ?_;exact hK'
        refine oCs ?_ ?_
        · refine op_c fun a' w' hk' hf' hd' K' hK'=>?_;refine wMv (v:=.int .i64 (k:Int)) (by rw[eTm,hk'.get 14 (by omega),g80_14]) ?_;exact hK'
        refine oCs ?_ ?_
        · refine op_c fun a' w' hk' hf' hd' K' hK'=>?_;refine ZQ (k1:=.i64) (i:=fd.tag) (j:=(k:Int)) hte (by rw[eTm];exact hd'.c (nd':=[0]) 1 (by simp) rfl) (by rw[eTm];exact hd'.c (nd':=[]) 2 (by simp) rfl) ?_;exact hK'
        refine oCs ?_ ?_
        · refine op_c fun a' w' hk' hf' hd' K' hK'=>?_;refine wMv (v:=.bool false) (by rw[eTm];exact hd'.c (nd':=[1,2]) 3 (by simp) rfl) ?_;exact hK'
        refine oCs ?_ ?_
        · exact Z0F rfl (by decide) (fun a w h=>h.c (nd':=[3]) 4 (by simp) rfl)
        refine oCs ?_ ?_
        · exact Z0F rfl (by decide) (fun a w h=>h.c (nd':=[3]) 4 (by simp) rfl)
        refine oCs ?_ ?_
        · exact Z0F rfl (by decide) (fun a w h=>h.c (nd':=[3]) 4 (by simp) rfl)
        refine oCs ?_ ?_
        · exact Z0F rfl (by decide) (fun a w h=>h.c (nd':=[3]) 4 (by simp) rfl)
        refine oCs ?_ ?_
        · exact Z0F rfl (by decide) (fun a w h=>h.c (nd':=[3]) 4 (by simp) rfl)
        refine oCs ?_ ?_
        · exact Z0F rfl (by decide) (fun a w h=>h.c (nd':=[3]) 4 (by simp) rfl)
        refine oCs ?_ ?_
        · refine op_c fun a' w' hk' hf' hd' K' hK'=>?_;refine ZJ (v:=.bool false) (by rw[eTm];exact hd'.c (nd':=[3]) 4 (by simp) rfl) rfl ?_;exact hK'
        exact ZX
      intro a119 w119 k119 f119 hd_119;have g119_0:get a119 0 = .slice q fs.length cap:=by rw[k119.get 0 (by omega),g80_0]
      have g119_1:get a119 1 = .int .i64 ver:=by rw[k119.get 1 (by omega),g80_1]
      have g119_2:get a119 2 = .bool flex:=by rw[k119.get 2 (by omega),g80_2]
      have g119_3:get a119 3 = .agg ([.int .i64 n,sv,.bool nl,lv,uv]:List Value).toArray:=by rw[k119.get 3 (by omega),g80_3]
      have g119_7:get a119 7 = .pointer (some ⟨w.heap.size,0,none⟩):=by rw[k119.get 7 (by omega),g80_7]
      have g119_8:get a119 8 = .slice none 0 0:=by rw[k119.get 8 (by omega),g80_8]
      have g119_9:get a119 9=v9:=by rw[k119.get 9 (by omega),g80_9]
      have g119_10:get a119 10=u10:=by rw[k119.get 10 (by omega),g80_10]
      have g119_11:get a119 11 = .int .i64 (((knTo fs (.mk n s nl l u) encs k j4).length:Nat):Int):=by rw[k119.get 11 (by omega),g80_11]
      have g119_14:get a119 14 = .int .i64 (k:Int):=by rw[k119.get 14 (by omega),g80_14]
      have g119_21:get a119 21 = .slice q fs.length cap:=by rw[k119.get 21 (by omega),g80_21]
      have g119_22:get a119 22 = .int .i64 ((fs.length:Nat):Int):=by rw[k119.get 22 (by omega),g80_22]
      have g119_23:get a119 23 = .int .i64 (j:Int):=by rw[k119.get 23 (by omega),g80_23]
      have g119_51:get a119 51 = .int .i64 ((Z5 fs:Nat):Int):=by rw[k119.get 51 (by omega),g80_51]
      have g119_52:get a119 52 = .int .i64 (k:Int):=by rw[k119.get 52 (by omega),g80_52]
      have g119_55:get a119 55 = .slice q fs.length cap:=by rw[k119.get 55 (by omega),g80_55]
      have g119_56:get a119 56 = .int .i64 ((fs.length:Nat):Int):=by rw[k119.get 56 (by omega),g80_56]
      have g119_57:get a119 57 = .int .i64 (j4:Int):=by rw[k119.get 57 (by omega),g80_57]
      have hz119:a119.tmps.size=132:=k119.size.trans hz80;have hd119:a119.defers=[]:=k119.defers.trans hd80;have g119_73:get a119 73 = .bool false:=hd_119.c (nd':=[4,10]) 11 (by simp) rfl;have hF120:Fr [] w w119:=hF78.tr f119;have hL120_w68:Fr [] w68 w119:=hL78_w68.tr f119;have rb121:=f119.range rb79 .nil;have rb122:=f119.range r78 .nil;refine hK81 a119 w119 ?_;refine wp_cond_split (t:=false) (eK g119_73) (fun h=>by cases h) (fun _=>?_);refine wp_skip ?_;refine hK73 a119 w119 ?_;refine Z2 ?_;refine wC (ZF (k1:=.i64) (i:=(j4:Int)) (j:=1) (eK g119_57) rfl ?_);rw[show (IntKind.i64.wrap (((j4:Int):Int)+(1:Int)):Int)=(((j4+1:Nat):Int):Int) from by simp only[IntKind.wrap,IntKind.bits,IntKind.signed];simp;omega];refine wC (wMv (v:=.int .i64 ((j4+1:Nat):Int)) (eS hz119) ?_);refine wEk hz119 hd119 fun a124 ha124 hz124 hd124=>?_;have g124_0:=kP ha124 g119_0;have g124_1:=kP ha124 g119_1;have g124_2:=kP ha124 g119_2;have g124_3:=kP ha124 g119_3;have g124_7:=kP ha124 g119_7;have g124_8:=kP ha124 g119_8;have g124_9:=kP ha124 g119_9;have g124_10:=kP ha124 g119_10;have g124_11:=kP ha124 g119_11;have g124_14:=kP ha124 g119_14;have g124_21:=kP ha124 g119_21;have g124_22:=kP ha124 g119_22;have g124_23:=kP ha124 g119_23;have g124_51:=kP ha124 g119_51;have g124_52:=kP ha124 g119_52;have g124_55:=kP ha124 g119_55;have g124_56:=kP ha124 g119_56;have g124_57:get a124 57 = .int .i64 ((j4+1:Nat):Int):=kG ha124 hz119;rw[hkn,List.append_nil] at hks;rw[← hks] at hp4 g124_11;exact ⟨m4 - 1,by omega,j4+1,_,hz124,hd124,g124_0,g124_1,g124_2,g124_3,g124_7,g124_8,g124_9,g124_10,g124_11,g124_14,g124_21,g124_22,g124_23,g124_51,g124_52,g124_55,g124_56,g124_57,by omega,ho4.upTo hL120_w68 (From.mono hL120_w68.size),hp4.upTo hL120_w68 (From.mono hL120_w68.size),rb121,hF120,Nat.le_trans hSl4 hL120_w68.size⟩
    have hj0:j4=fs.length:=by simp at hc72;omega
    rw[hj0,Z6q] at hp4 g70_11;refine wp_exit ?_;show K63 a70 w68
    refine hK63 a70 w68 ?_;refine Z2 ?_;refine wC (ZF (k1:=.i64) (i:=(k:Int)) (j:=1) (eK g70_52) rfl ?_);rw[show (IntKind.i64.wrap (((k:Int):Int)+(1:Int)):Int)=(((k+1:Nat):Int):Int) from by simp only[IntKind.wrap,IntKind.bits,IntKind.signed];simp;omega];refine wC (wMv (v:=.int .i64 ((k+1:Nat):Int)) (eS hz70) ?_);refine wEk hz70 hd70 fun a125 ha125 hz125 hd125=>?_;have g125_0:=kP ha125 g70_0;have g125_1:=kP ha125 g70_1;have g125_2:=kP ha125 g70_2;have g125_3:=kP ha125 g70_3;have g125_7:=kP ha125 g70_7;have g125_8:=kP ha125 g70_8;have g125_9:=kP ha125 g70_9;have g125_10:=kP ha125 g70_10;have g125_11:=kP ha125 g70_11;have g125_21:=kP ha125 g70_21;have g125_22:=kP ha125 g70_22;have g125_23:=kP ha125 g70_23;have g125_51:=kP ha125 g70_51;have g125_52:get a125 52 = .int .i64 ((k+1:Nat):Int):=kG ha125 hz70;exact ⟨m2 - 1,by omega,k+1,_,hz125,hd125,g125_0,g125_1,g125_2,g125_3,g125_7,g125_8,g125_9,g125_10,g125_11,g125_21,g125_22,g125_23,g125_51,g125_52,by omega,ho4.upTo (Fr.refl [] w68) (From.mono (Fr.refl [] w68).size),hp4.upTo (Fr.refl [] w68) (From.mono (Fr.refl [] w68).size),hbl4,hfl4,Nat.le_trans hSl4 (Fr.refl [] w68).size⟩
  have hk0:k=Z5 fs:=by simp at hc62;omega
  rw[hk0,← Z5v] at ho10 g60_11;refine wp_exit ?_;show K52 a60 w58
  refine hK52 a60 w58 (tUp ?_);refine tId (wp_seq_k fun K126 hK126=>?_);refine wS fun K127 hK127=>?_;refine wC (wMv (v:=.slice q fs.length cap) (eK g60_0) ?_);refine wC (wFa (b:=w.heap.size) (i:=0) (hFlT26.fld (by decide)) (eK g60_7) ?_);rw[show (0+4:Nat)=4 from rfl];refine wC (wL0 (j:=4) (v:=uv) hcT24 (eS hz60) hbl3 rfl ?_);refine wC (wCr (R:=fun x wz=>Fr [] w58 wz∧Z1V wz (fun b=>B b∨From w58.heap.size wz b) x (Zy fs u)) (vs:=#[.slice q fs.length cap,uv]) hUn.enters (mX2 (eS hz60) (eS hz60)) ((hUn.call w58 A B _ fs uv u (hfs.kept hfl2 (by simp) (fun _ h=>h)) htg (hu.kept hfl2 (by simp) (fun _ h=>h)) (fun b hb=>Nat.lt_of_lt_of_le (hB b hb) hfl2.size)).mono (by rintro e wz ⟨x,rfl,h1,h2⟩;exact ⟨x,rfl,h1,h2⟩)) ?_);rintro x128 w128 ⟨fr128,hus128⟩;have hus:=hus128.kept (A':=fun b=>b < w2.heap.size∨(w58.heap.size≤b∧b < w128.heap.size)) (Fr.refl [] _) (by simp) (by rintro b (hb | hb);exact .inl (by have:=hB b hb;omega);exact .inr hb);obtain ⟨qu,cu,rfl,-,hub,-⟩:=hus.sl2;have hF129:Fr [] w w128:=hfl2.tr fr128;have hL129_w58:Fr [] w58 w128:=(Fr.refl [] w58).tr fr128;have rb130:=fr128.range hbl3 .nil;have hm23:w58.heap.size≤w128.heap.size:=fr128.size;refine wC (Zs (n:=(Zy fs u).length) hsT24 (eS hz60) ?_);refine wC (wMv (v:=.int .i64 0) rfl ?_);refine wEk hz60 hd60 fun a131 ha131 hz131 hd131=>?_;have g131_9:=kP ha131 g60_9;have g131_10:=kP ha131 g60_10;have g131_11:=kP ha131 g60_11;have g131_100:get a131 100 = .slice qu ((Zy fs u).length) cu:=kG ha131 hz60;have g131_101:get a131 101 = .int .i64 (((Zy fs u).length:Nat):Int):=kG ha131 hz60;have g131_102:get a131 102 = .int .i64 0:=kG ha131 hz60;have hm22:w54.heap.size≤w58.heap.size:=Nat.le_trans hSl2 (Fr.refl [] w58).size;have hx6:=ho2.upTo hL129_w58 (From.mono hL129_w58.size);have hp6:Own w128 (Gap w54.heap.size w58.heap.size w128.heap.size w128) 1 v10 _ _:=(ho10.upTo (Fr.refl [] w58) (From.mono (Fr.refl [] w58).size)).upTo fr128 (fun b hb=>.inl hb);refine hK127 a131 w128 ?_;have hul:(ZC fs (.mk n s nl l u)).length=(Zy fs u).length:=by simp[ZC,T.u]
  have hp0:Own w128 (Gap w54.heap.size w58.heap.size w128.heap.size w128) 1 v10 ((Zl fs (.mk n s nl l u) encs).flatMap ZP++((ZC fs (.mk n s nl l u)).take 0).flatMap ZP).length (Z0 ((Zl fs (.mk n s nl l u) encs).flatMap ZP++((ZC fs (.mk n s nl l u)).take 0).flatMap ZP)):=by rw[show (Zl fs (.mk n s nl l u) encs).flatMap ZP++((ZC fs (.mk n s nl l u)).take 0).flatMap ZP=(Zl fs (.mk n s nl l u) encs).flatMap ZP from by simp];exact hp6
  refine wp_block (wp_loop_ghost (fun (m3:Nat) a' w'=>∃ (j:Nat) (z10:Value),a'.tmps.size=132∧a'.defers=[]∧get a' 9=v9∧get a' 10=z10∧get a' 11 = .int .i64 (((Zl fs (.mk n s nl l u) encs).length+j:Nat):Int)∧get a' 100 = .slice qu ((Zy fs u).length) cu∧get a' 101 = .int .i64 (((Zy fs u).length:Nat):Int)∧get a' 102 = .int .i64 (j:Int)∧j+m3=(Zy fs u).length∧Own w' (From w2.heap.size w') 1 v9 ((Z0T fs ver encs fs.length)).length (Z0 (Z0T fs ver encs fs.length))∧Own w' (Gap w54.heap.size w58.heap.size w128.heap.size w') 1 z10 (((Zl fs (.mk n s nl l u) encs).flatMap ZP++((ZC fs (.mk n s nl l u)).take j).flatMap ZP)).length (Z0 ((Zl fs (.mk n s nl l u) encs).flatMap ZP++((ZC fs (.mk n s nl l u)).take j).flatMap ZP))∧Z1V w' (fun b=>b < w2.heap.size∨(w58.heap.size≤b∧b < w128.heap.size)) (.slice qu (Zy fs u).length cu) (Zy fs u)∧Fr [] w w'∧w128.heap.size≤w'.heap.size) ((Zy fs u).length) ?_ ?_)
  · exact ⟨0,v10,hz131,hd131,g131_9,g131_10,g131_11,g131_100,g131_101,g131_102,by omega,hx6,hp0,hus,hF129,Nat.le_refl _⟩
  rintro m3 a132 w132 ⟨j,z10,hz132,hd132,g132_9,g132_10,g132_11,g132_100,g132_101,g132_102,hjm6,ho9,hz10o,hus6,hfl6,hSl6⟩;refine wS fun K133 hK133=>?_;refine wC (Z0g (k1:=.i64) (i:=(j:Int)) (j:=(((Zy fs u).length:Nat):Int)) (eK g132_102) (eK g132_101) ?_);refine wEk hz132 hd132 fun a134 ha134 hz134 hd134=>?_;have g134_9:=kP ha134 g132_9;have g134_10:=kP ha134 g132_10;have g134_11:=kP ha134 g132_11;have g134_100:=kP ha134 g132_100;have g134_101:=kP ha134 g132_101;have g134_102:=kP ha134 g132_102;have g134_103:get a134 103 = .bool (decide (((j:Int):Int) < ((((Zy fs u).length:Nat):Int):Int))):=kG ha134 hz132;refine hK133 a134 w132 ?_;refine wp_seq_k fun K135 hK135=>?_;refine wp_cond_split (t:=decide (((j:Int):Int) < ((((Zy fs u).length:Nat):Int):Int))) (eK g134_103) (fun hc136=>?_) (fun hc136=>?_)
  · have hjl : j < (Zy fs u).length := by simpa using hc136
    obtain ⟨⟨kk,x⟩,hp⟩:∃ p,(Zy fs u)[j]?=some p:=⟨(Zy fs u)[j],by simp[hjl]⟩;obtain ⟨qu',cu',hqe,-,-,hku⟩:=hus6.sl2;obtain ⟨bl,ol,xv,hq,hbl7,hkk,hrl,hox⟩:=hku j kk x hp
    cases hqe
    have htk:=Z7A (t:=(.mk n s nl l u)) (j:=j) (show (ZC fs (.mk n s nl l u))[j]?=some (kk,Zb x) from by simp only[ZC,List.getElem?_map,T.u,hp];rfl);have hpl:=Z5b (fs:=fs) (t:=(.mk n s nl l u)) (j+1);rw[htk,List.length_append] at hpl;have hpw:(ZP (kk,Zb x)).length=(uvW kk).length+((uvW (Zb x).length).length+(Zb x).length):=by simp[ZP]
    have hpkl:((Zl fs (.mk n s nl l u) encs).flatMap ZP++((ZC fs (.mk n s nl l u)).take j).flatMap ZP).length=((Zl fs (.mk n s nl l u) encs).flatMap ZP).length+(((ZC fs (.mk n s nl l u)).take j).flatMap ZP).length:=by rw[List.length_append]
    refine wp_skip ?_;refine hK135 a134 w132 ?_;refine wp_seq_k fun K137 hK137=>?_;refine Zj ?_;refine wS fun K138 hK138=>?_;refine wC (Z10 (b:=bl) (o:=ol) (i:=j) hs_T24 (by rw[eTm,g134_100,hq]) (eK g134_102) hjl ?_);refine wC (Z7 (cs:=[.int .u32 ((kk:Nat):Int),xv]) (b:=bl) (o:=ol+j * 2) hFlT61 rfl (eS hz134) ((Fr.refl [] w132).range hrl .nil) ?_);refine wC (Z0w hFlT61 ?_);rintro w139 f139 sz139 r139 th139;have hF140:Fr [] w w139:=hfl6.tr f139;have hL140_w132:Fr [] w132 w139:=(Fr.refl [] w132).tr f139;refine wC (Z0f (cs:=[.int .u32 ((kk:Nat):Int),xv]) (o:=0) hFlT61 rfl (eS hz134) (eS hz134) (by intro u hu;simp at hu;rcases hu with rfl | rfl <;> first | rfl | exact hox.one) th139 ?_);rintro w141 f141 sz141 r141 th141;have hF141:Fr [] w w141:=hF140.trans f141 (fun r hr=>.inl (by simp at hr;subst hr;have:=hfl6.size;simp only;omega));have hL141_w132:Fr [] w132 w141:=hL140_w132.trans f141 (fun r hr=>.inl (by simp at hr;subst hr;have:=(Fr.refl [] w132).size;simp only;omega));refine wEk hz134 hd134 fun a142 ha142 hz142 hd142=>?_;have g142_9:=kP ha142 g134_9;have g142_10:=kP ha142 g134_10;have g142_11:=kP ha142 g134_11;have g142_19:get a142 19 = .pointer (some ⟨w132.heap.size,0,none⟩):=kG ha142 hz134;have g142_100:=kP ha142 g134_100;have g142_101:=kP ha142 g134_101;have g142_102:=kP ha142 g134_102;refine hK138 a142 w141 ?_;refine wS fun K143 hK143=>?_;refine wC (wFa (b:=w132.heap.size) (i:=0) (hFlT61.fld (by decide)) (eK g142_19) ?_);rw[show (0+1:Nat)=1 from rfl];refine wC (wL0 (j:=1) (v:=xv) hcT22 (eS hz142) r141 rfl ?_);refine wC (wCr (R:=fun y wz=>OctE wz (fun b=>b < w2.heap.size∨(w58.heap.size≤b∧b < w128.heap.size)) y (Zb x)∧w141=wz) (vs:=#[xv]) hWh.enters (mX1 (eS hz142)) ((hWh.call w141 _ xv x (hox.kept hL141_w132 (by simp) (fun _ h=>h))).mono (by rintro e wz ⟨y,rfl,h1,rfl⟩;exact ⟨y,rfl,h1,rfl⟩)) ?_);rintro x144 _ ⟨hy,rfl⟩;obtain ⟨q144,c144,rfl,-,-,-⟩:=hy.slice2;refine wC (wAs (v:=.slice q144 ((Zb x).length) c144) (eS hz142) ?_);refine wEk hz142 hd142 fun a145 ha145 hz145 hd145=>?_;have g145_9:=kP ha145 g142_9;have g145_10:=kP ha145 g142_10;have g145_11:=kP ha145 g142_11;have g145_19:=kP ha145 g142_19;have g145_20:get a145 20 = .slice q144 ((Zb x).length) c144:=kG ha145 hz142;have g145_100:=kP ha145 g142_100;have g145_101:=kP ha145 g142_101;have g145_102:=kP ha145 g142_102;refine hK143 a145 w141 ?_;refine wp_seq_k fun K146 hK146=>?_;have hoA:=hz10o.upTo hL141_w132 (Gap.mono hL141_w132.size);have hSA:=Nat.le_trans hSl6 hL141_w132.size;have hx9A:=ho9.upTo hL141_w132 (From.mono hL141_w132.size);have hyA:=hy.kept (Fr.refl [] w141) (by simp) (fun _ h=>h);have husA:=hus6.kept hL141_w132 (by simp) (fun _ h=>h);refine Z2 ?_;refine wC (wMv (v:=z10) (eK g145_10) ?_);refine wC (wFa (b:=w132.heap.size) (i:=0) (hFlT61.fld (by decide)) (eK g145_19) ?_);rw[show (0+0:Nat)=0 from rfl];refine wC (wL0 (j:=0) (v:=.int .u32 ((kk:Nat):Int)) hcT59 (eS hz145) r141 rfl ?_);refine wC (wCv (k1:=.u32) (i:=((kk:Nat):Int)) hT59_u32 hT76_u64 (eS hz145) ?_);rw[show (IntKind.u64.wrap (((kk:Nat):Int):Int))=(((kk:Nat):Int):Int) from by simp only[IntKind.wrap,IntKind.bits,IntKind.signed];simp;omega];refine wC (wCr (R:=fun vz wz=>Fr [] w141 wz∧Own wz (From w141.heap.size wz) 1 vz (uvW kk).length (Z0 (uvW kk))) (vs:=#[.int .u64 ((kk:Nat):Int)]) hUv.enters (mX1 (eS hz145)) (Za (hUv.call w141 kk (by omega))) ?_);rintro x147 w147 ⟨fr147,ow147⟩;have hF148:Fr [] w w147:=hF141.tr fr147;have rb149:=fr147.range r141 .nil;have hy150:=hyA.kept fr147 (by simp) (fun _ h=>h);have hu150:=husA.kept fr147 (by simp) (fun _ h=>h);have hx150:=hx9A.upTo fr147 (From.mono fr147.size);have hS150:=Nat.le_trans hSA fr147.size;have hoo150:=hoA.upTo fr147 (Gap.mono fr147.size);rw[wCo];have ob151:=hoo150;have hSl151:w128.heap.size≤w147.heap.size:=hS150;refine Z0c hs_T22 hz_T22 (eS hz145) (eS hz145) ob151 (ow147.octE (by omega)) (by omega) ?_;rintro v151 w151 fa151 oa151 sp151 bk151;have ho151:Own w151 (Gap w54.heap.size w58.heap.size w128.heap.size w151) 1 v151 _ _:=oa151.imp_A (Z4w hSl151 fa151.size);have hF151:Fr [] w w151:=Z0C hF148 fa151 ob151 (fun b hb=>by rcases hb with hb | hb <;> omega);have hy152:=hy150.kept fa151 (A':=fun b=>b < w2.heap.size∨(w58.heap.size≤b∧b < w128.heap.size)) (fun r hr hb=>by rcases ob151.spare_in r hr with h1 | h1 <;> omega) (fun _ h=>h);have hu152:=hu150.kept fa151 (A':=fun b=>b < w2.heap.size∨(w58.heap.size≤b∧b < w128.heap.size)) (fun r hr hb=>by rcases ob151.spare_in r hr with h1 | h1 <;> omega) (fun _ h=>h);have hx152:=hx150.kept fa151 (A':=From w2.heap.size w151) (by intro r hr hb g o cap hv e;exfalso;have h2:=hb9 g (by rw[hv];rfl);rcases ob151.spare_in r hr with h1 | h1 <;> omega) (From.mono fa151.size);have hS152:=Nat.le_trans hS150 fa151.size;refine wC (wMv (v:=.slice q144 ((Zb x).length) c144) (eK g145_20) ?_);refine wC (Zs (n:=(Zb x).length) hsT22 (eS hz145) ?_);refine wC (wCv (k1:=.i64) (i:=(((Zb x).length:Nat):Int)) hT3_i64 hT76_u64 (eS hz145) ?_);rw[show (IntKind.u64.wrap ((((Zb x).length:Nat):Int):Int))=((((Zb x).length:Nat):Int):Int) from Z3F (by simp[Zb];omega)];refine wC (wCr (R:=fun vz wz=>Fr [] w151 wz∧Own wz (From w151.heap.size wz) 1 vz (uvW ((Zb x).length)).length (Z0 (uvW ((Zb x).length)))) (vs:=#[.int .u64 (((Zb x).length:Nat):Int)]) hUv.enters (mX1 (eS hz145)) (Za (hUv.call w151 ((Zb x).length) (by simp[Zb];omega))) ?_);rintro x153 w153 ⟨fr153,ow153⟩;have hF154:Fr [] w w153:=hF151.tr fr153;have hy155:=hy152.kept fr153 (by simp) (fun _ h=>h);have hu155:=hu152.kept fr153 (by simp) (fun _ h=>h);have hx155:=hx152.upTo fr153 (From.mono fr153.size);have hS155:=Nat.le_trans hS152 fr153.size;have hoo155:=ho151.upTo fr153 (Gap.mono fr153.size);rw[wCo];have ob156:=hoo155;have hSl156:w128.heap.size≤w153.heap.size:=hS155;refine Z0c hs_T22 hz_T22 (eS hz145) (eS hz145) ob156 (ow153.octE (by omega)) (by rw[List.length_append];omega) ?_;rintro v156 w156 fa156 oa156 sp156 bk156;have ho156:Own w156 (Gap w54.heap.size w58.heap.size w128.heap.size w156) 1 v156 _ _:=oa156.imp_A (Z4w hSl156 fa156.size);have hF156:Fr [] w w156:=Z0C hF154 fa156 ob156 (fun b hb=>by rcases hb with hb | hb <;> omega);have hy157:=hy155.kept fa156 (A':=fun b=>b < w2.heap.size∨(w58.heap.size≤b∧b < w128.heap.size)) (fun r hr hb=>by rcases ob156.spare_in r hr with h1 | h1 <;> omega) (fun _ h=>h);have hu157:=hu155.kept fa156 (A':=fun b=>b < w2.heap.size∨(w58.heap.size≤b∧b < w128.heap.size)) (fun r hr hb=>by rcases ob156.spare_in r hr with h1 | h1 <;> omega) (fun _ h=>h);have hx157:=hx155.kept fa156 (A':=From w2.heap.size w156) (by intro r hr hb g o cap hv e;exfalso;have h2:=hb9 g (by rw[hv];rfl);rcases ob156.spare_in r hr with h1 | h1 <;> omega) (From.mono fa156.size);have hS157:=Nat.le_trans hS155 fa156.size;refine wC (wMv (v:=.slice q144 ((Zb x).length) c144) (eK g145_20) ?_);rw[wCo];have ob158:=ho156;have hSl158:w128.heap.size≤w156.heap.size:=hS157;refine Z0c hs_T22 hz_T22 (eS hz145) (eS hz145) ob158 hy157 (by rw[List.length_append,List.length_append];omega) ?_;rintro v158 w158 fa158 oa158 sp158 bk158;have ho158:Own w158 (Gap w54.heap.size w58.heap.size w128.heap.size w158) 1 v158 _ _:=oa158.imp_A (Z4w hSl158 fa158.size);have hF158:Fr [] w w158:=Z0C hF156 fa158 ob158 (fun b hb=>by rcases hb with hb | hb <;> omega);have hy159:=hy157.kept fa158 (A':=fun b=>b < w2.heap.size∨(w58.heap.size≤b∧b < w128.heap.size)) (fun r hr hb=>by rcases ob158.spare_in r hr with h1 | h1 <;> omega) (fun _ h=>h);have hu159:=hu157.kept fa158 (A':=fun b=>b < w2.heap.size∨(w58.heap.size≤b∧b < w128.heap.size)) (fun r hr hb=>by rcases ob158.spare_in r hr with h1 | h1 <;> omega) (fun _ h=>h);have hx159:=hx157.kept fa158 (A':=From w2.heap.size w158) (by intro r hr hb g o cap hv e;exfalso;have h2:=hb9 g (by rw[hv];rfl);rcases ob158.spare_in r hr with h1 | h1 <;> omega) (From.mono fa158.size);have hS159:=Nat.le_trans hS157 fa158.size;refine wC (wAs (v:=v158) (eS hz145) ?_);refine wEk hz145 hd145 fun a160 ha160 hz160 hd160=>?_;have g160_9:=kP ha160 g145_9;have g160_10:get a160 10=v158:=kG ha160 hz145;have g160_11:=kP ha160 g145_11;have g160_100:=kP ha160 g145_100;have g160_101:=kP ha160 g145_101;have g160_102:=kP ha160 g145_102;refine hK146 a160 w158 ?_;refine Z2 ?_;refine wC (wMv (v:=.int .i64 (((Zl fs (.mk n s nl l u) encs).length+j:Nat):Int)) (eK g160_11) ?_);refine wC (ZF (k1:=.i64) (i:=(((Zl fs (.mk n s nl l u) encs).length+j:Nat):Int)) (j:=1) (eS hz160) rfl ?_);rw[show (IntKind.i64.wrap (((((Zl fs (.mk n s nl l u) encs).length+j:Nat):Int):Int)+(1:Int)):Int)=((((Zl fs (.mk n s nl l u) encs).length+(j+1):Nat):Int):Int) from by simp only[IntKind.wrap,IntKind.bits,IntKind.signed];simp;omega];refine wC (wAs (v:=.int .i64 (((Zl fs (.mk n s nl l u) encs).length+(j+1):Nat):Int)) (eS hz160) ?_);refine wEk hz160 hd160 fun a161 ha161 hz161 hd161=>?_;have g161_9:=kP ha161 g160_9;have g161_10:=kP ha161 g160_10;have g161_11:get a161 11 = .int .i64 (((Zl fs (.mk n s nl l u) encs).length+(j+1):Nat):Int):=kG ha161 hz160;have g161_100:=kP ha161 g160_100;have g161_101:=kP ha161 g160_101;have g161_102:=kP ha161 g160_102;refine hK137 a161 w158 ?_;refine Z2 ?_;refine wC (ZF (k1:=.i64) (i:=(j:Int)) (j:=1) (eK g161_102) rfl ?_);rw[show (IntKind.i64.wrap (((j:Int):Int)+(1:Int)):Int)=(((j+1:Nat):Int):Int) from by simp only[IntKind.wrap,IntKind.bits,IntKind.signed];simp;omega];refine wC (wMv (v:=.int .i64 ((j+1:Nat):Int)) (eS hz161) ?_);refine wEk hz161 hd161 fun a162 ha162 hz162 hd162=>?_;have g162_9:=kP ha162 g161_9;have g162_10:=kP ha162 g161_10;have g162_11:=kP ha162 g161_11;have g162_100:=kP ha162 g161_100;have g162_101:=kP ha162 g161_101;have g162_102:get a162 102 = .int .i64 ((j+1:Nat):Int):=kG ha162 hz161;refine ⟨m3 - 1,by omega,j+1,_,hz162,hd162,g162_9,g162_10,g162_11,g162_100,g162_101,g162_102,by omega,hx159,?_,hu159,hF158,hS159⟩;rw[htk,show (Zl fs (.mk n s nl l u) encs).flatMap ZP++(((ZC fs (.mk n s nl l u)).take j).flatMap ZP++ZP (kk,Zb x))=((((Zl fs (.mk n s nl l u) encs).flatMap ZP++((ZC fs (.mk n s nl l u)).take j).flatMap ZP)++uvW kk)++uvW (Zb x).length)++Zb x from by simp[ZP]];exact ho158
  have hj0:j=(Zy fs u).length:=by simp at hc136;omega
  rw[hj0,← hul,List.take_length] at hz10o;rw[hj0,← hul] at g134_11;refine wp_exit ?_;show K126 a134 w132
  refine hK126 a134 w132 (tUp ?_);refine tId (wp_seq_k fun K163 hK163=>?_);have hx9:=ho9.upTo (Fr.refl [] w132) (From.mono (Fr.refl [] w132).size);have hx10:=hz10o.upTo (Fr.refl [] w132) (Gap.mono (Fr.refl [] w132).size);have hSx:=Nat.le_trans hSl6 (Fr.refl [] w132).size;have hunl:(Zy fs u).length≤4294967296:=hub;have hU:=hul;have hppl:((Zl fs (.mk n s nl l u) encs).flatMap ZP++(ZC fs (.mk n s nl l u)).flatMap ZP).length=((Zl fs (.mk n s nl l u) encs).flatMap ZP).length+((ZC fs (.mk n s nl l u)).flatMap ZP).length:=by rw[List.length_append]
  refine Z2 ?_;refine wC (wMv (v:=v9) (eK g134_9) ?_);refine wC (wMv (v:=.int .i64 (((Zl fs (.mk n s nl l u) encs).length+(ZC fs (.mk n s nl l u)).length:Nat):Int)) (eK g134_11) ?_);refine wC (wCv (k1:=.i64) (i:=(((Zl fs (.mk n s nl l u) encs).length+(ZC fs (.mk n s nl l u)).length:Nat):Int)) hT3_i64 hT76_u64 (eS hz134) ?_);rw[show (IntKind.u64.wrap ((((Zl fs (.mk n s nl l u) encs).length+(ZC fs (.mk n s nl l u)).length:Nat):Int):Int))=((((Zl fs (.mk n s nl l u) encs).length+(ZC fs (.mk n s nl l u)).length:Nat):Int):Int) from Z3F (by omega)];refine wC (wCr (R:=fun vz wz=>Fr [] w132 wz∧Own wz (From w132.heap.size wz) 1 vz (uvW ((Zl fs (.mk n s nl l u) encs).length+(ZC fs (.mk n s nl l u)).length)).length (Z0 (uvW ((Zl fs (.mk n s nl l u) encs).length+(ZC fs (.mk n s nl l u)).length)))) (vs:=#[.int .u64 (((Zl fs (.mk n s nl l u) encs).length+(ZC fs (.mk n s nl l u)).length:Nat):Int)]) hUv.enters (mX1 (eS hz134)) (Za (hUv.call w132 ((Zl fs (.mk n s nl l u) encs).length+(ZC fs (.mk n s nl l u)).length) (by omega))) ?_);rintro x164 w164 ⟨fr164,ow164⟩;have hF165:Fr [] w w164:=hfl6.tr fr164;have hy9:=hx9.upTo fr164 (From.mono fr164.size);have hy10:=hx10.upTo fr164 (Gap.mono fr164.size);have hSy:=Nat.le_trans hSx fr164.size;rw[wCo];have ob166:=hy9;have hSl166:w2.heap.size≤w164.heap.size:=(by omega);refine Z0c hs_T22 hz_T22 (eS hz134) (eS hz134) ob166 (ow164.octE (by omega)) (by omega) ?_;rintro v166 w166 fa166 oa166 sp166 bk166;have ho166:=oa166.imp_A (Z2W hSl166 fa166.size);have hF166:Fr [] w w166:=Z0C hF165 fa166 (ob166.from (s0:=w.heap.size) (by omega)) (fun b hb=>hb.1);have hz10:Own w166 (Gap w54.heap.size w58.heap.size w128.heap.size w166) 1 z10 _ _:=hy10.kept fa166 (by intro r hr hb g o cap hv e;exfalso;have h1:=hb9 r.b (Z4n r hr);rcases hb with h2 | h2 <;> omega) (Gap.mono fa166.size);have ha1:=ho166;have hSz:w2.heap.size≤w166.heap.size:=by have:=fa166.size;omega
  refine wC (wMv (v:=z10) (eK g134_10) ?_);rw[wCo];have ob167:=ha1;have hSl167:w2.heap.size≤w166.heap.size:=hSz;refine Z0c hs_T22 hz_T22 (eS hz134) (eS hz134) ob167 (hz10.octE (by omega)) (by simp only[List.length_append];simp only[List.length_append] at hppl;omega) ?_;rintro v167 w167 fa167 oa167 sp167 bk167;have ho167:=oa167.imp_A (Z2W hSl167 fa167.size);have hF167:Fr [] w w167:=Z0C hF166 fa167 (ob167.from (s0:=w.heap.size) (by omega)) (fun b hb=>hb.1);refine wC (wAs (v:=v167) (eS hz134) ?_);refine wEk hz134 hd134 fun a168 ha168 hz168 hd168=>?_;have g168_8:get a168 8=v167:=kG ha168 hz134;refine hK163 a168 w167 (tUp ?_);refine wp_ret ?_;rw[hPW,hfx,if_pos rfl,← List.append_assoc];exact ⟨hd168,_,rIs hres g168_8,_,rfl,hF167,ho167.from (by omega)⟩
end Go.Kq

namespace Go.Kq
open Go Go.Proofs Go.ChangeShapes Go.WideShapes Go.RowKit
section
variable {H:Type} {enc:TypeId × Value→H} {P:Program}
theorem Z5q {w:World} {b o:Nat}:∀ (zs:List Int),(∀ i,i < zs.length→w.cell? ⟨b,o+i,none⟩=some (.int .u8 (zs.getD i 0)))→(∀ n ∈ zs,(Lit.int .u8 n).wf=true) →
    w.rangeAt b o (Z0 (zs.map fun z=>UInt8.ofNat z.toNat)):=by
  intro zs h hw j v hv;simp only[Z0,List.map_map,List.getElem?_map,Option.map_eq_some_iff] at hv;obtain ⟨z,hz,rfl⟩:=hv;have hj:j < zs.length:=(List.getElem?_eq_some_iff.1 hz).1;rw[h j hj];have hzz:zs.getD j 0=z:=by rw[List.getD,hz];rfl
  have hwz:=hw z (List.mem_of_getElem? hz);simp only[Lit.wf] at hwz;have hb:0≤z∧z≤255:=by simpa [IntKind.min,IntKind.max,IntKind.signed,IntKind.bits] using hwz
  rw[hzz];simp only[Function.comp_apply,UInt8.toNat_ofNat',Option.some.injEq,Value.int.injEq,true_and];omega
theorem Z67 {W:World} {name nm:String} {d:DataW Unit} {g:Nat} {ti:TypeId} {ms:Array (String × TypeId)} (hg:P.globalNamed name=some g) (hty:(P.globals[g]?).map (·.type)=some ti) (hi:P.underlying ti=some (.interface ms))
    (h:laidMet P [(name,.iface nm d)] W):∃ u v,W.cell? ⟨g,0,none⟩=some (.iface u v):=by
  obtain ⟨ps,⟨g',t',cs,fuel,p,q,hg',ht',hvar,hd,_,_⟩,_⟩:=h;obtain rfl:=Option.some.inj (hg.symm.trans hg');obtain rfl:=Option.some.inj (hty.symm.trans ht');obtain ⟨l⟩:=cs;obtain ⟨_,u,v,hl,_⟩:=iface_of_trod hi hd;have:l=[.iface u v]:=by simpa using hl
  subst this;exact ⟨u,v,World.var?_cell hg hvar 0⟩
theorem Z2M (hl:laidOutB P=true) {W W':World} {base:Nat} {sp':Nat→Bool} :
    ∀ {ts : List TypeId} {vs : List Value} {ds : List (DataW H)} {ps : List MemPlace}, (∀ t ∈ ts, P.readableRec t = true ∧ t < P.types.size) → DataW.TrodAll enc P W base (fun _ => true) true ts vs ds ps →
      (∀ p ∈ ps,W.sameAt W' p)→(∀ p ∈ ps,sp' p.block=true)→DataW.TrodAll enc P W' base sp' true ts vs ds ps
  | [], _, _, _, _, h, _, _ => by
    obtain ⟨rfl,rfl,rfl⟩:=trodAll_nil h;exact h
  | t :: ts, _, _, _, ht, h, hs, hp => by
    obtain ⟨v,vs1,d,ds1,a,b,rfl,rfl,rfl,h1,h2⟩:=trodAll_cons h;exact ⟨a,b,WideElems.Trod_stays hl (ht t (by simp)).1 (ht t (by simp)).2 h1 (fun p hp'=>hs p (List.mem_append_left _ hp')) (fun p hp'=>hp p (List.mem_append_left _ hp')),
      Z2M hl (fun t ht'=>ht t (by simp[ht'])) h2 (fun p hp'=>hs p (List.mem_append_right _ hp')) (fun p hp'=>hp p (List.mem_append_right _ hp')),rfl⟩
theorem Z7T (hl:laidOutB P=true) {f:Func} {s:ChangeSpec} {apart fresh handsOn again:Bool} {W W':World} {args:Array Value} {ds gs:List (DataW H)} {before p:List MemPlace} {rt:TypeId}
    (hW:DataW.Whole enc P f.params.toList s.vars apart W args.toList ds gs before) (hv:s.vars=[]) (hA:DataW.TrodAll enc P W 0 (fun _=>true) true f.params.toList args.toList ds p) (hbp:before=p) (hgs:gs=[])
    (hs:s.fn H (ds++gs)={ results:=[.lit (.bool true)],args:=ds }) (hrt:f.resultTypes = #[rt]) (hb:P.underlying rt=some .bool)
    (hrd:∀ t ∈ f.params.toList,P.readableRec t=true∧t < P.types.size) (hF:Fr [] W W') :
    s.post enc P f apart fresh handsOn again W args (.bool true) W':=by
  subst hbp;have hbl:=hF.below;have hlt:∀ x ∈ before,x.block < W.heap.size:=fun x hx=>hW.lt x hx;have hold:∀ x ∈ before,(fun b=>decide (b < W.heap.size)) x.block=true:=fun x hx=>by simpa using hlt x hx
  have hres:∀ (b:Nat) (sp:Nat→Bool) (hd:Bool),DataW.TrodAll enc P W' b sp hd f.resultTypes.toList ((Value.bool true).resultList f.resultTypes.size) (s.fn H (ds++gs)).results []:=by
    intro b sp hd;rw[hs,hrt];exact trodAll_cons_mk (shut_bool hb true) trodAll_mk0
  have hargs:∀ sp:Nat→Bool,(∀ x ∈ before,sp x.block=true)→DataW.TrodAll enc P W' 0 sp true f.params.toList args.toList (s.fn H (ds++gs)).args before:=by
    intro sp hsp;rw[hs];exact Z2M hl hrd hA (fun x hx=>hbl.same (hlt x hx)) hsp
  have hvars:∀ sp:Nat→Bool,DataW.TrodVars enc P W' sp s.vars (s.fn H (ds++gs)).vars []:=by
    intro sp;rw[hv,hs];exact (rfl:([]:List MemPlace)=[])
  refine ⟨ds,gs,before,[],before,[],hW,hres _ _ _,hargs _ hold,hvars _,World.keptBut_mono (fun x hx=>⟨hx,?_⟩) (hbl.frame (· ∈ before)),fun _=>?_⟩
  · exact Or.inr (Or.inl hx)
  obtain ⟨_,_,_,_,_,hz,hn⟩:=hW;refine ⟨?_,_,_,([]++before)++[],⟨[]++before,[],trodAll_append (hargs _ (fun _ _=>rfl)) (hres _ _ _),hvars _,rfl,?_,?_⟩,?_⟩
  · exact ok_one (by rw[hrt]) rfl (okWide_bool_mk hb _)
  · intro b off hp;have hin : MemPlace.cell b off ∈ before := by simpa using hp
    rw[hbl.frozen (hlt _ hin)];exact hz b off hin
  · intro ha
    simpa using hn ha
  intro x hx _
  simpa using hx
end
end Go.Kq

namespace Go.Kq
open Go Go.Proofs Go.ChangeShapes Go.WideShapes Go.RowKit
theorem Z8m {w:World} {a:Addr} {v:Value} (h:w.cell? a=some v):a.spot=none∧a.block < w.heap.size:=by
  unfold World.cell? at h
  split at h
  · rename_i c e f hb
    refine ⟨?_,ZB hb⟩
    cases hs:a.spot with
    | none=>rfl
    | some x=>simp[hs] at h
  simp at h
theorem Z6C {w:World} {base:Nat} {a:Addr} {n:Nat} {cs:List Value} (h:w.cells? base a n=some cs) (hn:0 < n):a.spot=none∧a.block < w.heap.size:=by
  obtain ⟨_,h1,h2⟩:=World.cells?_some h;have h3:=h2 0 hn;have h4:∃ v,cs[0]?=some v:=⟨cs[0]'(by omega),by simp⟩;obtain ⟨v,hv⟩:=h4;rw[hv] at h3;exact Z8m (a:=a.add 0) h3
structure Bulk {H:Type} (bk:DataW H→Nat) (bks:List (DataW H)→Nat):Prop where
  lit:∀ l,1≤bk (.lit l)
  nil:1≤bk .nil
  sl:∀ es ss,bk (.slice es ss)=bks es+bks ss+1
  agg:∀ ps,bk (.agg ps)=bks ps+1
  n:bks []=0
  c:∀ d r,bks (d::r)=bk d+bks r
theorem Bulk.lits {H:Type} {bk:DataW H→Nat} {bks:List (DataW H)→Nat} (h:Bulk bk bks) (k:IntKind):∀ zs:List Int,zs.length≤bks (lits k zs)
  | []=>by simp[ChangeShapes.lits,h.n]
  | z :: zs => by
    have h1:=Bulk.lits h k zs;have h2:=h.lit (.int k z);simp only[ChangeShapes.lits,List.map_cons,h.c,List.length_cons] at h1 ⊢;omega
section
variable {H:Type} {enc:TypeId × Value→H} {P:Program} {bk:DataW H→Nat} {bks:List (DataW H)→Nat}
theorem Z2x {W:World} {t e:TypeId} {fuel:Nat} {cs:List Value} {x:DataW H × List MemPlace} (hbk:Bulk bk bks) (ht:P.underlying t=some (.slice e)) (he:P.underlying e=some (.int .u8)) (hc:P.cellsOf e=1)
    (h:DataW.trod enc P W 0 (fun _=>true) true fuel t cs=some x) (hb:bk x.1≤4294967296):∃ v xs,cs=[v]∧OctE W (fun b=>b < W.heap.size) v xs∧xs.length+1≤bk x.1:=by
  rcases open_ints ht he hc h with ⟨rfl,rfl⟩ | ⟨a,len,cap,zs,rfl,_,hl,hm,hz,rfl,hcell,hwz⟩
  · exact ⟨_,[],rfl,.nil,by simpa using hbk.nil⟩
  simp only[if_true] at hz
  by_cases hc0:cap=0
  · subst hc0;obtain rfl : len = 0 := by omega
    exact ⟨_,[],rfl,.inr ⟨⟨a,rfl⟩,rfl⟩,by simp only[hbk.sl,List.length_nil];omega⟩
  obtain ⟨hsp,hbl⟩:a.spot=none∧a.block < W.heap.size:=Z8m (a:=a.add 0) (hcell 0 (by omega));obtain ⟨b,o,spot⟩:=a;simp only at hsp hbl;subst hsp;have hr:=Z5q (b:=b) (o:=o) zs (fun i hi=>by have:=hcell i hi;rwa [Addr.add_lit] at this) hwz;have h1:=hbk.lits .u8 (zs.take len);have h2:=hbk.sl (lits .u8 (zs.take len)) (lits .u8 (zs.drop len));have hlen:(zs.take len).length=len:=by simp;omega
  simp only[h2] at hb;refine ⟨_,(zs.take len).map fun z=>UInt8.ofNat z.toNat,rfl,.inl ⟨some _,.inr ⟨b,o,cap,_,hbl,?_,⟨?_,?_⟩,?_,rfl⟩,rfl⟩,?_⟩
  · rw[List.length_map,hlen]
  · rw[List.length_map,hlen];exact hl
  · rw[List.length_map];omega
  · have := Z2d hr 0 len
    simpa [Z2v,Z2w,List.map_take] using this
  rw[List.length_map,h2];omega
theorem Z4S (hbk:Bulk bk bks):∀ {l:List (DataW H)} {i:Nat} {d:DataW H},l[i]?=some d→bk d≤bks l
  | [],_,_,h=>by simp at h
  | e::l,0,d,h=>by simp at h;subst h;rw[hbk.c];omega
  | e::l,i+1,d,h=>by have:=Z4S hbk (l:=l) (i:=i) (by simpa using h);rw[hbk.c];omega
theorem Z33 {W:World} {t e:TypeId} {fuel:Nat} {v:Value} {x:DataW H × List MemPlace} (hbk:Bulk bk bks) (ht:P.underlying t=some (.slice e))
    (hpos:0 < P.cellsOf e) (h:DataW.trod enc P W 0 (fun _=>true) true fuel t [v]=some x) :
    ((v = .slice none 0 0∨Void v)∧1≤bk x.1)∨∃ b o len cap n,∃ ds:List (DataW H × List MemPlace),fuel=n+1∧v = .slice (some ⟨b,o,none⟩) len cap∧b < W.heap.size∧len≤cap∧ds.length=len∧bks (ds.map (·.1))+1≤bk x.1 ∧
      ∀ i,i < len→∃ es d,W.rangeAt b (o+i * P.cellsOf e) es∧es.length=P.cellsOf e∧ds[i]?=some d∧DataW.trod enc P W 0 (fun _=>true) true n e es=some d:=by
  rcases DataW.trod_slice ht h with ⟨h1,rfl⟩ | ⟨a,len,cap,elems,rest,n,rfl,hv,rfl,hb,hl,hm,hlen,hel,hsr,_⟩
  · left;simp at h1;exact ⟨.inl h1,hbk.nil⟩
  simp at hv;subst hv
  by_cases hc0:cap=0
  · subst hc0;obtain rfl : len = 0 := by omega
    exact .inl ⟨.inr ⟨a,rfl⟩,by simp only[hbk.sl];omega⟩
  right
  obtain ⟨hsp,hbl⟩:a.spot=none∧a.block < W.heap.size:=by
    by_cases hl0:len=0
    · obtain ⟨h1,h2⟩:=hsr rfl;have h3:=h2 0 (by omega);have h4:∃ y,rest[0]?=some y:=⟨rest[0]'(by omega),by simp⟩;obtain ⟨y,hy⟩:=h4;rw[hy,Option.bind_eq_some_iff] at h3;obtain ⟨es,h5,_⟩:=h3;exact Z6C (a:=a) (by simpa [hl0,Addr.add] using h5) hpos
    have h3:=hel 0 (by omega);have h4:∃ y,elems[0]?=some y:=⟨elems[0]'(by omega),by simp⟩;obtain ⟨y,hy⟩:=h4;rw[hy,Option.bind_eq_some_iff] at h3;obtain ⟨es,h5,_⟩:=h3;exact Z6C (a:=a) (by simpa [Addr.add] using h5) hpos
  obtain ⟨b,o,spot⟩:=a;simp only at hsp hbl;subst hsp;refine ⟨b,o,len,cap,n,elems,rfl,rfl,hbl,hl,hlen,by rw[hbk.sl];omega,fun i hi=>?_⟩;have h2:=hel i hi;have hge:elems[i]?=some elems[i]:=by simp[hlen,hi]
  rw[hge,Option.bind_eq_some_iff] at h2;obtain ⟨es,h3,h4⟩:=h2;obtain ⟨_,h5,h6⟩:=World.cells?_some h3;refine ⟨es,elems[i],fun j u hj=>?_,h5,hge,h4⟩;have hjl:=(List.getElem?_eq_some_iff.1 hj).1;have:=h6 j (by omega);rw[Addr.add_mid,Addr.add_mid] at this;rw[this];exact hj
theorem Z61 {α:Type}:∀ {len:Nat} {R:Nat→α→Prop},(∀ i,i < len→∃ y,R i y)→∃ l:List α,l.length=len∧∀ i y,l[i]?=some y→R i y
  | 0,R,_=>⟨[],rfl,by simp⟩
  | n + 1, R, h => by
    obtain ⟨y,hy⟩:=h 0 (by omega);obtain ⟨l,h1,h2⟩:=Z61 (len:=n) (R:=fun i y=>R (i+1) y) fun i hi=>h (i+1) (by omega);refine ⟨y::l,by simp[h1],fun i z hz=>?_⟩
    cases i with
    | zero=>simp at hz;subst hz;exact hy
    | succ i=>exact h2 i z (by simpa using hz)
theorem Z7E (hbk:Bulk bk bks) {α:Type} {f:α→Nat}:∀ {l:List α} {ds:List (DataW H × List MemPlace)},l.length=ds.length→(∀ (i:Nat) (y:α) (d:DataW H × List MemPlace),l[i]?=some y→ds[i]?=some d→f y≤bk d.1)→(l.map f).sum≤bks (ds.map (·.1))
  | [],[],_,_=>by simp[hbk.n]
  | [],_::_,h,_=>by simp at h
  | _::_,[],h,_=>by simp at h
  | y :: l, d :: ds, h, hl => by
    have h1:=hl 0 y d rfl rfl;have h2:=Z7E hbk (l:=l) (ds:=ds) (by simpa using h) fun i y d hy hd=>hl (i+1) y d (by simpa using hy) (by simpa using hd);simp only[List.map_cons,List.sum_cons,hbk.c];omega
def Z0j (u:List (Nat × List UInt8)):Nat:=(u.map fun p=>p.2.length+1).sum
theorem Z5c {W:World} {t e t32 tS e8:TypeId} {fs:Array Field} {fuel:Nat} {v:Value} {x:DataW H × List MemPlace} (hbk:Bulk bk bks) (ht:P.underlying t=some (.slice e)) (he:P.underlying e=some (.struct fs)) (hc:P.cellsOf e=2)
    (hf0:fs[0]?.map (fun f=>(f.type,f.offset))=some (t32,0)) (hf1:fs[1]?.map (fun f=>(f.type,f.offset))=some (tS,1)) (hc0:P.cellsOf t32=1) (hc1:P.cellsOf tS=1) (h32:P.underlying t32=some (.int .u32))
    (hS:P.underlying tS=some (.slice e8)) (h8:P.underlying e8=some (.int .u8)) (hc8:P.cellsOf e8=1)
    (h:DataW.trod enc P W 0 (fun _=>true) true fuel t [v]=some x) (hb:bk x.1≤4294967296):∃ u,Z1V W (fun b=>b < W.heap.size) v u∧Z0j u+1≤bk x.1∧∀ p ∈ u,p.1 < 4294967296:=by
  rcases Z33 hbk ht (by omega) h with ⟨hv0,h1⟩ | ⟨b,o,len,cap,n,ds,rfl,rfl,hbl,hl,hdl,hbd,hel⟩
  · exact ⟨[],.inl ⟨hv0,rfl⟩,by simpa [Z0j] using h1,by simp⟩
  have each:∀ i,i < len→∃ y:Nat × List UInt8,y.1 < 4294967296∧(∃ xv,W.rangeAt b (o+i * 2) [.int .u32 y.1,xv]∧OctE W (fun b=>b < W.heap.size) xv y.2)∧∀ d,ds[i]?=some d→y.2.length+1≤bk d.1:=by
    intro i hi;obtain ⟨es,d,hr,hle,hd,htr⟩:=hel i hi;rw[hc] at hr hle
    match es,hle with
    | [c0, c1], _ =>
      obtain ⟨xs,m,rfl,rfl,_,hxl,hxs⟩:=DataW.trod_struct he htr;obtain ⟨f0,hf0',e0⟩:=Option.map_eq_some_iff.1 hf0;obtain ⟨f1,hf1',e1⟩:=Option.map_eq_some_iff.1 hf1;simp only[Prod.mk.injEq] at e0 e1;have q0:=hxs 0 f0 hf0';have q1:=hxs 1 f1 hf1';rw[e0.1,e0.2,hc0] at q0;rw[e1.1,e1.2,hc1] at q1;simp only[List.drop_zero,List.take_succ_cons,List.take_zero,List.drop_succ_cons] at q0 q1;have hn0:∃ y0,xs[0]?=some y0:=by
        have:=(Array.getElem?_eq_some_iff.1 hf0').1;exact ⟨xs[0]'(by omega),by simp⟩
      have hn1:∃ y1,xs[1]?=some y1:=by
        have:=(Array.getElem?_eq_some_iff.1 hf1').1;exact ⟨xs[1]'(by omega),by simp⟩
      obtain ⟨y0,hy0⟩:=hn0;obtain ⟨y1,hy1⟩:=hn1;rw[hy0] at q0;rw[hy1] at q1;obtain ⟨k,hk,_,hw⟩:=DataW.trod_int h32 q0;simp at hk;subst hk
      have hdb:bk (DataW.agg (xs.map (·.1)))≤4294967296:=by
        have h5:=Z4S hbk (l:=ds.map (·.1)) (i:=i) (d:=DataW.agg (xs.map (·.1))) (by rw[List.getElem?_map,hd];rfl);omega
      have hy1b:bk y1.1+1≤bk (DataW.agg (xs.map (·.1))):=by
        rw[hbk.agg];have:=Z4S hbk (l:=xs.map (·.1)) (i:=1) (d:=y1.1) (by rw[List.getElem?_map,hy1];rfl);omega
      rw[Zv,ZE] at hr;obtain ⟨v1,xs1,hv1,ho,hl1⟩:=Z2x hbk hS h8 hc8 q1 (by omega);simp at hv1;subst hv1
      have hk0:0≤k∧k < 4294967296:=by
        simp[Lit.wf,IntKind.min,IntKind.max,IntKind.signed,IntKind.bits] at hw;omega
      obtain ⟨k',rfl⟩:=Int.eq_ofNat_of_zero_le hk0.1;refine ⟨(k',xs1),by simp only;omega,⟨c1,by rw[Zv,ZE];exact hr,ho⟩,?_⟩;intro d' hd';rw[hd] at hd'
      cases hd'
      simp only;omega
  obtain ⟨u,hu1,hu2⟩:=Z61 each;have hsum:=Z7E hbk (f:=fun p:Nat × List UInt8=>p.2.length+1) (l:=u) (ds:=ds) (by omega) fun i y d hy hd=>(hu2 i y hy).2.2 d hd;have hlen:u.length≤(u.map fun p=>p.2.length+1).sum:=by
    clear hu1 hu2 hsum
    induction u with
    | nil=>simp
    | cons p u ih=>simp only[List.map_cons,List.sum_cons,List.length_cons];omega
  refine ⟨u,.inr ⟨b,o,cap,hbl,by rw[hu1],⟨by omega,by omega⟩,fun i k xx hi=>?_⟩,by simp only[Z0j];omega,?_⟩
  · obtain ⟨g1,⟨xv,g2,g3⟩,_⟩:=hu2 i _ hi;exact ⟨xv,g1,g2,g3⟩
  intro p hp;obtain ⟨i,hi⟩:=List.getElem?_of_mem hp;exact (hu2 i p hi).1
end
mutual
/-- How much a tree weighs. -/
def tw:T→Nat
  | .mk _ s _ l u=>1+s.length+tws l+Z0j u
def tws:List T→Nat
  | []=>0
  | t::r=>tw t+tws r
end
theorem Z5R:∀ l:List T,tws l=(l.map tw).sum
  | []=>rfl
  | t::r=>by rw[tws,Z5R r];simp
inductive ZN:T→Prop where
  | mk {n:Int} {s:List UInt8} {nl:Bool} {l:List T} {u:List (Nat × List UInt8)} (hu:∀ p ∈ u,p.1 < 4294967296) (hl:∀ y ∈ l,ZN y):ZN (.mk n s nl l u)
structure TIds (P:Program) (TT TL tN tS tB tU tG t32 t8:TypeId) (fs gs:Array Field):Prop where
  tt:P.underlying TT=some (.struct fs)
  c5:P.cellsOf TT=5
  sz:fs.size=5
  f0:fs[0]?.map (fun f=>(f.type,f.offset))=some (tN,0)
  f1:fs[1]?.map (fun f=>(f.type,f.offset))=some (tS,1)
  f2:fs[2]?.map (fun f=>(f.type,f.offset))=some (tB,2)
  f3:fs[3]?.map (fun f=>(f.type,f.offset))=some (TL,3)
  f4:fs[4]?.map (fun f=>(f.type,f.offset))=some (tU,4)
  cN:P.cellsOf tN=1
  cS:P.cellsOf tS=1
  cB:P.cellsOf tB=1
  cL:P.cellsOf TL=1
  cU:P.cellsOf tU=1
  n:P.underlying tN=some (.int .i64)
  s:P.underlying tS=some (.slice t8)
  b:P.underlying tB=some .bool
  l:P.underlying TL=some (.slice TT)
  u:P.underlying tU=some (.slice tG)
  u8:P.underlying t8=some (.int .u8)
  c8:P.cellsOf t8=1
  g:P.underlying tG=some (.struct gs)
  cG:P.cellsOf tG=2
  g0:gs[0]?.map (fun f=>(f.type,f.offset))=some (t32,0)
  g1:gs[1]?.map (fun f=>(f.type,f.offset))=some (tS,1)
  c32:P.cellsOf t32=1
  u32:P.underlying t32=some (.int .u32)
section
variable {H:Type} {enc:TypeId × Value→H} {P:Program} {bk:DataW H→Nat} {bks:List (DataW H)→Nat}
theorem Z5A {fs:Array Field} {cs:List Value} {xs:List (DataW H × List MemPlace)} {W:World} {m i o:Nat} {t:TypeId} (h:fs[i]?.map (fun f=>(f.type,f.offset))=some (t,o)) (hc:P.cellsOf t=1) (hl:xs.length=fs.size)
    (hxs:∀ (i:Nat) (f:Field),fs[i]?=some f→DataW.trod enc P W 0 (fun _=>true) true m f.type ((cs.drop f.offset).take (P.cellsOf f.type))=xs[i]?):∃ y,xs[i]?=some y∧DataW.trod enc P W 0 (fun _=>true) true m t ((cs.drop o).take 1)=some y:=by
  obtain ⟨f,hf,e⟩:=Option.map_eq_some_iff.1 h;simp only[Prod.mk.injEq] at e;have q:=hxs i f hf;rw[e.1,e.2,hc] at q;have:=(Array.getElem?_eq_some_iff.1 hf).1;exact ⟨xs[i]'(by omega),by simp,by rw[q];simp⟩
theorem Z5a {TT TL tN tS tB tU tG t32 t8:TypeId} {fs gs:Array Field} {W:World} (hbk:Bulk bk bks) (I:TIds P TT TL tN tS tB tU tG t32 t8 fs gs) :
    ∀ (fuel:Nat) (cs:List Value) (x:DataW H × List MemPlace),DataW.trod enc P W 0 (fun _=>true) true fuel TT cs=some x→bk x.1≤4294967296→∃ t,RepT W (fun b=>b < W.heap.size) cs t∧tw t≤bk x.1∧ZN t:=by
  intro fuel
  induction fuel using Nat.strongRecOn with
  | _ fuel ih =>
    intro cs x h hb;obtain ⟨xs,m,rfl,rfl,hcl,hxl,hxs⟩:=DataW.trod_struct I.tt h;rw[I.c5] at hcl
    match cs,hcl with
    | [c0, c1, c2, c3, c4], _ =>
      obtain ⟨y0,hy0,q0⟩:=Z5A (P:=P) I.f0 I.cN hxl hxs;obtain ⟨y1,hy1,q1⟩:=Z5A (P:=P) I.f1 I.cS hxl hxs;obtain ⟨y2,hy2,q2⟩:=Z5A (P:=P) I.f2 I.cB hxl hxs;obtain ⟨y3,hy3,q3⟩:=Z5A (P:=P) I.f3 I.cL hxl hxs;obtain ⟨y4,hy4,q4⟩:=Z5A (P:=P) I.f4 I.cU hxl hxs;simp only[List.drop_zero,List.take_succ_cons,List.take_zero,List.drop_succ_cons] at q0 q1 q2 q3 q4;rw[I.sz] at hxl;have hxe:xs=[y0,y1,y2,y3,y4]:=by
        match xs,hxl with
        | [a0,a1,a2,a3,a4],_=>simp at hy0 hy1 hy2 hy3 hy4;simp[hy0,hy1,hy2,hy3,hy4]
      subst hxe;simp only[List.map_cons,List.map_nil,hbk.agg,hbk.c,hbk.n] at hb ⊢;obtain ⟨n,hn,_,hwn⟩:=DataW.trod_int I.n q0;simp at hn;subst hn
      obtain ⟨nl,hnl,_⟩:=DataW.trod_bool I.b q2;simp at hnl;subst hnl
      obtain ⟨v1,s,hv1,ho,hsl⟩:=Z2x hbk I.s I.u8 I.c8 q1 (by omega);simp at hv1;subst hv1
      obtain ⟨u,hu,huw,huk⟩:=Z5c hbk I.u I.g I.cG I.g0 I.g1 I.c32 I.cS I.u32 I.s I.u8 I.c8 q4 (by omega);have hn64 : -9223372036854775808≤n∧n≤9223372036854775807:=by
        simpa [Lit.wf,IntKind.min,IntKind.max,IntKind.signed,IntKind.bits] using hwn
      have hL:∃ l,Z0G W (fun b=>b < W.heap.size) c3 l∧tws l+1≤bk y3.1∧∀ y ∈ l,ZN y:=by
        rcases Z33 hbk I.l (by rw[I.c5];omega) q3 with ⟨hv0,h1⟩ | ⟨b,o,len,cap,k,ds,rfl,rfl,hbl,hl,hdl,hbd,hel⟩
        · exact ⟨[],.inl ⟨hv0,rfl⟩,by simpa [tws] using h1,by simp⟩
        have each:∀ i,i < len→∃ t,(RepT W (fun b=>b < W.heap.size) (Z46 W b (o+i * 5) 5) t∧W.rangeAt b (o+i * 5) (Z46 W b (o+i * 5) 5))∧(∀ d,ds[i]?=some d→tw t≤bk d.1)∧ZN t:=by
          intro i hi;obtain ⟨es,d,hr,hle,hd,htr⟩:=hel i hi;rw[I.c5] at hr hle;have hd5:=Z4S hbk (l:=ds.map (·.1)) (i:=i) (d:=d.1) (by rw[List.getElem?_map,hd];rfl);obtain ⟨t,h1,h2,h3⟩:=ih k (by omega) es d htr (by omega);have hce:=Z4N hr;rw[hle] at hce;rw[← hce];exact ⟨t,⟨h1,hr⟩,fun d' hd'=>by rw[hd] at hd';cases hd';exact h2,h3⟩
        obtain ⟨l,hl1,hl2⟩:=Z61 each;have hsum:=Z7E hbk (f:=tw) (l:=l) (ds:=ds) (by omega) fun i y d hy hd=>(hl2 i y hy).2.1 d hd;have hlen:l.length≤(l.map tw).sum:=by
          clear hl1 hl2 hsum
          induction l with
          | nil=>simp
          | cons p l ih =>
            have:1≤tw p:=by cases p;rw[tw];omega
            simp only[List.map_cons,List.sum_cons,List.length_cons];omega
        rw[← Z5R] at hsum hlen;refine ⟨l,.inr ⟨b,o,cap,hbl,by rw[hl1],⟨by omega,by omega⟩,fun i=>Z46 W b (o+i * 5) 5,fun i y hi=>(hl2 i y hi).1.2,fun i y hi=>(hl2 i y hi).1.1⟩,by omega,fun y hy=>?_⟩;obtain ⟨i,hi⟩:=List.getElem?_of_mem hy;exact (hl2 i y hi).2.2
      obtain ⟨l,hl,hlw,hlk⟩:=hL;refine ⟨.mk n s nl l u,Z0x.2 ⟨_,_,_,rfl,hn64,ho,hl,hu⟩,?_,.mk huk hlk⟩;rw[tw];omega
end
end Go.Kq

namespace Go.Kq
open Go
structure Z8y (l:List (Nat × List UInt8)):Prop where
  rise:l.Pairwise fun a b=>a.1 < b.1
  key:∀ p ∈ l,p.1 < 4294967296
  few:∀ p ∈ l,p.2.length≤32767
  len:l.length < 4294967296
def vTag (p:Nat × List UInt8):Nat × V:=(p.1,.s p.2)
theorem Z3t:∀ (l:List (Nat × List UInt8)) (x:V) (rest:List UInt8),(∀ p ∈ l,p.1 < 4294967296∧p.2.length≤32767)→l.Pairwise (fun a b=>a.1 < b.1)→(∀ q ∈ Z04 x,∀ p ∈ l,q.1 < p.1) →
    ∃ y,Z2c l.length x ⟨Zp l++rest,false,false⟩=(y,⟨rest,false,false⟩)∧Z04 y=Z04 x++l.map vTag
  | [],x,rest,_,_,_=>⟨x,rfl,by simp⟩
  | p :: l, x, rest, h, hp, hx => by
    obtain ⟨h1,h2⟩:=h p (by simp);have e1:Zp (p::l)++rest=uvW p.1++(uvW p.2.length++(p.2++(Zp l++rest))):=by simp[Zp,tagW]
    obtain ⟨y,h3,_,h4⟩:=Z0u (o:=p.2) (rest:=Zp l++rest) (l:=p.2.length) (nl:=false) rfl (by simp);have h5:=h4 rfl;subst h5;have hset:Z04 (Z2n x p.1 (.s p.2))=Z04 x++[vTag p]:=by
      rw[Z2n,Z04,Z2e fun q hq=>Nat.ne_of_lt (hx q hq p (by simp))];rfl
    obtain ⟨y,h6,h7⟩:=Z3t l (Z2n x p.1 (.s p.2)) rest (fun q hq=>h q (by simp[hq])) (List.pairwise_cons.1 hp).2 (by
      intro q hq r hr;rw[hset] at hq
      rcases List.mem_append.1 hq with hq | hq
      · exact hx q hq r (by simp[hr])
      · simp[vTag] at hq;subst hq;exact (List.pairwise_cons.1 hp).1 r hr)
    refine ⟨y,?_,by rw[h7,hset];simp⟩;rw[e1,List.length_cons];simp only[Z2c,Z0e h1,Z0e (show p.2.length < 4294967296 by omega),h3,V.oct];exact h6
theorem insKv_le {p:Nat × V}:∀ {l:List (Nat × V)},(∀ q ∈ l,p.1≤q.1)→Z4e p l=p::l
  | [],_=>rfl
  | q::r,h=>by rw[Z4e,if_pos (h q (by simp))]
theorem Z5g:∀ {l:List (Nat × V)},l.Pairwise (fun a b=>a.1 < b.1)→Z0m l=l
  | [],_=>rfl
  | p :: l, h => by
    have h1:=List.pairwise_cons.1 h;show Z4e p (Z0m l)=p::l
    rw[Z5g h1.2,insKv_le fun q hq=>Nat.le_of_lt (h1.1 q hq)]
theorem Z4L {y:V} {l:List (Nat × List UInt8)} (h:Z04 y=l.map vTag) (hp:l.Pairwise fun a b=>a.1 < b.1):ZR y=l:=by
  unfold ZR;rw[h,Z5g (List.pairwise_map.2 hp),List.map_map];have:(fun p:Nat × V=>(p.1,p.2.octs)) ∘ vTag=id:=by funext p;rfl
  rw[this,List.map_id]
theorem inv_tags {l:List (Nat × List UInt8)} (h:Z8y l) {ver:Int}:Inv Z1k ver true Z3y (uvW l.length++Zp l):=by
  intro rest nl hn;have hnl:=Z1b hn (by simp[Z4j]);subst hnl;obtain ⟨y,h1,h2⟩:=Z3t l .nil rest (fun p hp=>⟨h.key p hp,h.few p hp⟩) h.rise (by simp[Z04]);have h3:ZR y=l:=Z4L (by rw[h2];simp[Z04]) h.rise;refine ⟨y,?_,by rw[Z3y,h3]⟩;simp only[Z1k,if_true,Z2o,List.append_assoc,Z0e h.len,h1]
theorem Z88 {l:List (Nat × List UInt8)} {fl:Bool} (h:fl=true→Z8y l) {ver:Int}:Inv Z1k ver fl (fun x=>if fl then Z3y x else []) (if fl then uvW l.length++Zp l else []):=by
  cases fl with
  | true=>exact inv_tags (h rfl)
  | false=>intro rest nl _;exact ⟨.nil,by simp[Z1k],rfl⟩
theorem Z75 {out:List (Nat × List UInt8)} {k:Nat} (h:out.Pairwise fun a b=>a.1 < b.1):(∀ p ∈ out.take (Z0h out k),p.1 < k)∧(∀ p ∈ out.drop (Z0h out k),k≤p.1):=by
  induction out with
  | nil=>simp[Z0h]
  | cons q out ih =>
    have h1:=List.pairwise_cons.1 h
    by_cases hq:q.1 < k
    · have e : Z0h (q :: out) k = Z0h out k + 1 := by simp [Z0h, List.takeWhile_cons, hq]
      rw[e];obtain ⟨i1,i2⟩:=ih h1.2;exact ⟨by intro p hp;rcases List.mem_cons.1 (by simpa using hp) with rfl | hp;exact hq;exact i1 p hp,by simpa using i2⟩
    have e:Z0h (q::out) k=0:=by simp[Z0h,List.takeWhile_cons,hq]
    rw[e];refine ⟨by simp,?_⟩;intro p hp
    rcases List.mem_cons.1 (by simpa using hp) with rfl | hp
    · omega
    have:=h1.1 p hp;omega
theorem Z65 {least:Nat} {out:List (Nat × List UInt8)} {t:Nat × List UInt8} (h:out.Pairwise fun a b=>a.1 < b.1):(ZT least out t).Pairwise fun a b=>a.1 < b.1:=by
  unfold ZT
  split
  · exact h
  split
  · exact h
  rename_i hne
  obtain ⟨i1,i2⟩:=Z75 (k:=t.1) h;have hd:∀ p ∈ out.drop (Z0h out t.1),t.1 < p.1:=by
    intro p hp;have h2:=i2 p hp
    rcases Nat.lt_or_ge t.1 p.1 with h3 | h3
    · exact h3
    exfalso
    have hpe:p.1=t.1:=by omega
    cases hdr:out.drop (Z0h out t.1) with
    | nil=>rw[hdr] at hp;simp at hp
    | cons q r =>
      have hq:out[Z0h out t.1]?=some q:=by
        have:=congrArg (fun l=>l[0]?) hdr
        simpa using this
      have hpw:=List.Pairwise.sublist (List.drop_sublist (Z0h out t.1) out) h;rw[hdr] at hpw hp;have hq2:=i2 q (by rw[hdr];simp)
      rcases List.mem_cons.1 hp with rfl | hp
      · exact hne (by rw[hq];simp[hpe])
      have:=(List.pairwise_cons.1 hpw).1 p hp;omega
  rw[List.pairwise_append];refine ⟨h.sublist (List.take_sublist _ _),List.pairwise_cons.2 ⟨hd,h.sublist (List.drop_sublist _ _)⟩,?_⟩;intro a ha b hb;have h1:=i1 a ha
  rcases List.mem_cons.1 hb with rfl | hb
  · exact h1
  have:=hd b hb;omega
theorem Z74 {least:Nat} {out:List (Nat × List UInt8)} {t p:Nat × List UInt8} (h:p ∈ ZT least out t):p ∈ out∨p=t:=by
  unfold ZT at h
  split at h
  · exact .inl h
  split at h
  · exact .inl h
  rcases List.mem_append.1 h with h | h
  · exact .inl (List.mem_of_mem_take h)
  rcases List.mem_cons.1 h with rfl | h
  · exact .inr rfl
  exact .inl (List.mem_of_mem_drop h)
theorem Z41 {least:Nat}:∀ (u out:List (Nat × List UInt8)),out.Pairwise (fun a b=>a.1 < b.1)→(u.foldl (ZT least) out).Pairwise (fun a b=>a.1 < b.1)∧(∀ p ∈ u.foldl (ZT least) out,p ∈ out∨p ∈ u)∧(u.foldl (ZT least) out).length≤out.length+u.length
  | [],out,h=>⟨h,fun p hp=>.inl hp,by simp⟩
  | t :: u, out, h => by
    obtain ⟨h1,h2,h3⟩:=Z41 u (ZT least out t) (Z65 h);refine ⟨h1,fun p hp=>?_,?_⟩
    · rcases h2 p hp with h | h
      · rcases Z74 h with h | h
        · exact .inl h
        exact .inr (by simp[h])
      exact .inr (by simp[h])
    have:=Z2f least out t;simp only[List.foldl_cons,List.length_cons];omega
theorem Z5P {fs:List Fd} {t:T} (hk:∀ p ∈ t.u,p.1 < 4294967296):Z8y (ZC fs t):=by
  obtain ⟨h1,h2,h3⟩:=Z41 (least:=Z5 fs) (t.u.take 32767) [] (by simp);refine ⟨?_,?_,?_,?_⟩
  · exact List.pairwise_map.2 h1
  · intro p hp;obtain ⟨q, hq, rfl⟩ := List.mem_map.1 hp
    rcases h2 q hq with h | h
    · simp at h
    exact hk q (List.mem_of_mem_take h)
  · intro p hp;obtain ⟨q,hq,rfl⟩:=List.mem_map.1 hp;simp[Zb];omega
  unfold ZC Zy;rw[List.length_map];simp at h3
  omega
end Go.Kq

namespace Go.Kq
open Go
def Z3l:List Fd→Int→Bool→List T→Nat→List UInt8
  | [],_,_,_,_=>[]
  | f::fs,ver,flex,ts,i=>(if f.has ver then Zc f ver flex (atT ts i) else [])++Z3l fs ver flex ts (i+1)
theorem Z6E:∀ (fs:List Fd) (ver:Int) (flex:Bool) (ts:List T) (j:Nat),(∀ f ∈ fs,f.tag < 0)→Z0T fs ver (ZY fs ver flex ts j) fs.length=Z3l fs ver flex ts j
  | [],_,_,_,_,_=>rfl
  | f :: fs, ver, flex, ts, j, h => by
    have ih:=Z6E fs ver flex ts (j+1) fun g hg=>h g (by simp[hg]);have hf:=h f (by simp);rw[Z3l,← ih,Z0T,List.length_cons,List.range_succ_eq_map,List.flatMap_cons,List.flatMap_map,ZY];simp[Z0T,hf]
theorem Z3c {fs:List Fd} {ver:Int} {flex:Bool} {t:T} (h:∀ f ∈ fs,f.tag < 0):Z07 fs ver flex t=Z3l fs ver flex t.l 0++(if flex then uvW (ZC fs t).length++Zp (ZC fs t) else []):=by
  have hk:Zl fs t (ZY fs ver flex t.l 0)=[]:=by simp[Zl,Z2y h]
  have hp:∀ l:List (Nat × List UInt8),l.flatMap ZP=Zp l:=fun l=>by
    simp only[Zp,List.flatMap];congr 1
  rw[Z07,Z83,hk,Z6E _ _ _ _ _ h]
  cases flex <;> simp[hp]
section
variable {ver:Int} {flex:Bool} {t:T} {nul of:Int} {sub:T→List UInt8}
theorem Z7d:ZM 3 nul of sub ver flex t=fxW t.n 4:=by simp[ZM,Zi,Zg]
theorem Z7c:ZM 4 nul of sub ver flex t=fxW t.n 8:=by simp[ZM,Zi,Zg]
theorem Z4P (h:nul < 0):Z0S nul ver t=false:=by
  have:¬ nul≥0:=by omega
  simp[Z0S,this]
theorem Z2i (h:Z0S nul ver t=false):ZM 8 nul of sub ver flex t=if flex then uvW ((Zb t.s).length+1)++Zb t.s else fxW (Zb t.s).length 2++Zb t.s:=by
  cases flex <;> simp[ZM,Zi,Zk,h]
theorem Z66 (h:Z0S nul ver t=true):ZM 8 nul of sub ver flex t=if flex then [0] else fxW (-1) 2:=by
  cases flex <;> simp[ZM,Zi,Zk,h]
theorem Z0Z (s:List UInt8):(Zb s).length≤32767:=by simp[Zb];omega
end
end Go.Kq

namespace Go.Kq
open Go
theorem Z4J {n:Nat} (h:n < 4294967296):(uvW n).length≤5:=Z6j 5 n (by omega) (by simp only[Nat.reducePow];omega)
mutual
/-- So many Z0 a piece. -/
def kF:Fd→Nat
  | .mk _ _ _ _ _ _ _ sub=>kFs sub+40
def kFs:List Fd→Nat
  | []=>0
  | f::fs=>kF f+kFs fs
end
mutual
/-- No field is a tag. -/
def freeF:Fd→Bool
  | .mk _ _ _ _ tag _ _ sub=>decide (tag < 0) && Z5z sub
def Z5z:List Fd→Bool
  | []=>true
  | f::fs=>freeF f && Z5z fs
end
theorem Z4x:∀ {fs:List Fd},Z5z fs=true→∀ f ∈ fs,f.tag < 0
  | [],_,_,h=>by simp at h
  | g :: fs, h, f, hf => by
    rw[Z5z,Bool.and_eq_true] at h
    rcases List.mem_cons.1 hf with rfl | hf
    · cases f;simp[freeF] at h;exact h.1.1
    exact Z4x h.2 f hf
theorem Z7z (t:T):1≤tw t:=by cases t;rw[tw];omega
theorem tw_eq (t:T):tw t=1+t.s.length+tws t.l+Z0j t.u:=by cases t;rw[tw];rfl
theorem ZN.u {t:T} (h:ZN t):∀ p ∈ t.u,p.1 < 4294967296:=by cases h;assumption
theorem ZN.l {t:T} (h:ZN t):∀ y ∈ t.l,ZN y:=by cases h;assumption
theorem ZN.zero:ZN .zero:=.mk (by simp) (by simp)
theorem ZN.at {l:List T} (h:∀ y ∈ l,ZN y) (i:Nat):ZN (atT l i):=by
  unfold atT
  cases hi:l[i]? with
  | none=>exact .zero
  | some y=>exact h y (List.mem_of_getElem? hi)
theorem Z3k {flex null:Bool} {n size:Nat} (h:n≤32767) (hs:size≤4):(Zk flex null n size).length≤5:=by
  unfold Zk;have:=Z4J (n:=n+1) (by omega)
  split
  · simp
  split
  · omega
  split <;> simp only[fxL] <;> omega
theorem Z6g {kind:Int} {sub:T→List UInt8} {null flex:Bool} {t:T} {S:Nat} (hS:(sub t).length≤S * tw t):(Zi kind sub null flex t).length≤(S+19) * tw t:=by
  have h1:=Z7z t;have h2:=tw_eq t;rw[Nat.add_mul];have h3:(if null then [] else Zb t.s).length≤t.s.length:=by cases null <;> simp[Zb];omega
  have h4:(if null then [] else Zb t.s).length≤32767:=by cases null <;> simp[Zb];omega
  unfold Zi
  split
  · simp;omega
  split
  · simp only[Z2K,List.length_append,List.length_take,List.length_replicate];omega
  split
  · rw[List.length_append];have:=Z3k (flex:=flex) (null:=null) (size:=2) h4 (by omega);omega
  split
  · rw[List.length_append];have:=Z3k (flex:=flex) (null:=null) (size:=4) h4 (by omega);omega
  split
  · omega
  have:Zg kind≤8:=by unfold Zg;repeat' split <;> try omega
  rw[fxL];omega
theorem tws_take (l:List T) (n:Nat):((l.take n).map tw).sum≤tws l:=by
  rw[Z5R]
  induction l generalizing n with
  | nil=>simp
  | cons y l ih =>
    cases n with
    | zero=>simp
    | succ n=>have:=ih n;simp only[List.take_succ_cons,List.map_cons,List.sum_cons];omega
theorem Z8g {f:T→List UInt8} {S:Nat}:∀ {l:List T},(∀ y ∈ l,(f y).length≤S * tw y)→(l.flatMap f).length≤S * (l.map tw).sum
  | [],_=>by simp
  | y :: l, h => by
    have h1:=h y (by simp);have h2:=Z8g (f:=f) (S:=S) (l:=l) fun z hz=>h z (by simp[hz]);simp only[List.flatMap_cons,List.length_append,List.map_cons,List.sum_cons,Nat.mul_add];omega
theorem Z5e (a b:List (Nat × List UInt8)):Z0j (a++b)=Z0j a+Z0j b:=by simp[Z0j]
theorem Z7D (least:Nat) (out:List (Nat × List UInt8)) (t:Nat × List UInt8):Z0j (ZT least out t)≤Z0j out+(t.2.length+1):=by
  unfold ZT
  split
  · omega
  split
  · omega
  have h1:Z0j out=Z0j (out.take (Z0h out t.1))+Z0j (out.drop (Z0h out t.1)):=by rw[← Z5e,List.take_append_drop]
  rw[Z5e];have h2:Z0j (t::out.drop (Z0h out t.1))=t.2.length+1+Z0j (out.drop (Z0h out t.1)):=by simp[Z0j]
  omega
theorem Z3P (least:Nat):∀ (u out:List (Nat × List UInt8)),Z0j (u.foldl (ZT least) out)≤Z0j out+Z0j u
  | [],out=>by simp
  | t :: u, out => by
    have h1:=Z7D least out t;have h2:=Z3P least u (ZT least out t);have h3:Z0j (t::u)=t.2.length+1+Z0j u:=by simp[Z0j]
    rw[List.foldl_cons];omega
theorem Z4m:∀ (u:List (Nat × List UInt8)) (n:Nat),Z0j (u.take n)≤Z0j u
  | [],n=>by simp
  | p::u,0=>by simp[Z0j]
  | p::u,n+1=>by have:=Z4m u n;simp[Z0j] at this ⊢;omega
theorem Z3O:∀ u:List (Nat × List UInt8),Z0j (u.map fun p=>(p.1,Zb p.2))≤Z0j u
  | []=>by simp
  | p :: u => by
    have:=Z3O u;simp[Z0j,Zb] at this ⊢;omega
theorem unksW_wt {fs:List Fd} {t:T}:Z0j (ZC fs t)≤Z0j t.u:=by
  unfold ZC Zy;have h1:=Z3O ((t.u.take 32767).foldl (ZT (Z5 fs)) []);have h2:=Z3P (Z5 fs) (t.u.take 32767) [];have h3:=Z4m t.u 32767;have h4:Z0j []=0:=rfl;omega
theorem Z6m:∀ {l:List (Nat × List UInt8)},(∀ p ∈ l,p.1 < 4294967296∧p.2.length≤32767)→(Zp l).length≤10 * Z0j l
  | [],_=>by simp[Zp]
  | p :: l, h => by
    have h1:=Z6m (l:=l) fun q hq=>h q (by simp[hq]);obtain ⟨h2,h3⟩:=h p (by simp);have h4:=Z4J h2;have h5:=Z4J (n:=p.2.length) (by omega);simp[Zp,tagW,Z0j] at h1 ⊢
    omega
end Go.Kq

namespace Go.Kq
open Go Go.Proofs
def Z0N:List Fd→Int→Bool→List T→Nat→List UInt8
  | [],_,_,_,_=>[]
  | f::fs,ver,flex,ts,i=>(if decide (f.tag < 0) && f.has ver then Zc f ver flex (atT ts i) else [])++Z0N fs ver flex ts (i+1)
def knL:List Fd→Int→Bool→List T→Nat→List (Nat × List UInt8)
  | [],_,_,_,_=>[]
  | f::fs,ver,flex,ts,i=>(if decide (f.tag=0) && !ZG f (atT ts i) then [(0,Zc f ver flex (atT ts i))] else [])++knL fs ver flex ts (i+1)
theorem Z4R:∀ (fs:List Fd) (ver:Int) (flex:Bool) (ts:List T) (j:Nat),Z0T fs ver (ZY fs ver flex ts j) fs.length=Z0N fs ver flex ts j
  | [],_,_,_,_=>rfl
  | f :: fs, ver, flex, ts, j => by
    have ih:=Z4R fs ver flex ts (j+1);rw[Z0N,← ih,Z0T,List.length_cons,List.range_succ_eq_map,List.flatMap_cons,List.flatMap_map,ZY];simp[Z0T]
theorem knL_eq:∀ (fs:List Fd) (ver:Int) (flex:Bool) (ts us:List T) (j:Nat),us=ts.drop j →
    ((List.range fs.length).flatMap fun i=>match fs[i]? with
      | some f=>if decide (f.tag=((0:Nat):Int)) && !ZG f (atT us i) then [((0:Nat),(ZY fs ver flex ts j).getD i [])] else []
      | none=>[])=knL fs ver flex ts j
  | [],_,_,_,_,_,_=>rfl
  | f :: fs, ver, flex, ts, us, j, hu => by
    have ih:=knL_eq fs ver flex ts (us.drop 1) (j+1) (by rw[hu,List.drop_drop]);have e0:atT us 0=atT ts j:=by rw[hu];unfold atT;rw[List.getElem?_drop];simp
    have e1:∀ i,atT us (i+1)=atT (us.drop 1) i:=fun i=>by unfold atT;rw[List.getElem?_drop];congr 2;omega
    rw[knL,← ih,List.length_cons,List.range_succ_eq_map,List.flatMap_cons,List.flatMap_map,ZY];simp only[List.getElem?_cons_zero,List.getElem?_cons_succ,List.getD_cons_zero,List.getD_cons_succ,e0,e1]
    congr 1
theorem partW_kn {fs:List Fd} {ver:Int} {flex:Bool} {t:T} (h:Z5 fs=1) :
    Z07 fs ver flex t=Z0N fs ver flex t.l 0++(if flex then uvW (knL fs ver flex t.l 0++ZC fs t).length++Zp (knL fs ver flex t.l 0++ZC fs t) else []):=by
  have hp:∀ l:List (Nat × List UInt8),l.flatMap ZP=Zp l:=fun l=>by
    simp only[Zp,List.flatMap];congr 1
  have hk:Zl fs t (ZY fs ver flex t.l 0)=knL fs ver flex t.l 0:=by
    rw[← knL_eq fs ver flex t.l t.l 0 (by simp)];unfold Zl;rw[h,show List.range 1=[0] from rfl,List.flatMap_cons,List.flatMap_nil,List.append_nil]
    rfl
  rw[Z07,Z83,hk,Z4R]
  cases flex <;> simp[hp]
theorem Z4K {n:Nat} (h:n < 18446744073709551616):(uvW n).length≤10:=Z6j 10 n (by omega) (by simp only[Nat.reducePow];omega)
theorem knL_len {fs:List Fd} {ver:Int} {flex:Bool} {ts:List T} {i:Nat}:(knL fs ver flex ts i).length≤fs.length:=by
  induction fs generalizing i with
  | nil=>simp[knL]
  | cons f fs ih =>
    have:=ih (i:=i+1);rw[knL,List.length_append,List.length_cons]
    split <;> simp only[List.length_cons,List.length_nil] <;> omega
theorem both_le {fs:List Fd} {ver:Int} {flex:Bool} {ts:List T} {i:Nat} (h:∀ j f,fs[j]?=some f→(Zc f ver flex (atT ts (i+j))).length < 18446744073709551616) :
    (Z0N fs ver flex ts i).length+(Zp (knL fs ver flex ts i)).length≤((ZY fs ver flex ts i).map List.length).sum+15 * fs.length:=by
  induction fs generalizing i with
  | nil=>simp[knL,Zp,Z0N]
  | cons f fs ih =>
    have h1:=ih (i:=i+1) fun j g hg=>by
      have:=h (j+1) g (by simpa using hg)
      rwa [show i+1+j=i+(j+1) from by omega]
    have h2:=Z4K (h 0 f (by simp));have h3:=Z4J (n:=0) (by omega);rw[Nat.add_zero] at h2;rw[knL,Z0N,ZY,List.map_cons,List.sum_cons,List.length_cons];have ha:∀ a b:List (Nat × List UInt8),Zp (a++b)=Zp a++Zp b:=fun a b=>by simp[Zp]
    rw[ha,List.length_append,List.length_append];have e1:(Zp [(0,Zc f ver flex (atT ts i))]).length=(uvW 0).length+((uvW (Zc f ver flex (atT ts i)).length).length+(Zc f ver flex (atT ts i)).length):=by simp[Zp,tagW]
    have e2:(Zp []).length=0:=rfl
    by_cases ht:f.tag < 0
    · have ht0 : ¬ f.tag = 0 := by omega
      simp only[ht0,decide_false,Bool.false_and,Bool.false_eq_true,if_false,e2]
      split
      · omega
      simp only[List.length_nil];omega
    simp only[ht,decide_false,Bool.false_and,Bool.false_eq_true,if_false,List.length_nil]
    split
    · omega
    omega
theorem known_le {fs:List Fd} {k:Nat}:Z5 fs≤k→∀ f ∈ fs,f.tag < k:=by
  induction fs with
  | nil=>simp
  | cons g fs ih =>
    intro h f hf;rw[Z5] at h
    rcases List.mem_cons.1 hf with rfl | hf
    · split at h <;> omega
    exact ih (by split at h <;> omega) f hf
theorem Z6r {fs:List Fd} {ver:Int} {flex:Bool} {ts:List T} (h:∀ f ∈ fs,f.tag < 0):∀ i,knL fs ver flex ts i=[]:=by
  induction fs with
  | nil=>intro i;rfl
  | cons f fs ih =>
    intro i;have:=h f (by simp);rw[knL,ih (fun g hg=>h g (by simp[hg])),List.append_nil,if_neg (by simp;omega)]
theorem Z3W {fs:List Fd} {ver:Int} {flex:Bool} {t:T} (h:Z5 fs≤1) :
    Z07 fs ver flex t=Z0N fs ver flex t.l 0++(if flex then uvW (knL fs ver flex t.l 0++ZC fs t).length++Zp (knL fs ver flex t.l 0++ZC fs t) else []):=by
  by_cases h1:Z5 fs=1
  · exact partW_kn h1
  have h0:∀ f ∈ fs,f.tag < 0:=fun f hf=>by have:=known_le (k:=0) (by omega) f hf;simpa using this
  have hp:∀ l:List (Nat × List UInt8),l.flatMap ZP=Zp l:=fun l=>by
    simp only[Zp,List.flatMap];congr 1
  have hk:Zl fs t (ZY fs ver flex t.l 0)=[]:=by simp[Zl,Z2y h0]
  rw[Z6r h0,Z07,Z83,hk,Z4R]
  cases flex <;> simp[hp]
mutual
/-- So many Z0 a piece, tags among them. -/
def kGn:Fd→Nat
  | .mk _ _ _ _ _ _ _ sub=>kGs sub+40
def kGs:List Fd→Nat
  | []=>0
  | f::fs=>kGn f+15+kGs fs
end
theorem Z82:∀ fs:List Fd,15 * fs.length≤kGs fs
  | []=>by simp[kGs]
  | f::fs=>by have:=Z82 fs;rw[kGs,List.length_cons];omega
mutual
/-- One tag at most, the tag nought, in every part. -/
def okB:Fd→Bool | .mk _ _ _ _ _ _ _ sub=>decide (Z5 sub≤1) && okBl sub
def okBl:List Fd→Bool
  | []=>true
  | f::fs=>okB f && okBl fs
end
theorem Z3x {ver:Int} {flex:Bool} {M:Nat}:∀ {fs:List Fd} {ts:List T} {i:Nat},(∀ f ∈ fs,∀ y,ZN y→tw y≤M→(Zc f ver flex y).length≤kGn f * tw y)→(∀ y ∈ ts,ZN y)→1+tws (ts.drop i)≤M→((ZY fs ver flex ts i).map List.length).sum+15 * fs.length≤kGs fs * (1+tws (ts.drop i))
  | [],ts,i,_,_,_=>by simp[ZY]
  | f :: fs, ts, i, h, hk, hM => by
    have h3:tw (atT ts i)+tws (ts.drop (i+1))≤1+tws (ts.drop i):=by
      unfold atT
      cases hi:ts[i]? with
      | none =>
        have:ts.length≤i:=by simpa using hi
        rw[List.drop_of_length_le this,List.drop_of_length_le (by omega)];have e:tw T.zero=1:=rfl;simp only[Option.getD_none];rw[e];omega
      | some y =>
        obtain ⟨hl,rfl⟩:=List.getElem?_eq_some_iff.1 hi;rw[List.drop_eq_getElem_cons hl,tws];simp only[Option.getD_some];omega
    have hp:=Z7z (atT ts i);have h1:=Z3x (M:=M) (fs:=fs) (ts:=ts) (i:=i+1) (fun g hg=>h g (by simp[hg])) hk (by omega);have h2:(Zc f ver flex (atT ts i)).length≤kGn f * tw (atT ts i):=h f (by simp) _ (ZN.at hk i) (by omega);have h4:kGn f * tw (atT ts i)≤kGn f * (1+tws (ts.drop i)):=Nat.mul_le_mul_left _ (by omega);have h5:kGs fs * (1+tws (ts.drop (i+1)))≤kGs fs * (1+tws (ts.drop i)):=Nat.mul_le_mul_left _ (by omega);rw[ZY,List.map_cons,List.sum_cons,kGs,List.length_cons,Nat.add_mul,Nat.add_mul];omega
theorem Z7Z:∀ {l:List Nat} {x:Nat},x ∈ l→x≤l.sum
  | y :: l, x, h => by
    rw[List.sum_cons]
    rcases List.mem_cons.1 h with rfl | h
    · omega
    have:=Z7Z h;omega
theorem Z27 {fs:List Fd} {ver:Int} {flex:Bool} {t:T} (hf:Z5 fs≤1) (hk:ZN t) (hs:tw t≤1048576) (hK:kGs fs≤1048576) (h:∀ f ∈ fs,∀ y,ZN y→tw y≤1048576→(Zc f ver flex y).length≤kGn f * tw y):(Z07 fs ver flex t).length≤(kGs fs+20) * tw t:=by
  have h2:=tw_eq t;have h1:=Z3x (i:=0) h hk.l (by rw[List.drop_zero];omega);have hu:=Z5P (fs:=fs) hk.u;rw[List.drop_zero] at h1;have h4:kGs fs * (1+tws t.l)≤kGs fs * tw t:=Nat.mul_le_mul_left _ (by omega);have h6:kGs fs * tw t≤1048576 * 1048576:=Nat.mul_le_mul hK hs;have hb:=both_le (fs:=fs) (ver:=ver) (flex:=flex) (ts:=t.l) (i:=0) fun j f hj=>by
    have:(Zc f ver flex (atT t.l (0+j))).length≤((ZY fs ver flex t.l 0).map List.length).sum:=by
      rw[← Z2h fs ver flex t.l 0 j f hj];rw[List.getD_eq_getElem?_getD]
      cases hx:(ZY fs ver flex t.l 0)[j]? with
      | none=>simp
      | some x =>
        have hm:=List.mem_of_getElem? hx;simp only[Option.getD_some];exact Z7Z (List.mem_map_of_mem hm)
    omega
  rw[Z3W hf,List.length_append];have ha:∀ a b:List (Nat × List UInt8),Zp (a++b)=Zp a++Zp b:=fun a b=>by simp[Zp]
  have h3:(if flex then uvW (knL fs ver flex t.l 0++ZC fs t).length++Zp (knL fs ver flex t.l 0++ZC fs t) else []).length≤10+(Zp (knL fs ver flex t.l 0)).length+10 * Z0j t.u:=by
    split
    · have e1 := knL_len (fs := fs) (ver := ver) (flex := flex) (ts := t.l) (i := 0);have e2 := Z82 fs;have e3 := hu.len;have := Z4K (n := (knL fs ver flex t.l 0 ++ ZC fs t).length) (by rw [List.length_append]; omega);have := Z6m (l := ZC fs t) fun p hp => ⟨hu.key p hp, hu.few p hp⟩;have := unksW_wt (fs := fs) (t := t);have e5 : (Zp (knL fs ver flex t.l 0 ++ ZC fs t)).length = (Zp (knL fs ver flex t.l 0)).length + (Zp (ZC fs t)).length := by rw [ha, List.length_append]
      rw[List.length_append,e5];omega
    simp
  rw[Nat.add_mul];omega
theorem tw_mem:∀ {l:List T} {y:T},y ∈ l→tw y≤tws l
  | z :: l, y, h => by
    rw[tws]
    rcases List.mem_cons.1 h with rfl | h
    · omega
    have:=tw_mem h;omega
theorem Z7b {kind nul of:Int} {sub:T→List UInt8} {ver:Int} {flex:Bool} {t:T} {S:Nat} (hk:ZN t) (hS:∀ y,ZN y→tw y≤tw t→(sub y).length≤S * tw y):(ZM kind nul of sub ver flex t).length≤(S+20) * tw t:=by
  have h1:=Z7z t;have h2:=tw_eq t;unfold ZM
  split
  · rw [List.length_append];have h3 : (Z0K (Z0S nul ver t) t).length ≤ 32767 := by unfold Z0K; split <;> simp; omega
    have h4:=Z3k (flex:=flex) (null:=Z0S nul ver t) (size:=4) h3 (by omega);have h5:((Z0K (Z0S nul ver t) t).flatMap (Zi of sub false flex)).length≤(S+19) * ((Z0K (Z0S nul ver t) t).map tw).sum:=by
      refine Z8g fun y hy=>?_;have hm:y ∈ t.l:=by
        unfold Z0K at hy
        split at hy
        · simp at hy
        exact List.mem_of_mem_take hy
      exact Z6g (hS y (hk.l y hm) (by have:=tw_mem hm;omega))
    have h6:((Z0K (Z0S nul ver t) t).map tw).sum≤tws t.l:=by
      unfold Z0K
      split
      · simp
      exact tws_take _ _
    have h7:=Nat.mul_le_mul_left (S+19) (show ((Z0K (Z0S nul ver t) t).map tw).sum≤tw t - 1 by omega);have h8:(S+20) * tw t=(S+20) * (tw t - 1)+(S+20):=by
      conv=>lhs;rw[show tw t=(tw t - 1)+1 from by omega,Nat.mul_succ]
    have h9:(S+20) * (tw t - 1)=(S+19) * (tw t - 1)+(tw t - 1):=by rw[Nat.succ_mul (S+19)]
    omega
  split
  · have := hS t hk (Nat.le_refl _);rw [Nat.add_mul]
    split
    · simp;omega
    simp only[List.length_cons];omega
  have:=Z6g (kind:=kind) (null:=Z0S nul ver t) (flex:=flex) (hS t hk (Nat.le_refl _));rw[Nat.add_mul] at this ⊢;omega
mutual
theorem Z7a:∀ (f:Fd),okB f=true→kGn f≤1048576→∀ (ver:Int) (flex:Bool) (t:T),ZN t→tw t≤1048576→(Zc f ver flex t).length≤kGn f * tw t
  | .mk kind fr to nul tag df of sub, h, hK, ver, flex, t, hk, ht => by
    rw[okB,Bool.and_eq_true,decide_eq_true_eq] at h;rw[kGn] at hK;rw[Z06,kGn];exact Z7b (S:=kGs sub+20) hk fun y hy hty=>Z27 h.1 hy (by omega) (show kGs sub≤1048576 by omega) (Z2A sub h.2 (by omega) ver flex)
theorem Z2A:∀ (fs:List Fd),okBl fs=true→kGs fs≤1048576→∀ (ver:Int) (flex:Bool),∀ f ∈ fs,∀ y,ZN y→tw y≤1048576→(Zc f ver flex y).length≤kGn f * tw y
  | [],_,_,_,_,f,hf=>by simp at hf
  | g :: fs, h, hK, ver, flex, f, hf => by
    rw[okBl,Bool.and_eq_true] at h;rw[kGs] at hK;intro y hy hty
    by_cases e:f=g
    · rw[e];exact Z7a g h.1 (by omega) ver flex y hy hty
    exact Z2A fs h.2 (by omega) ver flex f (by rcases List.mem_cons.1 hf with hf | hf;exact absurd hf e;exact hf) y hy hty
end
theorem Z7G {fs:List Fd} {t:T} (hf:(decide (Z5 fs≤1) && okBl fs)=true) (hk:ZN t) (hw:tw t≤1048576) (hK:kGs fs+20≤2048):ZN t∧∀ ver flex,(Z07 fs ver flex t).length≤2147483648:=by
  rw[Bool.and_eq_true,decide_eq_true_eq] at hf;refine ⟨hk,fun ver flex=>?_⟩;have h1:=Z27 (ver:=ver) (flex:=flex) hf.1 hk hw (by omega) (Z2A fs hf.2 (by omega) ver flex);have h2:=Nat.mul_le_mul hK hw;omega
end Go.Kq

namespace Go.Kq
open Go Go.Proofs
section
variable {P:Program} {a:Act} {w:World} {K:Act→World→Prop} {Q:Exit→Act→World→Prop} {d:Option Tmp} {t:TypeId} {p:String} {af:Array Edge} {g:Option (Nat × Bool)} {s u:TypeId} {x y:Operand} {k1:IntKind} {i j:Int}
theorem wp_neqT (h:¬ i=j) (hx:a.eval x = .int k1 i) (hy:a.eval y = .int k1 j) (k:K (a.put d (.bool true)) w):OW P ⟨d,.binOp .neq s x y u,t,p,af,g⟩ a w K Q:=Z4i hx hy (by rw[show (i != j)=true from by simp[h]];exact k)
theorem wp_neqF (h:i=j) (hx:a.eval x = .int k1 i) (hy:a.eval y = .int k1 j) (k:K (a.put d (.bool false)) w):OW P ⟨d,.binOp .neq s x y u,t,p,af,g⟩ a w K Q:=Z4i hx hy (by rw[show (i != j)=false from by simp[h]];exact k)
end
end Go.Kq

namespace Go.Kq
open Go Go.Proofs
set_option maxHeartbeats 4000000 in
theorem usualu_m {P:Program} {f:FuncId} {fn:Func} {T2 T3 T4 T5 T22 T23 T24 T26 T29 T45:TypeId} {f13 f56 f58 f60 f94 f95:FuncId} {ct0:Array TypeId} {ct1:Array TypeId} {ct2:Array TypeId} {ct3:Array TypeId} {ct4:Array TypeId} {ct5:Array TypeId} {ct6:Array TypeId} {ct7:Array TypeId} {i0 i1 i2 i3 i4 i5 i6 i7 i8 i9 i10 i11 i12 i13 i14 i15 i16 i17 i18 i19 i20 i21 i22 i23 i24 i25 i26 i27:Nat} {t0 t1 t2 t3 t4 t5 t6 t7 t8 t9 t10 t11 t12 t13 t14 t15 t16 t17 t18 t19 t20 t21 t22 t23 t24 t25 t26 t27 t28 t29 t30 t31 t32 t33 t34 t35 t36 t37 t38 t39 t40 t41 t42 t43 t44 t45 t46 t47 t48 t49 t50 t51 t52 t53 t54 t55 t56 t57 t58 t59 t60 t61 t62 t63 t64 t65 t66 t67 t68 t69 t70 t71 t72 t73 t74 t75 t76 t77 t78 t79 t80 t81 t82 t83 t84 t85 t86 t87 t88 t89 t90 t91 t92 t93 t94 t95 t96 t97 t98 t99 t100 t101:TypeId} {p0 p1 p2 p3 p4 p5 p6 p7 p8 p9 p10 p11 p12 p13 p14 p15 p16 p17 p18 p19 p20 p21 p22 p23 p24 p25 p26 p27 p28 p29 p30 p31 p32 p33 p34 p35 p36 p37 p38 p39 p40 p41 p42 p43 p44 p45 p46 p47 p48 p49 p50 p51 p52 p53 p54 p55 p56 p57 p58 p59 p60 p61 p62 p63 p64 p65 p66 p67 p68 p69 p70 p71 p72 p73 p74 p75 p76 p77 p78 p79 p80 p81 p82 p83 p84 p85 p86 p87 p88 p89 p90 p91 p92 p93 p94 p95 p96 p97 p98 p99 p100 p101:String} {e0 e1 e2 e3 e4 e5 e6 e7 e8 e9 e10 e11 e12 e13 e14 e15 e16 e17 e18 e19 e20 e21 e22 e23 e24 e25 e26 e27 e28 e29 e30 e31 e32 e33 e34 e35 e36 e37 e38 e39 e40 e41 e42 e43 e44 e45 e46 e47 e48 e49 e50 e51 e52 e53 e54 e55 e56 e57 e58 e59 e60 e61 e62 e63 e64 e65 e66 e67 e68 e69 e70 e71 e72 e73 e74 e75 e76 e77 e78 e79 e80 e81 e82 e83 e84 e85 e86 e87 e88 e89 e90 e91 e92 e93 e94 e95 e96 e97 e98 e99 e100 e101:Array Edge} {fd:Fd} {te:TypeId}
    (hf:P.funcs[f]?=some fn) (hname:nG fn=false) (hres:fn.results = #[.tmp 4]) (hN:fn.ntmps=91)
    (hbody:fn.body=some (.seq (Code.region i0 ⟨[⟨some 2,.box T45 (.tmp 0),t0,p0,e0,none⟩,⟨some 3,.box T26 (.tmp 1),t1,p1,e1,none⟩,
    oA 4 (.const (.bool false)) t2 p2 e2]⟩ false) (.seq (.seq (Code.region i1 ⟨[oF 9 T45 2 0 t3 p3 e3,
    oL 10 T3 9 t4 p4 e4]⟩ false) (.block 0 (.seq (Code.region i2 ⟨[⟨some 12,.binOp .eql T3 (.tmp 10) (.const (.int .i64 0)) T3,t5,p5,e5,none⟩,
    oT 11 12 t6 p6 e6]⟩ false) (.cond (.tmp 11) (.seq (Code.region i3 ⟨[oF 13 T26 3 0 t7 p7 e7,
    oL 14 T2 13 t8 p8 e8,⟨some 15,.binOp .and T2 (.tmp 14) (.const (.int .i64 1)) T2,t9,p9,e9,none⟩,
    oF 16 T45 2 5 t10 p10 e10,
    oL 17 T2 16 t11 p11 e11,⟨some 18,.binOp .eql T2 (.tmp 15) (.tmp 17) T2,t12,p12,e12,none⟩,
    oT 4 18 t13 p13 e13]⟩ false) .ret) (.seq (Code.region i4 ⟨[⟨some 20,.binOp .eql T3 (.tmp 10) (.const (.int .i64 7)) T3,t14,p14,e14,none⟩,
    oT 19 20 t15 p15 e15]⟩ false) (.cond (.tmp 19) (.seq (.seq (Code.region i5 ⟨[oF 21 T26 3 1 t16 p16 e16,
    oL 22 T22 21 t17 p17 e17,⟨some 23,.call ⟨.builtin .len,#[(.tmp 22)],#[T22]⟩,t18,p18,e18,none⟩,⟨some 24,.move (.const (.int .i64 0)),t19,p19,e19,none⟩]⟩ false) (.block 1 (.loop (.seq (Code.region i6 ⟨[⟨some 25,.binOp .lss T3 (.tmp 24) (.tmp 23) T3,t20,p20,e20,none⟩]⟩ false) (.seq (.cond (.tmp 25) .skip
  (.exit 1)) (.seq (.block 2 (.seq (Code.region i7 ⟨[oM 26 24 t21 p21 e21,⟨some 27,.indexAddr T22 (.tmp 22) (.tmp 24),t22,p22,e22,none⟩,
    oL 28 T5 27 t23 p23 e23,
    oT 5 26 t24 p24 e24,
    oT 6 28 t25 p25 e25]⟩ false) (.seq (Code.region i8 ⟨[oM 29 5 t26 p26 e26,⟨some 30,.binOp .lss T3 (.tmp 29) (.const (.int .i64 16)) T3,t27,p27,e27,none⟩,
    oM 31 30 t28 p28 e28,⟨some 32,.move (.tmp 6),t29,p29,e29,some (2,true)⟩,⟨some 33,.binOp .neq T5 (.tmp 32) (.const (.int .u8 0)) T5,t30,p30,e30,some (2,true)⟩,⟨some 34,.pick (.tmp 31) (.tmp 33) (.const (.bool false)),t31,p31,e31,none⟩]⟩ false) (.cond (.tmp 34) (.seq (Code.region i9 ⟨[oA 4 (.const (.bool false)) t32 p32 e32]⟩ false) .ret) .skip))))
  (Code.region i10 ⟨[⟨some 35,.binOp .add T3 (.tmp 24) (.const (.int .i64 1)) T3,t33,p33,e33,none⟩,
    oM 24 35 t34 p34 e34]⟩ false))))))) (.seq (Code.region i11 ⟨[oA 4 (.const (.bool true)) t35 p35 e35]⟩ false) .ret)) (.seq (.seq (Code.region i12 ⟨[⟨some 37,.binOp .eql T3 (.tmp 10) (.const (.int .i64 8)) T3,t36,p36,e36,none⟩,
    oT 36 37 t37 p37 e37]⟩ false) (.cond (.tmp 36) .skip
  (Code.region i13 ⟨[⟨some 38,.binOp .eql T3 (.tmp 10) (.const (.int .i64 9)) T3,t38,p38,e38,none⟩,
    oT 36 38 t39 p39 e39]⟩ false))) (.cond (.tmp 36) (.seq (.seq (Code.region i14 ⟨[oF 39 T45 2 3 t40 p40 e40,
    oL 40 T3 39 t41 p41 e41,⟨some 41,.binOp .geq T3 (.tmp 40) (.const (.int .i64 0)) T3,t42,p42,e42,none⟩]⟩ false) (.cond (.tmp 41) (.seq (Code.region i15 ⟨[oF 42 T26 3 2 t43 p43 e43,
    oL 43 T4 42 t44 p44 e44,
    oT 4 43 t45 p45 e45]⟩ false) .ret) .skip)) (.seq (Code.region i16 ⟨[oF 44 T26 3 1 t46 p46 e46,
    oL 45 T22 44 t47 p47 e47,⟨some 46,.call ⟨.builtin .len,#[(.tmp 45)],#[T22]⟩,t48,p48,e48,none⟩,⟨some 47,.binOp .eql T3 (.tmp 46) (.const (.int .i64 0)) T3,t49,p49,e49,none⟩,
    oT 4 47 t50 p50 e50]⟩ false) .ret)) (.seq (Code.region i17 ⟨[⟨some 49,.binOp .eql T3 (.tmp 10) (.const (.int .i64 11)) T3,t51,p51,e51,none⟩,
    oT 48 49 t52 p52 e52]⟩ false) (.cond (.tmp 48) (.seq (Code.region i18 ⟨[oF 50 T26 3 3 t53 p53 e53,
    oL 51 T23 50 t54 p54 e54,⟨some 52,.call ⟨.builtin .len,#[(.tmp 51)],#[T23]⟩,t55,p55,e55,none⟩,⟨some 53,.binOp .eql T3 (.tmp 52) (.const (.int .i64 0)) T3,t56,p56,e56,none⟩,
    oT 4 53 t57 p57 e57]⟩ false) .ret) (.seq (Code.region i19 ⟨[⟨some 55,.binOp .eql T3 (.tmp 10) (.const (.int .i64 10)) T3,t58,p58,e58,none⟩,
    oT 54 55 t59 p59 e59]⟩ false) (.cond (.tmp 54) (.seq (.seq (Code.region i20 ⟨[oF 56 T45 2 7 t60 p60 e60,
    oL 57 T29 56 t61 p61 e61,⟨some 58,.call ⟨.builtin .len,#[(.tmp 57)],#[T29]⟩,t62,p62,e62,none⟩,⟨some 59,.move (.const (.int .i64 0)),t63,p63,e63,none⟩]⟩ false) (.block 3 (.loop (.seq (Code.region i21 ⟨[⟨some 60,.binOp .lss T3 (.tmp 59) (.tmp 58) T3,t64,p64,e64,none⟩]⟩ false) (.seq (.cond (.tmp 60) .skip
  (.exit 3)) (.seq (.block 4 (.seq (Code.region i22 ⟨[oM 61 59 t65 p65 e65,⟨some 62,.indexAddr T29 (.tmp 57) (.tmp 59),t66,p66,e66,none⟩,
    oL 63 T45 62 t67 p67 e67,⟨some 8,.alloc T45,t68,p68,e68,none⟩,
    oT 7 61 t69 p69 e69,
    oS T45 8 63 t70 p70 e70]⟩ false) (.seq (Code.region i23 ⟨[oL 64 T45 8 t71 p71 e71,
    oL 65 T26 3 t72 p72 e72,
    oM 66 7 t73 p73 e73,
    oC 67 f56 #[(.tmp 65),(.tmp 66)] ct0 t74 p74 e74,
    oC 68 f58 #[(.tmp 64),(.tmp 67)] ct1 t75 p75 e75,⟨some 69,.unOp .not T4 (.tmp 68),t76,p76,e76,none⟩]⟩ true) (.cond (.tmp 69) (.seq (Code.region i24 ⟨[oA 4 (.const (.bool false)) t77 p77 e77]⟩ false) .ret) .skip))))
  (Code.region i25 ⟨[⟨some 70,.binOp .add T3 (.tmp 59) (.const (.int .i64 1)) T3,t78,p78,e78,none⟩,
    oM 59 70 t79 p79 e79]⟩ false))))))) (.seq (Code.region i26 ⟨[oF 71 T45 2 7 t80 p80 e80,
    oL 72 T29 71 t81 p81 e81,
    oF 73 T26 3 4 t82 p82 e82,
    oL 74 T24 73 t83 p83 e83,
    oC 75 f60 #[(.tmp 72),(.tmp 74)] ct2 t84 p84 e84,⟨some 76,.call ⟨.builtin .len,#[(.tmp 75)],#[T24]⟩,t85,p85,e85,none⟩,⟨some 77,.binOp .eql T3 (.tmp 76) (.const (.int .i64 0)) T3,t86,p86,e86,none⟩,
    oT 4 77 t87 p87 e87]⟩ false) .ret)) .skip)))))))))))) (.seq (Code.region i27 ⟨[oF 78 T26 3 0 t88 p88 e88,
    oL 79 T2 78 t89 p89 e89,
    oF 80 T45 2 0 t90 p90 e90,
    oL 81 T3 80 t91 p91 e91,
    oC 82 f95 #[(.tmp 81)] ct3 t92 p92 e92,
    oC 83 f94 #[(.tmp 79),(.tmp 82)] ct4 t93 p93 e93,
    oF 84 T45 2 5 t94 p94 e94,
    oL 85 T2 84 t95 p95 e95,
    oF 86 T45 2 0 t96 p96 e96,
    oL 87 T3 86 t97 p97 e97,
    oC 88 f95 #[(.tmp 87)] ct5 t98 p98 e98,
    oC 89 f94 #[(.tmp 85),(.tmp 88)] ct6 t99 p99 e99,
    oC 90 f13 #[(.tmp 83),(.tmp 89)] ct7 t100 p100 e100,
    oT 4 90 t101 p101 e101]⟩ true) .ret))))
    (hFlT45:Flat P T45 zF) (hcT3:scal P T3=true) (hFlT26:Flat P T26 zT) (hcT22:scal P T22=true) (hsT22:slTy P T22=true) (hs_T22:Z4 P T22 te 1 1=true) (hcT5:scal P T5=true) (h7:fd.kind=7):Z1S P f fd:=by
  refine ⟨enters_of hf hname hbody,?_⟩;intro w A B cs ct t hr ht
  cases t with
  | mk n s nl l u =>
  obtain ⟨sv,lv,uv,rfl,hn,hs,hl,hu⟩:=Z0x.1 ht;obtain ⟨fsv,rfl,hsub⟩:=ZO.1 hr;obtain ⟨-,-,-,-,hs32,-⟩:=hs.slice2;obtain ⟨sq,scap,rfl,hsq⟩:=hs.slice;obtain ⟨lq,lcap,rfl,-,-,-⟩:=hl.sl2;refine calls_of_wp hf hbody ?_;generalize ha0:({ tmps:=#[Value.agg ([.int .i64 fd.kind,.int .i64 fd.fr,.int .i64 fd.to,.int .i64 fd.nul,.int .i64 fd.tag,.int .i64 fd.df,.int .i64 fd.of,fsv]:List Value).toArray,Value.agg ([.int .i64 n,.slice sq s.length scap,.bool nl,.slice lq l.length lcap,uv]:List Value).toArray]++Array.replicate (fn.ntmps - (#[Value.agg ([.int .i64 fd.kind,.int .i64 fd.fr,.int .i64 fd.to,.int .i64 fd.nul,.int .i64 fd.tag,.int .i64 fd.df,.int .i64 fd.of,fsv]:List Value).toArray,Value.agg ([.int .i64 n,.slice sq s.length scap,.bool nl,.slice lq l.length lcap,uv]:List Value).toArray]:Array Value).size) undef,defers:=[] }:Act)=a0;have hz0:a0.tmps.size=91:=by subst ha0;simp[hN]
  have hd0:a0.defers=[]:=by subst ha0;rfl
  have g0_0:get a0 0 = .agg ([.int .i64 fd.kind,.int .i64 fd.fr,.int .i64 fd.to,.int .i64 fd.nul,.int .i64 fd.tag,.int .i64 fd.df,.int .i64 fd.of,fsv]:List Value).toArray:=by subst ha0;exact gAr rfl
  have g0_1:get a0 1 = .agg ([.int .i64 n,.slice sq s.length scap,.bool nl,.slice lq l.length lcap,uv]:List Value).toArray:=by subst ha0;exact gAr rfl
  refine wT fun K1 hK1=>?_;refine wC (ZL (cs:=[.int .i64 fd.kind,.int .i64 fd.fr,.int .i64 fd.to,.int .i64 fd.nul,.int .i64 fd.tag,.int .i64 fd.df,.int .i64 fd.of,fsv]) (eK g0_0) ?_);rintro w2 f2 sz2 r2 th2;have hF3:Fr [] w w2:=f2;refine wC (ZL (cs:=[.int .i64 n,.slice sq s.length scap,.bool nl,.slice lq l.length lcap,uv]) (eK g0_1) ?_);rintro w4 f4 sz4 r4 th4;have hF5:Fr [] w w4:=hF3.tr f4;have rb6:=f4.range r2 .nil;refine wC (wAs (v:=.bool false) rfl ?_);refine wEk hz0 hd0 fun a7 ha7 hz7 hd7=>?_;have g7_2:get a7 2 = .pointer (some ⟨w.heap.size,0,none⟩):=kG ha7 hz0;have g7_3:get a7 3 = .pointer (some ⟨w2.heap.size,0,none⟩):=kG ha7 hz0;refine hK1 a7 w4 (tUp ?_);refine tId (wp_seq_k fun K8 hK8=>?_);refine wS fun K9 hK9=>?_;refine wC (wFa (b:=w.heap.size) (i:=0) (hFlT45.fld (by decide)) (eK g7_2) ?_);rw[show (0+0:Nat)=0 from rfl];refine wC (wL0 (j:=0) (v:=.int .i64 fd.kind) hcT3 (eS hz7) rb6 rfl ?_);refine wEk hz7 hd7 fun a10 ha10 hz10 hd10=>?_;have g10_3:=kP ha10 g7_3;have g10_10:get a10 10 = .int .i64 fd.kind:=kG ha10 hz7;refine hK9 a10 w4 ?_;refine Zj ?_;refine wS fun K11 hK11=>?_;refine wC (ZQ (k1:=.i64) (i:=fd.kind) (j:=0) (by omega) (eK g10_10) rfl ?_);refine wC (wAs (v:=.bool false) (eS hz10) ?_);refine wEk hz10 hd10 fun a12 ha12 hz12 hd12=>?_;have g12_3:=kP ha12 g10_3;have g12_10:=kP ha12 g10_10;have g12_11:get a12 11 = .bool false:=kG ha12 hz10;refine hK11 a12 w4 ?_;refine wp_cond_split (t:=false) (eK g12_11) (fun h=>by cases h) (fun _=>?_);refine wS fun K14 hK14=>?_;refine wC (Z11 (k1:=.i64) (i:=fd.kind) (j:=7) h7 (eK g12_10) rfl ?_);refine wC (wAs (v:=.bool true) (eS hz12) ?_);refine wEk hz12 hd12 fun a15 ha15 hz15 hd15=>?_;have g15_3:=kP ha15 g12_3;have g15_19:get a15 19 = .bool true:=kG ha15 hz12;refine hK14 a15 w4 ?_;refine wp_cond_split (t:=true) (eK g15_19) (fun _=>?_) (fun h=>by cases h);refine wp_seq_k fun K17 hK17=>?_;refine wS fun K18 hK18=>?_;refine wC (wFa (b:=w2.heap.size) (i:=0) (hFlT26.fld (by decide)) (eK g15_3) ?_);rw[show (0+1:Nat)=1 from rfl];refine wC (wL0 (j:=1) (v:=.slice sq s.length scap) hcT22 (eS hz15) r4 rfl ?_);refine wC (Zs (n:=s.length) hsT22 (eS hz15) ?_);refine wC (wMv (v:=.int .i64 0) rfl ?_);refine wEk hz15 hd15 fun a19 ha19 hz19 hd19=>?_;have g19_22:get a19 22 = .slice sq s.length scap:=kG ha19 hz15;have g19_23:get a19 23 = .int .i64 ((s.length:Nat):Int):=kG ha19 hz15;have g19_24:get a19 24 = .int .i64 0:=kG ha19 hz15;refine hK18 a19 w4 ?_
  refine wp_block (wp_loop_ghost (fun (m:Nat) a' w'=>∃ (j:Nat),a'.tmps.size=91∧a'.defers=[]∧get a' 22 = .slice sq s.length scap∧get a' 23 = .int .i64 ((s.length:Nat):Int)∧get a' 24 = .int .i64 ((j:Nat):Int)∧j+m=s.length∧((s.take 16).take j).all (·==0)=true∧Fr [] w w') s.length ?_ ?_)
  · exact ⟨0,hz19,hd19,g19_22,g19_23,g19_24,by omega,by simp,hF5⟩
  rintro m a20 w20 ⟨j,hz20,hd20,g20_22,g20_23,g20_24,hjm,hall,hfw⟩;have hfw':=hfw;refine wS fun K21 hK21=>?_;refine wC (Z0g (k1:=.i64) (i:=((j:Nat):Int)) (j:=((s.length:Nat):Int)) (eK g20_24) (eK g20_23) ?_);refine wEk hz20 hd20 fun a22 ha22 hz22 hd22=>?_;have g22_22:=kP ha22 g20_22;have g22_23:=kP ha22 g20_23;have g22_24:=kP ha22 g20_24;have g22_25:get a22 25 = .bool (decide ((((j:Nat):Int):Int) < (((s.length:Nat):Int):Int))):=kG ha22 hz20;refine hK21 a22 w20 ?_;refine wp_seq_k fun K23 hK23=>?_;refine wp_cond_split (t:=decide ((((j:Nat):Int):Int) < (((s.length:Nat):Int):Int))) (eK g22_25) (fun hc24=>?_) (fun hc24=>?_)
  · have hjl : j < s.length := by simpa using hc24
    obtain ⟨b2,o2,rfl,hr2⟩:=hsq (by omega);refine wp_skip ?_;refine hK23 a22 w20 ?_;refine wp_seq_k fun K25 hK25=>?_;refine Zj ?_;refine wS fun K26 hK26=>?_;refine wC (wMv (v:=.int .i64 ((j:Nat):Int)) (eK g22_24) ?_);refine wC (Zw hs_T22 (b:=b2) (o:=o2) (i:=(j:Int)) (eK g22_22) (eK g22_24) (by omega) (by omega) ?_);rw[show o2+((j:Nat):Int).toNat * 1=o2+j from by simp];refine wC (Zn (b:=b2) (o:=o2+j) (v:=.int .u8 (s[j]).toNat) hcT5 (eS hz22) (Z1w (hfw.range hr2 .nil) hjl) ?_);refine wC (wAs (v:=.int .i64 ((j:Nat):Int)) (eS hz22) ?_);refine wC (wAs (v:=.int .u8 ((s[j]).toNat:Int)) (eS hz22) ?_);refine wEk hz22 hd22 fun a27 ha27 hz27 hd27=>?_;have g27_5:get a27 5 = .int .i64 ((j:Nat):Int):=kG ha27 hz22;have g27_6:get a27 6 = .int .u8 ((s[j]).toNat:Int):=kG ha27 hz22;have g27_22:=kP ha27 g22_22;have g27_23:=kP ha27 g22_23;have g27_24:=kP ha27 g22_24;refine hK26 a27 w20 ?_;refine wp_seq_k fun K28 hK28=>?_
    by_cases h16:j < 16
    · by_cases hz : s[j] = 0
      · refine ZV ?_;refine gCn ?_;refine wMv (v := .int .i64 ((j : Nat) : Int)) (eK g27_5) ?_;refine gCn ?_;refine Z1g (k1 := .i64) (i := ((j : Nat) : Int)) (j := 16) (by omega) (eS hz27) rfl ?_;refine gCn ?_;refine wMv (v := .bool true) (eS hz27) ?_;refine Zm (dj := 31) rfl (lZ hz27) (gS hz27) ?_;refine wMv (v := .int .u8 ((s[j]).toNat : Int)) (eK g27_6) ?_;refine Zm (dj := 31) rfl (lZ hz27) (gS hz27) ?_;refine wp_neqF (k1 := .u8) (i := ((s[j]).toNat : Int)) (j := 0) (by simp [hz]) (eS hz27) rfl ?_;refine gCn ?_;refine Zq (v := .bool false) (eS hz27) (eS hz27) ?_;refine Z0l fun a29 ha29 => ?_;have hz29 := kS ha29 hz27;have hd29 := kD ha29 hd27;have g29_22 := kP ha29 g27_22;have g29_23 := kP ha29 g27_23;have g29_24 := kP ha29 g27_24;have g29_34 : get a29 34 = .bool false := kG ha29 hz27;refine hK28 a29 w20 ?_;refine wp_cond_split (t := false) (eK g29_34) (fun h => by cases h) (fun _ => ?_);refine wp_skip ?_;refine hK25 a29 w20 ?_;refine Z2 ?_;refine wC (ZF (k1 := .i64) (i := ((j : Nat) : Int)) (j := 1) (eK g29_24) rfl ?_);refine wC (wMv (v := .int .i64 (IntKind.i64.wrap ((((j : Nat) : Int) : Int) + (1 : Int)))) (eS hz29) ?_);refine wEk hz29 hd29 fun a31 ha31 hz31 hd31 => ?_;have g31_22 := kP ha31 g29_22;have g31_23 := kP ha31 g29_23;have g31_24 : get a31 24 = .int .i64 (IntKind.i64.wrap ((((j : Nat) : Int) : Int) + (1 : Int))) := kG ha31 hz29
        have hall':((s.take 16).take (j+1)).all (·==0)=true:=by
          have hj2:j < (s.take 16).length:=by simp;omega
          rw[List.take_succ_eq_append_getElem hj2,List.all_append,hall];simp[hz]
        refine ⟨m - 1,by omega,j+1,hz31,hd31,g31_22,g31_23,?_,by omega,hall',hfw⟩;rw[g31_24]
        congr 1
        simp[IntKind.wrap,IntKind.bits,IntKind.signed];omega
      refine ZV ?_;refine gCn ?_;refine wMv (v:=.int .i64 ((j:Nat):Int)) (eK g27_5) ?_;refine gCn ?_;refine Z1g (k1:=.i64) (i:=((j:Nat):Int)) (j:=16) (by omega) (eS hz27) rfl ?_;refine gCn ?_;refine wMv (v:=.bool true) (eS hz27) ?_;refine Zm (dj:=31) rfl (lZ hz27) (gS hz27) ?_;refine wMv (v:=.int .u8 ((s[j]).toNat:Int)) (eK g27_6) ?_;refine Zm (dj:=31) rfl (lZ hz27) (gS hz27) ?_;refine wp_neqT (k1:=.u8) (i:=((s[j]).toNat:Int)) (j:=0) (by intro h;exact hz (UInt8.toNat.inj (by simpa using h))) (eS hz27) rfl ?_;refine gCn ?_;refine Zq (v:=.bool true) (eS hz27) (eS hz27) ?_;refine Z0l fun a32 ha32=>?_;have hz32:=kS ha32 hz27;have hd32:=kD ha32 hd27;have g32_34:get a32 34 = .bool true:=kG ha32 hz27;refine hK28 a32 w20 ?_;refine wp_cond_split (t:=true) (eK g32_34) (fun _=>?_) (fun h=>by cases h);refine wS fun K34 hK34=>?_;refine wC (wAs (v:=.bool false) rfl ?_);refine wEk hz32 hd32 fun a35 ha35 hz35 hd35=>?_;have g35_4:get a35 4 = .bool false:=kG ha35 hz32;refine hK34 a35 w20 ?_;refine wp_ret ?_;have hW:ZG fd (.mk n s nl l u)=false:=by
        rw[Z0Q,if_neg (by omega),if_pos h7];rw[Bool.eq_false_iff];intro hA;have hA:=List.all_eq_true.1 hA s[j] (by rw[List.mem_take_iff_getElem];exact ⟨j,by show j < min 16 s.length;omega,rfl⟩);exact hz (by simpa using hA)
      exact ⟨hd35,_,rIs hres g35_4,by rw[hW],hfw⟩
    refine ZV ?_;refine gCn ?_;refine wMv (v:=.int .i64 ((j:Nat):Int)) (eK g27_5) ?_;refine gCn ?_;refine Z1h (k1:=.i64) (i:=((j:Nat):Int)) (j:=16) (by omega) (eS hz27) rfl ?_;refine gCn ?_;refine wMv (v:=.bool false) (eS hz27) ?_;refine Z00 (dj:=31) rfl (lZ hz27) (gS hz27) ?_;refine Z00 (dj:=31) rfl (lZ hz27) (gS hz27) ?_;refine gCn ?_;refine ZJ (v:=.bool false) (eS hz27) rfl ?_;refine Z0l fun a36 ha36=>?_;have hz36:=kS ha36 hz27;have hd36:=kD ha36 hd27;have g36_22:=kP ha36 g27_22;have g36_23:=kP ha36 g27_23;have g36_24:=kP ha36 g27_24;have g36_34:get a36 34 = .bool false:=kG ha36 hz27;refine hK28 a36 w20 ?_;refine wp_cond_split (t:=false) (eK g36_34) (fun h=>by cases h) (fun _=>?_);refine wp_skip ?_;refine hK25 a36 w20 ?_;refine Z2 ?_;refine wC (ZF (k1:=.i64) (i:=((j:Nat):Int)) (j:=1) (eK g36_24) rfl ?_);refine wC (wMv (v:=.int .i64 (IntKind.i64.wrap ((((j:Nat):Int):Int)+(1:Int)))) (eS hz36) ?_);refine wEk hz36 hd36 fun a38 ha38 hz38 hd38=>?_;have g38_22:=kP ha38 g36_22;have g38_23:=kP ha38 g36_23;have g38_24:get a38 24 = .int .i64 (IntKind.i64.wrap ((((j:Nat):Int):Int)+(1:Int))):=kG ha38 hz36
    have hall':((s.take 16).take (j+1)).all (·==0)=true:=by
      have hj2:(s.take 16).length≤j:=by simp;omega
      rw[List.take_of_length_le (by omega)];rw[List.take_of_length_le hj2] at hall;exact hall
    refine ⟨m - 1,by omega,j+1,hz38,hd38,g38_22,g38_23,?_,by omega,hall',hfw⟩;rw[g38_24]
    congr 1
    simp[IntKind.wrap,IntKind.bits,IntKind.signed];omega
  have hjl:¬ j < s.length:=by simpa using hc24
  refine wp_exit ?_;show K17 a22 w20
  refine hK17 a22 w20 ?_;refine wS fun K39 hK39=>?_;refine wC (wAs (v:=.bool true) rfl ?_);refine wEk hz22 hd22 fun a40 ha40 hz40 hd40=>?_;have g40_4:get a40 4 = .bool true:=kG ha40 hz22;refine hK39 a40 w20 ?_;refine wp_ret ?_;have hW:ZG fd (.mk n s nl l u)=true:=by
    rw[Z0Q,if_neg (by omega),if_pos h7];rw[List.take_of_length_le (by simp;omega)] at hall;exact hall
  exact ⟨hd40,_,rIs hres g40_4,by rw[hW],hfw⟩
end Go.Kq

namespace Go.Kq
open Go Go.Proofs
mutual
/-- Tags are numbers that a uvarint holds; a field with a tag is no bool, no part. -/
def Fd.okU:Fd→Bool | .mk kind _ _ _ tag _ _ sub=>decide (tag < 4294967295) && (decide (tag < 0) || (decide (kind ≠ 0) && decide (kind ≠ 10))) && Z2V sub
def Z2V:List Fd→Bool
  | []=>true
  | f::fs=>f.okU && Z2V fs
end
theorem Z1u:∀ {fs:List Fd},Z2V fs=true→∀ f ∈ fs,f.okU=true
  | [],_,_,h=>by simp at h
  | g :: fs, h, f, hf => by
    rw[Z2V,Bool.and_eq_true] at h
    rcases List.mem_cons.1 hf with rfl | hf
    · exact h.1
    exact Z1u h.2 f hf
theorem Z5o {f:Fd} (h:f.okU=true):f.tag < 4294967295∧(0≤f.tag→¬ f.kind=0∧¬ f.kind=10)∧Z2V f.sub=true:=by
  cases f with
  | mk kind fr to nul tag df of sub =>
    rw[Fd.okU] at h;simp only[Bool.and_eq_true,Bool.or_eq_true,decide_eq_true_eq] at h;refine ⟨h.1.1,fun h0=>?_,h.2⟩
    rcases h.1.2 with h1 | h1
    · have h0':0≤tag:=h0;omega
    exact ⟨h1.1,h1.2⟩
mutual
/-- Every part is written as the reference writes it: the functions call one another. -/
theorem Z3b {P:Program} {fp fv ff fu:FuncId} (hp:∀ fs:List Fd,(∀ f ∈ fs,f.tag < 4294967295)→(∀ fd ∈ fs,Z17 P ff fd (Zc fd))→(∀ fd ∈ fs,0≤fd.tag→Z1S P fu fd)→Z1W P fp fs (Z07 fs))
    (hu:∀ fd:Fd,¬ fd.kind=0→¬ fd.kind=10→Z1S P fu fd)
    (hv:∀ (fs:List Fd) (sub:Int→Bool→T→List UInt8),Z1W P fp fs sub→Z2p P fv fs sub)
    (hf:∀ (fd:Fd) (sub:Int→Bool→T→List UInt8),Z2p P fv fd.sub sub→Z1W P fp fd.sub sub→Z17 P ff fd (fun ver flex t=>ZM fd.kind fd.nul fd.of (sub ver flex) ver flex t)) :
    ∀ fs:List Fd,Z2V fs=true→∀ fd ∈ fs,Z17 P ff fd (Zc fd)
  | [],_,_,h=>by simp at h
  | g :: fs, h, fd, hm => by
    rw[Z2V,Bool.and_eq_true] at h
    rcases List.mem_cons.1 hm with e | hm
    · rw[e];exact Z79 hp hu hv hf g h.1
    exact Z3b hp hu hv hf fs h.2 fd hm
theorem Z79 {P:Program} {fp fv ff fu:FuncId} (hp:∀ fs:List Fd,(∀ f ∈ fs,f.tag < 4294967295)→(∀ fd ∈ fs,Z17 P ff fd (Zc fd))→(∀ fd ∈ fs,0≤fd.tag→Z1S P fu fd)→Z1W P fp fs (Z07 fs))
    (hu:∀ fd:Fd,¬ fd.kind=0→¬ fd.kind=10→Z1S P fu fd)
    (hv:∀ (fs:List Fd) (sub:Int→Bool→T→List UInt8),Z1W P fp fs sub→Z2p P fv fs sub)
    (hf:∀ (fd:Fd) (sub:Int→Bool→T→List UInt8),Z2p P fv fd.sub sub→Z1W P fp fd.sub sub→Z17 P ff fd (fun ver flex t=>ZM fd.kind fd.nul fd.of (sub ver flex) ver flex t)) :
    ∀ fd:Fd,fd.okU=true→Z17 P ff fd (Zc fd)
  | .mk kind fr to nul tag df of sub, h => by
    have h1:=(Z5o h).2.2;have hP:Z1W P fp sub (Z07 sub):=hp sub (fun f hf=>(Z5o (Z1u h1 f hf)).1) (Z3b hp hu hv hf sub h1) fun f hf h0=>by
      have:=(Z5o (Z1u h1 f hf)).2.1 h0;exact hu f this.1 this.2
    exact (hf (.mk kind fr to nul tag df of sub) (Z07 sub) (hv sub _ hP) hP).congr fun ver flex t=>(Z06 _ ver flex t).symm
end
theorem Z7W {P:Program} {fp fv ff fu:FuncId} (hp:∀ fs:List Fd,(∀ f ∈ fs,f.tag < 4294967295)→(∀ fd ∈ fs,Z17 P ff fd (Zc fd))→(∀ fd ∈ fs,0≤fd.tag→Z1S P fu fd)→Z1W P fp fs (Z07 fs))
    (hu:∀ fd:Fd,¬ fd.kind=0→¬ fd.kind=10→Z1S P fu fd)
    (hv:∀ (fs:List Fd) (sub:Int→Bool→T→List UInt8),Z1W P fp fs sub→Z2p P fv fs sub)
    (hf:∀ (fd:Fd) (sub:Int→Bool→T→List UInt8),Z2p P fv fd.sub sub→Z1W P fp fd.sub sub→Z17 P ff fd (fun ver flex t=>ZM fd.kind fd.nul fd.of (sub ver flex) ver flex t))
    (fs:List Fd) (h:Z2V fs=true):Z1W P fp fs (Z07 fs) :=
  hp fs (fun f hf=>(Z5o (Z1u h f hf)).1) (Z3b hp hu hv hf fs h) fun f hf h0=>by
    have:=(Z5o (Z1u h f hf)).2.1 h0;exact hu f this.1 this.2
end Go.Kq
