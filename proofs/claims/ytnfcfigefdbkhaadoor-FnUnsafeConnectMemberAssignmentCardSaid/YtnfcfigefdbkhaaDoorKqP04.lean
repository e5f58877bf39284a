/- A part of the library: rules of reasoning about the program's operations and what its shared functions do. -/
import Derived.Test.YtnfcfigefdbkhaaDoorKqP03
import Derived.Test.YtnfcfigefdbkhaaDoorKqP02
import Derived.Below
import Derived.ChangeSame
import Derived.ChangeSlices
import Derived.ChangeArms
import Derived.LaidLaws
import Derived.OpenShut
import Derived.WideKeyArgs
import Derived.WalkKit
import Derived.ProofKit
import Derived.Test.YtnfcfigefdbkhaaDoorKqP01
import Derived.Deep.LoopGhost
import Derived.Laws.IdiomCopy
set_option linter.unusedVariables false
set_option linter.unusedSimpArgs false
namespace Go.Kq
open Go Go.Proofs
theorem take_flatMap {f:T→List UInt8}:∀ {l:List T} {j:Nat} {t:T},l[j]?=some t→(l.take (j+1)).flatMap f=(l.take j).flatMap f++f t
  | [],_,_,h=>by simp at h
  | x::l,0,t,h=>by simp at h;subst h;simp
  | x :: l, j + 1, t, h => by
    have:=take_flatMap (f:=f) (l:=l) (j:=j) (t:=t) (by simpa using h)
    simp only[List.take_succ_cons,List.flatMap_cons,this,List.append_assoc]
theorem take_flatMap_le {f:T→List UInt8}:∀ {l:List T} (j:Nat),((l.take j).flatMap f).length≤(l.flatMap f).length
  | [],_=>by simp
  | x::l,0=>by simp
  | x :: l, j + 1 => by
    have:=take_flatMap_le (f:=f) (l:=l) j
    simp only[List.take_succ_cons,List.flatMap_cons,List.length_append];omega
theorem flatMap_part {f:T→List UInt8} {l:List T} {j:Nat} {t:T} (h:l[j]?=some t):(f t).length≤(l.flatMap f).length:=by
  have h1:=take_flatMap (f:=f) h
  have h2:=take_flatMap_le (f:=f) (l:=l) (j+1)
  rw[h1,List.length_append] at h2;omega
structure FieldM (P:Program) (f:FuncId) (fd:Fd) (enc:Int→Bool→T→List UInt8):Prop where
  enters:Enters P f
  call:∀ (w:World) (A B:Nat→Prop) (ver:Int) (flex:Bool) (cs ct:List Value) (t:T),RepF w A cs fd→RepT w B ct t→(∀ b,A b→b < w.heap.size)→(∀ b,B b→b < w.heap.size)→(enc ver flex t).length≤4294967296 →
    Calls P f #[.agg cs.toArray,.int .i64 ver,.bool flex,.agg ct.toArray] w (Fresh w (enc ver flex t))
set_option maxHeartbeats 4000000 in
theorem field_m {P:Program} {f:FuncId} {fn:Func} {T3 T22 T23 T26 T29 T45:TypeId} {f26 f72 f73 f74 f75 f76:FuncId} {a0:Array TypeId} {a1:Array TypeId} {a2:Array TypeId} {a3:Array TypeId} {a4:Array TypeId} {a5:Array TypeId} {a6:Array TypeId} {a7:Array TypeId} {i0 i1 i2 i3 i4 i5 i6 i7 i8 i9 i10 i11 i12 i13 i14 i15 i16 i17:Nat} {t0 t1 t2 t3 t4 t5 t6 t7 t8 t9 t10 t11 t12 t13 t14 t15 t16 t17 t18 t19 t20 t21 t22 t23 t24 t25 t26 t27 t28 t29 t30 t31 t32 t33 t34 t35 t36 t37 t38 t39 t40 t41 t42 t43 t44 t45 t46 t47 t48 t49 t50 t51 t52 t53 t54 t55 t56 t57 t58 t59 t60 t61 t62 t63 t64 t65 t66 t67 t68 t69 t70 t71 t72 t73 t74 t75 t76:TypeId} {p0 p1 p2 p3 p4 p5 p6 p7 p8 p9 p10 p11 p12 p13 p14 p15 p16 p17 p18 p19 p20 p21 p22 p23 p24 p25 p26 p27 p28 p29 p30 p31 p32 p33 p34 p35 p36 p37 p38 p39 p40 p41 p42 p43 p44 p45 p46 p47 p48 p49 p50 p51 p52 p53 p54 p55 p56 p57 p58 p59 p60 p61 p62 p63 p64 p65 p66 p67 p68 p69 p70 p71 p72 p73 p74 p75 p76:String} {e0 e1 e2 e3 e4 e5 e6 e7 e8 e9 e10 e11 e12 e13 e14 e15 e16 e17 e18 e19 e20 e21 e22 e23 e24 e25 e26 e27 e28 e29 e30 e31 e32 e33 e34 e35 e36 e37 e38 e39 e40 e41 e42 e43 e44 e45 e46 e47 e48 e49 e50 e51 e52 e53 e54 e55 e56 e57 e58 e59 e60 e61 e62 e63 e64 e65 e66 e67 e68 e69 e70 e71 e72 e73 e74 e75 e76:Array Edge} {te te5:TypeId} {tb:Nat} {fd:Fd} {sub:Int→Bool→T→List UInt8}
    (hf:P.funcs[f]?=some fn) (hname:(fn.name == "runtime.NumGoroutine")=false) (hres:fn.results = #[.tmp 8]) (hN:fn.ntmps=76)
    (hbody:fn.body=some (.seq (Code.region i0 ⟨[⟨some 4,.box T45 (.tmp 0),t0,p0,e0,none⟩,
    ⟨some 7,.box T26 (.tmp 3),t1,p1,e1,none⟩,
    ⟨some 8,.assign (.const (.slice none 0 0)),t2,p2,e2,none⟩]⟩ false)
  (.seq (Code.region i1 ⟨[⟨some 13,.load T45 (.tmp 4),t3,p3,e3,none⟩,
    ⟨some 14,.move (.tmp 1),t4,p4,e4,none⟩,
    ⟨some 15,.load T26 (.tmp 7),t5,p5,e5,none⟩,
    ⟨some 16,.call ⟨.value (.func f72),#[(.tmp 13),(.tmp 14),(.tmp 15)],a0⟩,t6,p6,e6,none⟩,
    ⟨some 9,.assign (.tmp 16),t7,p7,e7,none⟩]⟩ false)
  (.seq (.seq (Code.region i2 ⟨[⟨some 17,.fieldAddr T45 (.tmp 4) 0,t8,p8,e8,none⟩,
    ⟨some 18,.load T3 (.tmp 17),t9,p9,e9,none⟩,
    ⟨some 19,.binOp .eql T3 (.tmp 18) (.const (.int .i64 11)) T3,t10,p10,e10,none⟩]⟩ false)
  (.cond (.tmp 19) (.seq (Code.region i3 ⟨[⟨some 20,.fieldAddr T26 (.tmp 7) 3,t11,p11,e11,none⟩,
    ⟨some 21,.load T23 (.tmp 20),t12,p12,e12,none⟩,
    ⟨some 22,.call ⟨.value (.func f73),#[(.tmp 21)],a1⟩,t13,p13,e13,none⟩,
    ⟨some 10,.assign (.tmp 22),t14,p14,e14,none⟩]⟩ false)
  (.seq (.seq (Code.region i4 ⟨[⟨some 23,.move (.tmp 9),t15,p15,e15,none⟩]⟩ false)
  (.cond (.tmp 23) (Code.region i5 ⟨[⟨some 10,.assign (.const (.slice none 0 0)),t16,p16,e16,none⟩]⟩ false)
  .skip))
  (.seq (Code.region i6 ⟨[⟨some 24,.move (.tmp 2),t17,p17,e17,none⟩,
    ⟨some 25,.move (.tmp 9),t18,p18,e18,none⟩,
    ⟨some 26,.move (.tmp 10),t19,p19,e19,none⟩,
    ⟨some 27,.call ⟨.builtin .len,#[(.tmp 26)],#[T23]⟩,t20,p20,e20,none⟩,
    ⟨some 28,.call ⟨.value (.func f74),#[(.tmp 24),(.tmp 25),(.tmp 27),(.const (.int .i64 4))],a2⟩,t21,p21,e21,none⟩,
    ⟨some 11,.assign (.tmp 28),t22,p22,e22,none⟩]⟩ false)
  (.seq (.seq (Code.region i7 ⟨[⟨some 29,.move (.tmp 10),t23,p23,e23,none⟩,
    ⟨some 30,.call ⟨.builtin .len,#[(.tmp 29)],#[T23]⟩,t24,p24,e24,none⟩,
    ⟨some 31,.move (.const (.int .i64 0)),t25,p25,e25,none⟩]⟩ false)
  (.block 0 (.loop (.seq (Code.region i8 ⟨[⟨some 32,.binOp .lss T3 (.tmp 31) (.tmp 30) T3,t26,p26,e26,none⟩]⟩ false)
  (.seq (.cond (.tmp 32) .skip
  (.exit 0))
  (.seq (.block 1 (.seq (Code.region i9 ⟨[⟨some 33,.move (.tmp 31),t27,p27,e27,none⟩,
    ⟨some 12,.assign (.tmp 33),t28,p28,e28,none⟩]⟩ false)
  (Code.region i10 ⟨[⟨some 34,.move (.tmp 11),t29,p29,e29,none⟩,
    ⟨some 35,.fieldAddr T45 (.tmp 4) 6,t30,p30,e30,none⟩,
    ⟨some 36,.load T3 (.tmp 35),t31,p31,e31,none⟩,
    ⟨some 37,.fieldAddr T45 (.tmp 4) 7,t32,p32,e32,none⟩,
    ⟨some 38,.load T29 (.tmp 37),t33,p33,e33,none⟩,
    ⟨some 39,.move (.tmp 1),t34,p34,e34,none⟩,
    ⟨some 40,.move (.tmp 2),t35,p35,e35,none⟩,
    ⟨some 41,.move (.tmp 10),t36,p36,e36,none⟩,
    ⟨some 42,.move (.tmp 12),t37,p37,e37,none⟩,
    ⟨some 43,.indexAddr T23 (.tmp 41) (.tmp 42),t38,p38,e38,none⟩,
    ⟨some 44,.load T26 (.tmp 43),t39,p39,e39,none⟩,
    ⟨some 45,.call ⟨.value (.func f75),#[(.tmp 36),(.tmp 38),(.const (.bool false)),(.tmp 39),(.tmp 40),(.tmp 44)],a3⟩,t40,p40,e40,none⟩,
    ⟨some 46,.call ⟨.builtin .append,#[(.tmp 34),(.tmp 45)],#[T22,T22]⟩,t41,p41,e41,none⟩,
    ⟨some 11,.assign (.tmp 46),t42,p42,e42,none⟩]⟩ true)))
  (Code.region i11 ⟨[⟨some 47,.binOp .add T3 (.tmp 31) (.const (.int .i64 1)) T3,t43,p43,e43,none⟩,
    ⟨some 31,.move (.tmp 47),t44,p44,e44,none⟩]⟩ false)))))))
  (.seq (Code.region i12 ⟨[⟨some 48,.move (.tmp 11),t45,p45,e45,none⟩,
    ⟨some 8,.assign (.tmp 48),t46,p46,e46,none⟩]⟩ false)
  .ret)))))
  .skip))
  (.seq (.seq (Code.region i13 ⟨[⟨some 49,.fieldAddr T45 (.tmp 4) 0,t47,p47,e47,none⟩,
    ⟨some 50,.load T3 (.tmp 49),t48,p48,e48,none⟩,
    ⟨some 51,.binOp .eql T3 (.tmp 50) (.const (.int .i64 10)) T3,t49,p49,e49,none⟩,
    ⟨some 52,.move (.tmp 51),t50,p50,e50,none⟩,
    ⟨some 53,.fieldAddr T45 (.tmp 4) 3,t51,p51,e51,some (3,true)⟩,
    ⟨some 54,.load T3 (.tmp 53),t52,p52,e52,some (3,true)⟩,
    ⟨some 55,.binOp .geq T3 (.tmp 54) (.const (.int .i64 0)) T3,t53,p53,e53,some (3,true)⟩,
    ⟨some 56,.pick (.tmp 52) (.tmp 55) (.const (.bool false)),t54,p54,e54,none⟩]⟩ false)
  (.cond (.tmp 56) (.seq (.seq (Code.region i14 ⟨[⟨some 57,.move (.tmp 9),t55,p55,e55,none⟩]⟩ false)
  (.cond (.tmp 57) (.seq (Code.region i15 ⟨[⟨some 58,.call ⟨.value (.func f76),#[(.const (.int .i64 (-1))),(.const (.int .i64 1))],a4⟩,t56,p56,e56,none⟩,
    ⟨some 8,.assign (.tmp 58),t57,p57,e57,none⟩]⟩ false)
  .ret)
  .skip))
  (.seq (Code.region i16 ⟨[⟨some 59,.call ⟨.value (.func f76),#[(.const (.int .i64 1)),(.const (.int .i64 1))],a5⟩,t58,p58,e58,none⟩,
    ⟨some 60,.fieldAddr T45 (.tmp 4) 7,t59,p59,e59,none⟩,
    ⟨some 61,.load T29 (.tmp 60),t60,p60,e60,none⟩,
    ⟨some 62,.move (.tmp 1),t61,p61,e61,none⟩,
    ⟨some 63,.move (.tmp 2),t62,p62,e62,none⟩,
    ⟨some 64,.load T26 (.tmp 7),t63,p63,e63,none⟩,
    ⟨some 65,.call ⟨.value (.func f26),#[(.tmp 61),(.tmp 62),(.tmp 63),(.tmp 64)],a6⟩,t64,p64,e64,none⟩,
    ⟨some 66,.call ⟨.builtin .append,#[(.tmp 59),(.tmp 65)],#[T22,T22]⟩,t65,p65,e65,none⟩,
    ⟨some 8,.assign (.tmp 66),t66,p66,e66,none⟩]⟩ true)
  .ret))
  .skip))
  (.seq (Code.region i17 ⟨[⟨some 67,.fieldAddr T45 (.tmp 4) 0,t67,p67,e67,none⟩,
    ⟨some 68,.load T3 (.tmp 67),t68,p68,e68,none⟩,
    ⟨some 69,.fieldAddr T45 (.tmp 4) 7,t69,p69,e69,none⟩,
    ⟨some 70,.load T29 (.tmp 69),t70,p70,e70,none⟩,
    ⟨some 71,.move (.tmp 9),t71,p71,e71,none⟩,
    ⟨some 72,.move (.tmp 1),t72,p72,e72,none⟩,
    ⟨some 73,.move (.tmp 2),t73,p73,e73,none⟩,
    ⟨some 74,.load T26 (.tmp 7),t74,p74,e74,none⟩,
    ⟨some 75,.call ⟨.value (.func f75),#[(.tmp 68),(.tmp 70),(.tmp 71),(.tmp 72),(.tmp 73),(.tmp 74)],a7⟩,t75,p75,e75,none⟩,
    ⟨some 8,.assign (.tmp 75),t76,p76,e76,none⟩]⟩ false)
  .ret))))))
    (hs_T22:sliceOf P T22 te 1 1=true) (hz_T22:zeroIs P te [.int .u8 0]) (hFlT45:Flat P T45 zF) (hFlT26:Flat P T26 zT) (hcT3:scal P T3=true) (hcT23:scal P T23=true) (hsT23:slTy P T23=true) (hcT29:scal P T29=true) (hs_T23:sliceOf P T23 te5 5 tb=true) (he10:edgeOk 0 [e29,e30,e31,e32,e33,e34,e35,e36,e37,e38,e39,e40,e41,e42] [[],[],[1],[],[3],[],[],[],[],[7,8],[9],[2,4,5,6,10],[0,1,2,3,4,5,6,7,8,9,10,11],[0,1,2,3,4,5,6,7,8,9,10,11,12]]=true) (hmx:P.follows .mixedOrders=true) (he16:edgeOk 0 [e58,e59,e60,e61,e62,e63,e64,e65,e66] [[],[],[1],[],[],[],[2,3,4,5],[0,1,2,3,4,5,6],[0,1,2,3,4,5,6,7]]=true) (hNu:NullM P f72) (hTh:ThingsM P f73) (hCo:CountM P f74) (hVa:ValueM P f75 fd.sub sub) (hPa:PartM P f26 fd.sub sub) (hFx:FixM P f76):FieldM P f fd (fun ver flex t=>fieldV fd.kind fd.nul fd.of (sub ver flex) ver flex t):=by
  refine ⟨enters_of hf hname hbody,?_⟩
  intro w A B ver flex cs ct t hr ht hA hB hlen
  cases t with
  | mk n s nl l u =>
  have ht0:=ht
  obtain ⟨sv,lv,uv,rfl,hn,hs,hl,hu⟩:=repT_iff.1 ht
  obtain ⟨fsv,rfl,hsub⟩:=repF_iff.1 hr
  obtain ⟨nu,hnu⟩:∃ b,b=nullW fd.nul ver (.mk n s nl l u):=⟨_,rfl⟩
  obtain ⟨tl,htl⟩:∃ x,x=thingsW nu (.mk n s nl l u):=⟨_,rfl⟩
  refine calls_of_wp hf hbody ?_
  generalize ha0:({ tmps:=#[Value.agg ([.int .i64 fd.kind,.int .i64 fd.fr,.int .i64 fd.to,.int .i64 fd.nul,.int .i64 fd.tag,.int .i64 fd.df,.int .i64 fd.of,fsv]:List Value).toArray,Value.int .i64 ver,Value.bool flex,Value.agg ([.int .i64 n,sv,.bool nl,lv,uv]:List Value).toArray]++Array.replicate (fn.ntmps - (#[Value.agg ([.int .i64 fd.kind,.int .i64 fd.fr,.int .i64 fd.to,.int .i64 fd.nul,.int .i64 fd.tag,.int .i64 fd.df,.int .i64 fd.of,fsv]:List Value).toArray,Value.int .i64 ver,Value.bool flex,Value.agg ([.int .i64 n,sv,.bool nl,lv,uv]:List Value).toArray]:Array Value).size) undef,defers:=[] }:Act)=a0
  have hz0:a0.tmps.size=76:=by subst ha0;simp[hN]
  have hd0:a0.defers=[]:=by subst ha0;rfl
  have g0_0:get a0 0 = .agg ([.int .i64 fd.kind,.int .i64 fd.fr,.int .i64 fd.to,.int .i64 fd.nul,.int .i64 fd.tag,.int .i64 fd.df,.int .i64 fd.of,fsv]:List Value).toArray:=by subst ha0;exact gAr rfl
  have g0_1:get a0 1 = .int .i64 ver:=by subst ha0;exact gAr rfl
  have g0_2:get a0 2 = .bool flex:=by subst ha0;exact gAr rfl
  have g0_3:get a0 3 = .agg ([.int .i64 n,sv,.bool nl,lv,uv]:List Value).toArray:=by subst ha0;exact gAr rfl
  refine wT fun K1 hK1=>?_
  refine wC (wp_boxL (cs:=[.int .i64 fd.kind,.int .i64 fd.fr,.int .i64 fd.to,.int .i64 fd.nul,.int .i64 fd.tag,.int .i64 fd.df,.int .i64 fd.of,fsv]) (eK g0_0) ?_)
  rintro w2 f2 sz2 r2 th2
  have hF3:Fr [] w w2:=f2
  refine wC (wp_boxL (cs:=[.int .i64 n,sv,.bool nl,lv,uv]) (eK g0_3) ?_)
  rintro w4 f4 sz4 r4 th4
  have hF5:Fr [] w w4:=hF3.tr f4
  have rb6:=f4.range r2 .nil
  refine wC (wAs (v:=.slice none 0 0) rfl ?_)
  refine wEn fun a7 ha7=>?_
  have hz7:=kS ha7 hz0
  have hd7:=kD ha7 hd0
  have g7_0:=kP ha7 g0_0
  have g7_1:=kP ha7 g0_1
  have g7_2:=kP ha7 g0_2
  have g7_3:=kP ha7 g0_3
  have g7_4:get a7 4 = .pointer (some ⟨w.heap.size,0,none⟩):=kG ha7 hz0
  have g7_7:get a7 7 = .pointer (some ⟨w2.heap.size,0,none⟩):=kG ha7 hz0
  have g7_8:get a7 8 = .slice none 0 0:=kG ha7 hz0
  refine hK1 a7 w4 (tUp ?_)
  refine tId (wp_seq_k fun K8 hK8=>?_)
  have hS0:w.heap.size+2≤w4.heap.size:=by omega
  refine wp_reg ?_
  refine wC (wp_loadFlat (cs:=[.int .i64 fd.kind,.int .i64 fd.fr,.int .i64 fd.to,.int .i64 fd.nul,.int .i64 fd.tag,.int .i64 fd.df,.int .i64 fd.of,fsv]) (b:=w.heap.size) (o:=0) hFlT45 rfl (eK g7_4) rb6 ?_)
  refine wC (wMv (v:=.int .i64 ver) (eK g7_1) ?_)
  refine wC (wp_loadFlat (cs:=[.int .i64 n,sv,.bool nl,lv,uv]) (b:=w2.heap.size) (o:=0) hFlT26 rfl (eK g7_7) r4 ?_)
  refine wC (wCr (R:=fun x wz=>x = .bool nu∧Fr [] w4 wz) (vs:=#[.agg ([.int .i64 fd.kind,.int .i64 fd.fr,.int .i64 fd.to,.int .i64 fd.nul,.int .i64 fd.tag,.int .i64 fd.df,.int .i64 fd.of,fsv]:List Value).toArray,.int .i64 ver,.agg ([.int .i64 n,sv,.bool nl,lv,uv]:List Value).toArray]) hNu.enters (mX3 (eS hz7) (eS hz7) (eS hz7)) ((hNu.call w4 A B _ _ fd (.mk n s nl l u) ver (hr.kept hF5 (by simp) (fun _ h=>h)) (ht0.kept hF5 (by simp) (fun _ h=>h))).mono (by rintro e w' ⟨rfl,hf⟩;exact ⟨_,rfl,by rw[hnu],hf⟩)) ?_)
  rintro x9 w9 ⟨rfl,fr9⟩
  have hF10:Fr [] w w9:=hF5.tr fr9
  have hL10_w4:Fr [] w4 w9:=(Fr.refl [] w4).tr fr9
  have rb11:=fr9.range rb6 .nil
  have rb12:=fr9.range r4 .nil
  refine wC (wAs (v:=.bool nu) (eS hz7) ?_)
  refine wEn fun a13 ha13=>?_
  have hz13:=kS ha13 hz7
  have hd13:=kD ha13 hd7
  have g13_0:=kP ha13 g7_0
  have g13_1:=kP ha13 g7_1
  have g13_2:=kP ha13 g7_2
  have g13_3:=kP ha13 g7_3
  have g13_4:=kP ha13 g7_4
  have g13_7:=kP ha13 g7_7
  have g13_8:=kP ha13 g7_8
  have g13_9:get a13 9 = .bool nu:=kG ha13 hz7
  refine hK8 a13 w9 (tUp ?_)
  refine tId (wp_seq_k fun K14 hK14=>?_)
  refine wS fun K15 hK15=>?_
  refine wC (wFa (b:=w.heap.size) (i:=0) (hFlT45.fld (by decide)) (eK g13_4) ?_)
  rw[show (0+0:Nat)=0 from rfl]
  refine wC (wL0 (j:=0) (v:=.int .i64 fd.kind) hcT3 (eS hz13) rb11 rfl ?_)
  refine wC (wp_eql (k1:=.i64) (i:=fd.kind) (j:=11) (eS hz13) rfl ?_)
  refine wEn fun a16 ha16=>?_
  have hz16:=kS ha16 hz13
  have hd16:=kD ha16 hd13
  have g16_0:=kP ha16 g13_0
  have g16_1:=kP ha16 g13_1
  have g16_2:=kP ha16 g13_2
  have g16_3:=kP ha16 g13_3
  have g16_4:=kP ha16 g13_4
  have g16_7:=kP ha16 g13_7
  have g16_8:=kP ha16 g13_8
  have g16_9:=kP ha16 g13_9
  have g16_19:get a16 19 = .bool ((fd.kind:Int)==(11:Int)):=kG ha16 hz13
  refine hK15 a16 w9 ?_
  refine wp_cond_split (t:=((fd.kind:Int)==(11:Int))) (eK g16_19) (fun hc17=>?_) (fun hc17=>?_)
  · have h11 : fd.kind = 11 := by simpa using hc17
    refine wS fun K18 hK18=>?_
    refine wC (wFa (b:=w2.heap.size) (i:=0) (hFlT26.fld (by decide)) (eK g16_7) ?_)
    rw[show (0+3:Nat)=3 from rfl]
    refine wC (wL0 (j:=3) (v:=lv) hcT23 (eS hz16) rb12 rfl ?_)
    refine wC (wCr (R:=fun x wz=>Things wz B x (l.take 32767)∧w9=wz) (vs:=#[lv]) hTh.enters (mX1 (eS hz16)) ((hTh.call w9 B lv l (hl.kept hF10 (by simp) (fun _ h=>h))).mono (by rintro e w' ⟨x,rfl,h1,rfl⟩;exact ⟨x,rfl,h1,rfl⟩)) ?_)
    rintro x19 _ ⟨hx19,rfl⟩
    obtain ⟨q19,c19,rfl,-,-,-⟩:=hx19.sl2
    have hxw19:=hx19
    refine wC (wAs (v:=.slice q19 ((l.take 32767).length) c19) (eS hz16) ?_)
    refine wEn fun a20 ha20=>?_
    have hz20:=kS ha20 hz16
    have hd20:=kD ha20 hd16
    have g20_0:=kP ha20 g16_0
    have g20_1:=kP ha20 g16_1
    have g20_2:=kP ha20 g16_2
    have g20_3:=kP ha20 g16_3
    have g20_4:=kP ha20 g16_4
    have g20_7:=kP ha20 g16_7
    have g20_8:=kP ha20 g16_8
    have g20_9:=kP ha20 g16_9
    have g20_10:get a20 10 = .slice q19 ((l.take 32767).length) c19:=kG ha20 hz16
    refine hK18 a20 w9 ?_
    refine wp_seq_k fun K21 hK21=>?_
    have hJ22:∀ (a':Act) (w':World),(∃ (q:Option Addr) (c:Nat),a'.tmps.size=76∧a'.defers=[]∧get a' 0 = .agg ([.int .i64 fd.kind,.int .i64 fd.fr,.int .i64 fd.to,.int .i64 fd.nul,.int .i64 fd.tag,.int .i64 fd.df,.int .i64 fd.of,fsv]:List Value).toArray∧get a' 1 = .int .i64 ver∧get a' 2 = .bool flex∧get a' 3 = .agg ([.int .i64 n,sv,.bool nl,lv,uv]:List Value).toArray∧get a' 4 = .pointer (some ⟨w.heap.size,0,none⟩)∧get a' 7 = .pointer (some ⟨w2.heap.size,0,none⟩)∧get a' 8 = .slice none 0 0∧get a' 9 = .bool nu∧get a' 10 = .slice q tl.length c∧Things w' B (.slice q tl.length c) tl∧w'.rangeAt w.heap.size 0 [.int .i64 fd.kind,.int .i64 fd.fr,.int .i64 fd.to,.int .i64 fd.nul,.int .i64 fd.tag,.int .i64 fd.df,.int .i64 fd.of,fsv]∧Fr [] w w'∧w4.heap.size≤w'.heap.size)→K21 a' w':=by
      rintro a22 w22 ⟨q,c,hz22,hd22,g22_0,g22_1,g22_2,g22_3,g22_4,g22_7,g22_8,g22_9,g22_10,htj,hbj,hfj,hszj⟩
      have hfS:w4.heap.size≤w22.heap.size:=by have:=hszj;omega
      refine hK21 a22 w22 ?_
      refine wp_seq_k fun K23 hK23=>?_
      have htlb:tl.length < 4294967296:=by rw[htl];unfold thingsW;split <;> simp;omega
      have hW:fieldV fd.kind fd.nul fd.of (sub ver flex) ver flex (.mk n s nl l u)=countedW flex nu tl.length 4++tl.flatMap (valueW fd.of (sub ver flex) false flex):=by rw[fieldV,if_pos h11,← hnu,← htl]
      rw[hW] at hlen
      rw[List.length_append] at hlen
      refine wp_reg ?_
      refine wC (wMv (v:=.bool flex) (eK g22_2) ?_)
      refine wC (wMv (v:=.bool nu) (eK g22_9) ?_)
      refine wC (wMv (v:=.slice q tl.length c) (eK g22_10) ?_)
      refine wC (wp_lenS (n:=tl.length) hsT23 (eS hz22) ?_)
      refine wC (wCr (R:=fun x wz=>Fr [] w22 wz∧Own wz (From w22.heap.size wz) 1 x (countedW flex nu tl.length 4).length (octets (countedW flex nu tl.length 4))) (vs:=#[.bool flex,.bool nu,.int .i64 ((tl.length:Nat):Int),.int .i64 4]) hCo.enters (by simp only[List.map_toArray,List.map_cons,List.map_nil];rw[eTm,nZ (by decide),nZ (by decide),nZ (by decide),sZ hz22 (by decide),eTm,nZ (by decide),nZ (by decide),sZ (zZ hz22) (by decide),eTm,sZ (zZ (zZ (zZ hz22))) (by decide),show ((((a22.put (some 24) (.bool flex)).put (some 25) (.bool nu)).put (some 26) (.slice q tl.length c)).put (some 27) (.int .i64 ((tl.length:Nat):Int))).eval (.const (.int .i64 4))=Value.int .i64 4 from rfl]) (calls_fresh (hCo.call w22 flex nu tl.length 4 htlb (by decide))) ?_)
      rintro x24 w24 ⟨fr24,ow24⟩
      have hF25:Fr [] w w24:=hfj.tr fr24
      have hL25_w22:Fr [] w22 w24:=(Fr.refl [] w22).tr fr24
      have rb26:=fr24.range hbj .nil
      refine wC (wAs (v:=x24) (eS hz22) ?_)
      refine wEn fun a27 ha27=>?_
      have hz27:=kS ha27 hz22
      have hd27:=kD ha27 hd22
      have g27_0:=kP ha27 g22_0
      have g27_1:=kP ha27 g22_1
      have g27_2:=kP ha27 g22_2
      have g27_3:=kP ha27 g22_3
      have g27_4:=kP ha27 g22_4
      have g27_7:=kP ha27 g22_7
      have g27_8:=kP ha27 g22_8
      have g27_9:=kP ha27 g22_9
      have g27_10:=kP ha27 g22_10
      have g27_11:get a27 11=x24:=kG ha27 hz22
      refine hK23 a27 w24 ?_
      refine wp_seq_k fun K28 hK28=>?_
      refine wS fun K29 hK29=>?_
      refine wC (wMv (v:=.slice q tl.length c) (eK g27_10) ?_)
      refine wC (wp_lenS (n:=tl.length) hsT23 (eS hz27) ?_)
      refine wC (wMv (v:=.int .i64 0) rfl ?_)
      refine wEn fun a30 ha30=>?_
      have hz30:=kS ha30 hz27
      have hd30:=kD ha30 hd27
      have g30_0:=kP ha30 g27_0
      have g30_1:=kP ha30 g27_1
      have g30_2:=kP ha30 g27_2
      have g30_3:=kP ha30 g27_3
      have g30_4:=kP ha30 g27_4
      have g30_7:=kP ha30 g27_7
      have g30_8:=kP ha30 g27_8
      have g30_9:=kP ha30 g27_9
      have g30_10:=kP ha30 g27_10
      have g30_11:=kP ha30 g27_11
      have g30_30:get a30 30 = .int .i64 ((tl.length:Nat):Int):=kG ha30 hz27
      have g30_31:get a30 31 = .int .i64 0:=kG ha30 hz27
      refine hK29 a30 w24 ?_
      refine wp_block (wp_loop_ghost (fun (m:Nat) a' w'=>∃ (j:Nat) (v11:Value),a'.tmps.size=76∧a'.defers=[]∧get a' 0 = .agg ([.int .i64 fd.kind,.int .i64 fd.fr,.int .i64 fd.to,.int .i64 fd.nul,.int .i64 fd.tag,.int .i64 fd.df,.int .i64 fd.of,fsv]:List Value).toArray∧get a' 1 = .int .i64 ver∧get a' 2 = .bool flex∧get a' 3 = .agg ([.int .i64 n,sv,.bool nl,lv,uv]:List Value).toArray∧get a' 4 = .pointer (some ⟨w.heap.size,0,none⟩)∧get a' 7 = .pointer (some ⟨w2.heap.size,0,none⟩)∧get a' 8 = .slice none 0 0∧get a' 9 = .bool nu∧get a' 10 = .slice q tl.length c∧get a' 11=v11∧get a' 30 = .int .i64 ((tl.length:Nat):Int)∧get a' 31 = .int .i64 (j:Int)∧j+m=tl.length∧Own w' (From w4.heap.size w') 1 v11 (countedW flex nu tl.length 4++(tl.take j).flatMap (valueW fd.of (sub ver flex) false flex)).length (octets (countedW flex nu tl.length 4++(tl.take j).flatMap (valueW fd.of (sub ver flex) false flex)))∧w'.rangeAt w.heap.size 0 [.int .i64 fd.kind,.int .i64 fd.fr,.int .i64 fd.to,.int .i64 fd.nul,.int .i64 fd.tag,.int .i64 fd.df,.int .i64 fd.of,fsv]∧Things w' B (.slice q tl.length c) tl∧Fr [] w w'∧w4.heap.size≤w'.heap.size) tl.length ?_ ?_)
      · exact ⟨0,x24,hz30,hd30,g30_0,g30_1,g30_2,g30_3,g30_4,g30_7,g30_8,g30_9,g30_10,g30_11,g30_30,g30_31,by omega,by simpa using ow24.from hfS,rb26,htj.kept hL25_w22 (by simp) (fun _ h=>h),hF25,Nat.le_trans hfS hL25_w22.size⟩
      · rintro m a31 w31 ⟨j, v11, hz31, hd31, g31_0, g31_1, g31_2, g31_3, g31_4, g31_7, g31_8, g31_9, g31_10, g31_11, g31_30, g31_31, hjm, ho, hbl4, htj2, hfl, hSl⟩
        refine wS fun K32 hK32=>?_
        refine wC (wp_lss (k1:=.i64) (i:=(j:Int)) (j:=((tl.length:Nat):Int)) (eK g31_31) (eK g31_30) ?_)
        refine wEn fun a33 ha33=>?_
        have hz33:=kS ha33 hz31
        have hd33:=kD ha33 hd31
        have g33_0:=kP ha33 g31_0
        have g33_1:=kP ha33 g31_1
        have g33_2:=kP ha33 g31_2
        have g33_3:=kP ha33 g31_3
        have g33_4:=kP ha33 g31_4
        have g33_7:=kP ha33 g31_7
        have g33_8:=kP ha33 g31_8
        have g33_9:=kP ha33 g31_9
        have g33_10:=kP ha33 g31_10
        have g33_11:=kP ha33 g31_11
        have g33_30:=kP ha33 g31_30
        have g33_31:=kP ha33 g31_31
        have g33_32:get a33 32 = .bool (decide (((j:Int):Int) < (((tl.length:Nat):Int):Int))):=kG ha33 hz31
        refine hK32 a33 w31 ?_
        refine wp_seq_k fun K34 hK34=>?_
        refine wp_cond_split (t:=decide (((j:Int):Int) < (((tl.length:Nat):Int):Int))) (eK g33_32) (fun hc35=>?_) (fun hc35=>?_)
        · have hjl : j < tl.length := by simpa using hc35
          obtain ⟨te',hte⟩:∃ t,tl[j]?=some t:=⟨tl[j],by simp[hjl]⟩
          obtain ⟨q',c',hqc,-,-,hk⟩:=htj2.sl2
          obtain ⟨bl,ol,cl,hq,hbl,hrl,hrt⟩:=hk j te' hte
          cases hqc
          rw[hq] at g33_10
          have hel:=flatMap_part (f:=valueW fd.of (sub ver flex) false flex) hte
          have htk:=take_flatMap (f:=valueW fd.of (sub ver flex) false flex) hte
          have hpl:=take_flatMap_le (f:=valueW fd.of (sub ver flex) false flex) (l:=tl) (j+1)
          refine wp_skip ?_
          refine hK34 a33 w31 ?_
          refine wp_seq_k fun K36 hK36=>?_
          refine wp_blockT ?_
          refine wS fun K37 hK37=>?_
          refine wC (wMv (v:=.int .i64 (j:Int)) (eK g33_31) ?_)
          refine wC (wAs (v:=.int .i64 (j:Int)) (eS hz33) ?_)
          refine wEn fun a38 ha38=>?_
          have hz38:=kS ha38 hz33
          have hd38:=kD ha38 hd33
          have g38_0:=kP ha38 g33_0
          have g38_1:=kP ha38 g33_1
          have g38_2:=kP ha38 g33_2
          have g38_3:=kP ha38 g33_3
          have g38_4:=kP ha38 g33_4
          have g38_7:=kP ha38 g33_7
          have g38_8:=kP ha38 g33_8
          have g38_9:=kP ha38 g33_9
          have g38_10:=kP ha38 g33_10
          have g38_11:=kP ha38 g33_11
          have g38_12:get a38 12 = .int .i64 (j:Int):=kG ha38 hz33
          have g38_30:=kP ha38 g33_30
          have g38_31:=kP ha38 g33_31
          refine hK37 a38 w31 ?_
          refine wp_drawR (os:=[⟨some 34,.move (.tmp 11),t29,p29,e29,none⟩,⟨some 35,.fieldAddr T45 (.tmp 4) 6,t30,p30,e30,none⟩,⟨some 36,.load T3 (.tmp 35),t31,p31,e31,none⟩,⟨some 37,.fieldAddr T45 (.tmp 4) 7,t32,p32,e32,none⟩,⟨some 38,.load T29 (.tmp 37),t33,p33,e33,none⟩,⟨some 39,.move (.tmp 1),t34,p34,e34,none⟩,⟨some 40,.move (.tmp 2),t35,p35,e35,none⟩,⟨some 41,.move (.tmp 10),t36,p36,e36,none⟩,⟨some 42,.move (.tmp 12),t37,p37,e37,none⟩,⟨some 43,.indexAddr T23 (.tmp 41) (.tmp 42),t38,p38,e38,none⟩,⟨some 44,.load T26 (.tmp 43),t39,p39,e39,none⟩,⟨some 45,.call ⟨.value (.func f75),#[(.tmp 36),(.tmp 38),(.const (.bool false)),(.tmp 39),(.tmp 40),(.tmp 44)],a3⟩,t40,p40,e40,none⟩]) (rest:=[⟨some 46,.call ⟨.builtin .append,#[(.tmp 34),(.tmp 45)],#[T22,T22]⟩,t41,p41,e41,none⟩,⟨some 11,.assign (.tmp 46),t42,p42,e42,none⟩]) [spC [] (v11),spC [] (.pointer (some ⟨w.heap.size,6,none⟩)),spC [1] (.int .i64 fd.of),spC [] (.pointer (some ⟨w.heap.size,7,none⟩)),spC [3] (fsv),spC [] (.int .i64 ver),spC [] (.bool flex),spC [] (.slice (some ⟨bl,ol,none⟩) tl.length c),spC [] (.int .i64 (j:Int)),spC [7,8] (.pointer (some ⟨bl,ol+j * 5,none⟩)),spC [9] (.agg (cl).toArray),spR [2,4,5,6,10] (fun x w'=>Own w' (From w31.heap.size w') 1 x (valueW fd.of (sub ver flex) false flex te').length (octets (valueW fd.of (sub ver flex) false flex te')))] 34 [] hmx he10 (by simp[shape]) (by simp[plainO]) (by simp[spC,spR]) (by simp;omega) ⟨lCc _ _ _,lCc _ _ _,lCc _ _ _,lCc _ _ _,lCc _ _ _,lCc _ _ _,lCc _ _ _,lCc _ _ _,lCc _ _ _,lCc _ _ _,lCc _ _ _,(fun v w1 w2 f h=>h.upTo f (From.mono f.size)),trivial⟩ ?_ ?_
          · refine oCs ?_ ?_
            · refine op_c fun a' w' hk' hf' hd' K' hK' => ?_
              refine wMv (v:=v11) (by rw[eTm,hk'.get 11 (by omega),g38_11]) ?_
              exact hK'
            refine oCs ?_ ?_
            · refine op_c fun a' w' hk' hf' hd' K' hK' => ?_
              refine wFa (b:=w.heap.size) (i:=0) (hFlT45.fld (by decide)) (by rw[eTm,hk'.get 4 (by omega),g38_4]) ?_
              rw[show (0+6:Nat)=6 from rfl]
              exact hK'
            refine oCs ?_ ?_
            · refine op_c fun a' w' hk' hf' hd' K' hK' => ?_
              refine wL0 (j:=6) (v:=.int .i64 fd.of) hcT3 (by rw[eTm];exact hd'.c (nd':=[]) 1 (by simp) rfl) (hf'.range hbl4 .nil) rfl ?_
              exact hK'
            refine oCs ?_ ?_
            · refine op_c fun a' w' hk' hf' hd' K' hK' => ?_
              refine wFa (b:=w.heap.size) (i:=0) (hFlT45.fld (by decide)) (by rw[eTm,hk'.get 4 (by omega),g38_4]) ?_
              rw[show (0+7:Nat)=7 from rfl]
              exact hK'
            refine oCs ?_ ?_
            · refine op_c fun a' w' hk' hf' hd' K' hK' => ?_
              refine wL0 (j:=7) (v:=fsv) hcT29 (by rw[eTm];exact hd'.c (nd':=[]) 3 (by simp) rfl) (hf'.range hbl4 .nil) rfl ?_
              exact hK'
            refine oCs ?_ ?_
            · refine op_c fun a' w' hk' hf' hd' K' hK' => ?_
              refine wMv (v:=.int .i64 ver) (by rw[eTm,hk'.get 1 (by omega),g38_1]) ?_
              exact hK'
            refine oCs ?_ ?_
            · refine op_c fun a' w' hk' hf' hd' K' hK' => ?_
              refine wMv (v:=.bool flex) (by rw[eTm,hk'.get 2 (by omega),g38_2]) ?_
              exact hK'
            refine oCs ?_ ?_
            · refine op_c fun a' w' hk' hf' hd' K' hK' => ?_
              refine wMv (v:=.slice (some ⟨bl,ol,none⟩) tl.length c) (by rw[eTm,hk'.get 10 (by omega),g38_10]) ?_
              exact hK'
            refine oCs ?_ ?_
            · refine op_c fun a' w' hk' hf' hd' K' hK' => ?_
              refine wMv (v:=.int .i64 (j:Int)) (by rw[eTm,hk'.get 12 (by omega),g38_12]) ?_
              exact hK'
            refine oCs ?_ ?_
            · refine op_c fun a' w' hk' hf' hd' K' hK' => ?_
              refine wp_ixN (b:=bl) (o:=ol) (i:=j) hs_T23 (by rw[eTm];exact hd'.c (nd':=[]) 7 (by simp) rfl) (by rw[eTm];exact hd'.c (nd':=[]) 8 (by simp) rfl) hjl ?_
              exact hK'
            refine oCs ?_ ?_
            · refine op_c fun a' w' hk' hf' hd' K' hK' => ?_
              refine wp_loadFlat (cs:=cl) (b:=bl) (o:=ol+j * 5) hFlT26 hrt.length (by rw[eTm];exact hd'.c (nd':=[7,8]) 9 (by simp) rfl) (hf'.range hrl .nil) ?_
              exact hK'
            refine oCs ?_ ?_
            · refine op_r fun a' w' hk' hf' hd' K' hK' => ?_
              refine wCr (R:=fun x wz=>Fr [] w' wz∧Own wz (From w'.heap.size wz) 1 x (valueW fd.of (sub ver flex) false flex te').length (octets (valueW fd.of (sub ver flex) false flex te'))) (vs:=#[.int .i64 fd.of,fsv,.bool false,.int .i64 ver,.bool flex,.agg (cl).toArray]) hVa.enters (by simp only[List.map_toArray,List.map_cons,List.map_nil];rw[show a'.eval (.tmp 36)=Value.int .i64 fd.of from (by rw[eTm];exact hd'.c (nd':=[1]) 2 (by simp) rfl),show a'.eval (.tmp 38)=fsv from (by rw[eTm];exact hd'.c (nd':=[3]) 4 (by simp) rfl),show a'.eval (.const (.bool false))=Value.bool false from rfl,show a'.eval (.tmp 39)=Value.int .i64 ver from (by rw[eTm];exact hd'.c (nd':=[]) 5 (by simp) rfl),show a'.eval (.tmp 40)=Value.bool flex from (by rw[eTm];exact hd'.c (nd':=[]) 6 (by simp) rfl),show a'.eval (.tmp 44)=Value.agg (cl).toArray from (by rw[eTm];exact hd'.c (nd':=[9]) 10 (by simp) rfl)]) (calls_fresh (hVa.call w' A B fsv ver flex false fd.of cl te' (hsub.kept (hfl.tr hf') (by simp) (fun _ h=>h)) (hrt.kept hf' (by simp) (fun _ h=>h)) (fun b hb=>Nat.lt_of_lt_of_le (hA b hb) (hfl.tr hf').size) (fun b hb=>Nat.lt_of_lt_of_le (hB b hb) (hfl.tr hf').size) (by omega))) ?_
              rintro x39 w39 ⟨fr39,ow39⟩
              exact hK' x39 w39 (ow39.from hf'.size) fr39
            exact opsOk_nil
          intro a40 w40 k40 f40 hd_40
          have g40_0:get a40 0 = .agg ([.int .i64 fd.kind,.int .i64 fd.fr,.int .i64 fd.to,.int .i64 fd.nul,.int .i64 fd.tag,.int .i64 fd.df,.int .i64 fd.of,fsv]:List Value).toArray:=by rw[k40.get 0 (by omega),g38_0]
          have g40_1:get a40 1 = .int .i64 ver:=by rw[k40.get 1 (by omega),g38_1]
          have g40_2:get a40 2 = .bool flex:=by rw[k40.get 2 (by omega),g38_2]
          have g40_3:get a40 3 = .agg ([.int .i64 n,sv,.bool nl,lv,uv]:List Value).toArray:=by rw[k40.get 3 (by omega),g38_3]
          have g40_4:get a40 4 = .pointer (some ⟨w.heap.size,0,none⟩):=by rw[k40.get 4 (by omega),g38_4]
          have g40_7:get a40 7 = .pointer (some ⟨w2.heap.size,0,none⟩):=by rw[k40.get 7 (by omega),g38_7]
          have g40_8:get a40 8 = .slice none 0 0:=by rw[k40.get 8 (by omega),g38_8]
          have g40_9:get a40 9 = .bool nu:=by rw[k40.get 9 (by omega),g38_9]
          have g40_10:get a40 10 = .slice (some ⟨bl,ol,none⟩) tl.length c:=by rw[k40.get 10 (by omega),g38_10]
          have g40_30:get a40 30 = .int .i64 ((tl.length:Nat):Int):=by rw[k40.get 30 (by omega),g38_30]
          have g40_31:get a40 31 = .int .i64 (j:Int):=by rw[k40.get 31 (by omega),g38_31]
          have hz40:a40.tmps.size=76:=k40.size.trans hz38
          have hd40:a40.defers=[]:=k40.defers.trans hd38
          have g40_34:get a40 34=v11:=hd_40.c (nd':=[]) 0 (by simp) rfl
          have hF41:Fr [] w w40:=hfl.tr f40
          have hL41_w31:Fr [] w31 w40:=(Fr.refl [] w31).tr f40
          have rb42:=f40.range hbl4 .nil
          have hv:Own w40 (From w31.heap.size w40) 1 (get a40 45) (valueW fd.of (sub ver flex) false flex te').length (octets (valueW fd.of (sub ver flex) false flex te')):=hd_40.at (d:=11) (by simp) rfl
          rw[wCo]
          have ob43:=ho.upTo hL41_w31 (From.mono hL41_w31.size)
          have hSl43:w4.heap.size≤w40.heap.size:=Nat.le_trans hSl hL41_w31.size
          refine wp_appO hs_T22 hz_T22 (eK g40_34) rfl ob43 (hv.octE (by omega)) (by rw[htk,List.length_append] at hpl;rw[List.length_append];omega) ?_
          rintro v43 w43 fa43 oa43 sp43 bk43
          have ho43:=oa43.imp_A (new_or hSl43 fa43.size)
          have hF43:Fr [] w w43:=fr_own hF41 fa43 (ob43.from (s0:=w.heap.size) (by omega)) (fun b hb=>hb.1)
          have rb44:=fa43.range rb42 (fun r hr=>.inl fun e=>by have:=(ob43.spare_in r hr).1;have:=hS0;omega)
          have htN:=(htj2.kept hL41_w31 (by simp) (fun _ h=>h):Things _ B _ _).kept fa43 (A':=B) (fun r hr hb=>by have:=hB _ hb;have:=(ob43.spare_in r hr).1;omega) (fun _ h=>h)
          have hSN:=Nat.le_trans hSl43 fa43.size
          refine wC (wAs (v:=v43) (eS hz40) ?_)
          refine wEn fun a45 ha45=>?_
          have hz45:=kS ha45 hz40
          have hd45:=kD ha45 hd40
          have g45_0:=kP ha45 g40_0
          have g45_1:=kP ha45 g40_1
          have g45_2:=kP ha45 g40_2
          have g45_3:=kP ha45 g40_3
          have g45_4:=kP ha45 g40_4
          have g45_7:=kP ha45 g40_7
          have g45_8:=kP ha45 g40_8
          have g45_9:=kP ha45 g40_9
          have g45_10:=kP ha45 g40_10
          have g45_11:get a45 11=v43:=kG ha45 hz40
          have g45_30:=kP ha45 g40_30
          have g45_31:=kP ha45 g40_31
          refine hK36 a45 w43 ?_
          refine wp_reg ?_
          refine wC (wp_add (k1:=.i64) (i:=(j:Int)) (j:=1) (eK g45_31) rfl ?_)
          rw[show (IntKind.i64.wrap (((j:Int):Int)+(1:Int)):Int)=(((j+1:Nat):Int):Int) from by simp only[IntKind.wrap,IntKind.bits,IntKind.signed];simp;omega]
          refine wC (wMv (v:=.int .i64 ((j+1:Nat):Int)) (eS hz45) ?_)
          refine wEn fun a46 ha46=>?_
          have hz46:=kS ha46 hz45
          have hd46:=kD ha46 hd45
          have g46_0:=kP ha46 g45_0
          have g46_1:=kP ha46 g45_1
          have g46_2:=kP ha46 g45_2
          have g46_3:=kP ha46 g45_3
          have g46_4:=kP ha46 g45_4
          have g46_7:=kP ha46 g45_7
          have g46_8:=kP ha46 g45_8
          have g46_9:=kP ha46 g45_9
          have g46_10:=kP ha46 g45_10
          have g46_11:=kP ha46 g45_11
          have g46_30:=kP ha46 g45_30
          have g46_31:get a46 31 = .int .i64 ((j+1:Nat):Int):=kG ha46 hz45
          rw[← hq] at g46_10
          refine ⟨m - 1,by omega,j+1,_,hz46,hd46,g46_0,g46_1,g46_2,g46_3,g46_4,g46_7,g46_8,g46_9,g46_10,g46_11,g46_30,g46_31,by omega,?_,rb44,htN.kept (Fr.refl [] w43) (by simp) (fun _ h=>h),hF43,Nat.le_trans hSN (Fr.refl [] w43).size⟩
          rw[htk,← List.append_assoc];exact ho43.upTo (Fr.refl [] w43) (From.mono (Fr.refl [] w43).size)
        · have hj0 : j = tl.length := by simp at hc35; omega
          rw[hj0,List.take_length] at ho
          refine wp_exit ?_
          show K28 a33 w31
          refine hK28 a33 w31 ?_
          refine wS fun K47 hK47=>?_
          refine wC (wMv (v:=v11) (eK g33_11) ?_)
          refine wC (wAs (v:=v11) (eS hz33) ?_)
          refine wEn fun a48 ha48=>?_
          have hz48:=kS ha48 hz33
          have hd48:=kD ha48 hd33
          have g48_8:get a48 8=v11:=kG ha48 hz33
          refine hK47 a48 w31 ?_
          refine wp_ret ?_
          rw[hW]
          exact ⟨hd48,_,rIs hres g48_8,_,rfl,hfl,ho.from (by omega)⟩
    refine wS fun K49 hK49=>?_
    refine wC (wMv (v:=.bool nu) (eK g20_9) ?_)
    refine wEn fun a50 ha50=>?_
    have hz50:=kS ha50 hz20
    have hd50:=kD ha50 hd20
    have g50_0:=kP ha50 g20_0
    have g50_1:=kP ha50 g20_1
    have g50_2:=kP ha50 g20_2
    have g50_3:=kP ha50 g20_3
    have g50_4:=kP ha50 g20_4
    have g50_7:=kP ha50 g20_7
    have g50_8:=kP ha50 g20_8
    have g50_9:=kP ha50 g20_9
    have g50_10:=kP ha50 g20_10
    have g50_23:get a50 23 = .bool nu:=kG ha50 hz20
    refine hK49 a50 w9 ?_
    refine wp_cond_split (t:=nu) (eK g50_23) (fun hc51=>?_) (fun hc51=>?_)
    · have hnt : nu = true := hc51
      have htl0:tl=[]:=by rw[htl,hnt];rfl
      refine wp_reg ?_
      refine wC (wAs (v:=.slice none 0 0) rfl ?_)
      refine wEn fun a52 ha52=>?_
      have hz52:=kS ha52 hz50
      have hd52:=kD ha52 hd50
      have g52_0:=kP ha52 g50_0
      have g52_1:=kP ha52 g50_1
      have g52_2:=kP ha52 g50_2
      have g52_3:=kP ha52 g50_3
      have g52_4:=kP ha52 g50_4
      have g52_7:=kP ha52 g50_7
      have g52_8:=kP ha52 g50_8
      have g52_9:=kP ha52 g50_9
      have g52_10:get a52 10 = .slice none 0 0:=kG ha52 hz50
      have hq10:=g52_10
      rw[show (.slice none 0 0:Value) = .slice none tl.length 0 from by rw[htl0];rfl] at hq10
      exact hJ22 a52 w9 ⟨none,0,hz52,hd52,g52_0,g52_1,g52_2,g52_3,g52_4,g52_7,g52_8,g52_9,hq10,by rw[htl0];exact .inl ⟨.inl rfl,rfl⟩,rb11,hF10,hL10_w4.size⟩
    · have hnf : nu = false := hc51
      have htl0:tl=l.take 32767:=by rw[htl,hnf];rfl
      refine wp_skip ?_
      have hq10:=g50_10
      rw[show (.slice q19 ((l.take 32767).length) c19:Value) = .slice q19 tl.length c19 from by rw[htl0]] at hq10
      exact hJ22 a50 w9 ⟨q19,c19,hz50,hd50,g50_0,g50_1,g50_2,g50_3,g50_4,g50_7,g50_8,g50_9,hq10,by rw[htl0];exact hx19.kept (Fr.refl [] w9) (by simp) (fun _ h=>h),rb11,hF10,hL10_w4.size⟩
  · have n11 : fd.kind ≠ 11 := by simpa using hc17
    refine wp_skip ?_
    refine hK14 a16 w9 (tUp ?_)
    refine tId (wp_seq_k fun K53 hK53=>?_)
    refine wp_seq_k fun K54 hK54=>?_
    by_cases h10:fd.kind=10;rotate_left
    · refine wp_regG ?_
      refine gCn ?_
      refine wFa (b:=w.heap.size) (i:=0) (hFlT45.fld (by decide)) (eK g16_4) ?_
      rw[show (0+0:Nat)=0 from rfl]
      refine gCn ?_
      refine wL0 (j:=0) (v:=.int .i64 fd.kind) hcT3 (eS hz16) rb11 rfl ?_
      refine gCn ?_
      refine wp_eqlF (k1:=.i64) (i:=fd.kind) (j:=10) h10 (eS hz16) rfl ?_
      refine gCn ?_
      refine wMv (v:=.bool false) (eS hz16) ?_
      refine wg_noT (dj:=52) rfl (lZ hz16) (gS hz16) ?_
      refine wg_noT (dj:=52) rfl (lZ hz16) (gS hz16) ?_
      refine wg_noT (dj:=52) rfl (lZ hz16) (gS hz16) ?_
      refine gCn ?_
      refine wp_pickNo (v:=.bool false) (eS hz16) rfl ?_
      refine wg_end fun a55 ha55=>?_
      have hz55:=kS ha55 hz16
      have hd55:=kD ha55 hd16
      have g55_1:=kP ha55 g16_1
      have g55_2:=kP ha55 g16_2
      have g55_4:=kP ha55 g16_4
      have g55_7:=kP ha55 g16_7
      have g55_9:=kP ha55 g16_9
      have g55_56:get a55 56 = .bool false:=kG ha55 hz16
      refine hK54 a55 w9 ?_
      refine wp_cond_split (t:=false) (eK g55_56) (fun h=>by cases h) (fun _=>?_)
      refine wp_skip ?_
      refine hK53 a55 w9 (tUp ?_)
      refine tId (wp_seq_k fun K57 hK57=>?_)
      have hW:fieldV fd.kind fd.nul fd.of (sub ver flex) ver flex (.mk n s nl l u)=valueW fd.kind (sub ver flex) nu flex (.mk n s nl l u):=by rw[fieldV,if_neg n11,if_neg (fun h=>h10 h.1),← hnu]
      rw[hW] at hlen
      refine wp_reg ?_
      refine wC (wFa (b:=w.heap.size) (i:=0) (hFlT45.fld (by decide)) (eK g55_4) ?_)
      rw[show (0+0:Nat)=0 from rfl]
      refine wC (wL0 (j:=0) (v:=.int .i64 fd.kind) hcT3 (eS hz55) rb11 rfl ?_)
      refine wC (wFa (b:=w.heap.size) (i:=0) (hFlT45.fld (by decide)) (eK g55_4) ?_)
      rw[show (0+7:Nat)=7 from rfl]
      refine wC (wL0 (j:=7) (v:=fsv) hcT29 (eS hz55) rb11 rfl ?_)
      refine wC (wMv (v:=.bool nu) (eK g55_9) ?_)
      refine wC (wMv (v:=.int .i64 ver) (eK g55_1) ?_)
      refine wC (wMv (v:=.bool flex) (eK g55_2) ?_)
      refine wC (wp_loadFlat (cs:=[.int .i64 n,sv,.bool nl,lv,uv]) (b:=w2.heap.size) (o:=0) hFlT26 rfl (eK g55_7) rb12 ?_)
      refine wC (wCr (R:=fun x wz=>Fr [] w9 wz∧Own wz (From w9.heap.size wz) 1 x (valueW fd.kind (sub ver flex) nu flex (.mk n s nl l u)).length (octets (valueW fd.kind (sub ver flex) nu flex (.mk n s nl l u)))) (vs:=#[.int .i64 fd.kind,fsv,.bool nu,.int .i64 ver,.bool flex,.agg ([.int .i64 n,sv,.bool nl,lv,uv]:List Value).toArray]) hVa.enters (by simp only[List.map_toArray,List.map_cons,List.map_nil];rw[eTm,nZ (by decide),nZ (by decide),nZ (by decide),nZ (by decide),nZ (by decide),nZ (by decide),sZ (zZ hz55) (by decide),eTm,nZ (by decide),nZ (by decide),nZ (by decide),nZ (by decide),sZ (zZ (zZ (zZ hz55))) (by decide),eTm,nZ (by decide),nZ (by decide),nZ (by decide),sZ (zZ (zZ (zZ (zZ hz55)))) (by decide),eTm,nZ (by decide),nZ (by decide),sZ (zZ (zZ (zZ (zZ (zZ hz55))))) (by decide),eTm,nZ (by decide),sZ (zZ (zZ (zZ (zZ (zZ (zZ hz55)))))) (by decide),eTm,sZ (zZ (zZ (zZ (zZ (zZ (zZ (zZ hz55))))))) (by decide)]) (calls_fresh (hVa.call w9 A B fsv ver flex nu fd.kind _ (.mk n s nl l u) (hsub.kept hF10 (by simp) (fun _ h=>h)) (ht0.kept hF10 (by simp) (fun _ h=>h)) (fun b hb=>Nat.lt_of_lt_of_le (hA b hb) hF10.size) (fun b hb=>Nat.lt_of_lt_of_le (hB b hb) hF10.size) hlen)) ?_)
      rintro x58 w58 ⟨fr58,ow58⟩
      have hF59:Fr [] w w58:=hF10.tr fr58
      have rb60:=fr58.range rb11 .nil
      have rb61:=fr58.range rb12 .nil
      refine wC (wAs (v:=x58) (eS hz55) ?_)
      refine wEn fun a62 ha62=>?_
      have hz62:=kS ha62 hz55
      have hd62:=kD ha62 hd55
      have g62_8:get a62 8=x58:=kG ha62 hz55
      refine hK57 a62 w58 (tUp ?_)
      refine wp_ret ?_
      rw[hW]
      exact ⟨hd62,_,rIs hres g62_8,_,rfl,hF59,ow58.from (by have:=hF10.size;omega)⟩
    · by_cases hnn : fd.nul ≥ 0
      · refine wp_regG ?_
        refine gCn ?_
        refine wFa (b:=w.heap.size) (i:=0) (hFlT45.fld (by decide)) (eK g16_4) ?_
        rw[show (0+0:Nat)=0 from rfl]
        refine gCn ?_
        refine wL0 (j:=0) (v:=.int .i64 fd.kind) hcT3 (eS hz16) rb11 rfl ?_
        refine gCn ?_
        refine wp_eqlT (k1:=.i64) (i:=fd.kind) (j:=10) h10 (eS hz16) rfl ?_
        refine gCn ?_
        refine wMv (v:=.bool true) (eS hz16) ?_
        refine wg_yes (dj:=52) rfl (lZ hz16) (gS hz16) ?_
        refine wFa (b:=w.heap.size) (i:=0) (hFlT45.fld (by decide)) (eK g16_4) ?_
        rw[show (0+3:Nat)=3 from rfl]
        refine wg_yes (dj:=52) rfl (lZ hz16) (gS hz16) ?_
        refine wL0 (j:=3) (v:=.int .i64 fd.nul) hcT3 (eS hz16) rb11 rfl ?_
        refine wg_yes (dj:=52) rfl (lZ hz16) (gS hz16) ?_
        refine wp_geqT (k1:=.i64) (i:=fd.nul) (j:=0) hnn (eS hz16) rfl ?_
        refine gCn ?_
        refine wp_pickYes (v:=.bool true) (eS hz16) (eS hz16) ?_
        refine wg_end fun a63 ha63=>?_
        have hz63:=kS ha63 hz16
        have hd63:=kD ha63 hd16
        have g63_1:=kP ha63 g16_1
        have g63_2:=kP ha63 g16_2
        have g63_4:=kP ha63 g16_4
        have g63_7:=kP ha63 g16_7
        have g63_9:=kP ha63 g16_9
        have g63_56:get a63 56 = .bool true:=kG ha63 hz16
        refine hK54 a63 w9 ?_
        refine wp_cond_split (t:=true) (eK g63_56) (fun _=>?_) (fun h=>by cases h)
        refine wp_seq_k fun K65 hK65=>?_
        refine wS fun K66 hK66=>?_
        refine wC (wMv (v:=.bool nu) (eK g63_9) ?_)
        refine wEn fun a67 ha67=>?_
        have hz67:=kS ha67 hz63
        have hd67:=kD ha67 hd63
        have g67_1:=kP ha67 g63_1
        have g67_2:=kP ha67 g63_2
        have g67_4:=kP ha67 g63_4
        have g67_7:=kP ha67 g63_7
        have g67_57:get a67 57 = .bool nu:=kG ha67 hz63
        refine hK66 a67 w9 ?_
        refine wp_cond_split (t:=nu) (eK g67_57) (fun hc68=>?_) (fun hc68=>?_)
        · have hnt : nu = true := hc68
          refine wp_seq_k fun K69 hK69=>?_
          have hW:fieldV fd.kind fd.nul fd.of (sub ver flex) ver flex (.mk n s nl l u)=fxW (-1) 1:=by rw[fieldV,if_neg n11,if_pos ⟨h10,hnn⟩,← hnu,hnt];rfl
          refine wp_reg ?_
          refine wC (wCr (R:=fun x wz=>Fr [] w9 wz∧Own wz (From w9.heap.size wz) 1 x (fxW (-1) 1).length (octets (fxW (-1) 1))) (vs:=#[.int .i64 (-1),.int .i64 1]) hFx.enters (by simp[eCo]) (calls_fresh (hFx.call w9 (-1) 1 (by decide))) ?_)
          rintro x70 w70 ⟨fr70,ow70⟩
          have hF71:Fr [] w w70:=hF10.tr fr70
          have rb72:=fr70.range rb11 .nil
          have rb73:=fr70.range rb12 .nil
          refine wC (wAs (v:=x70) (eS hz67) ?_)
          refine wEn fun a74 ha74=>?_
          have hz74:=kS ha74 hz67
          have hd74:=kD ha74 hd67
          have g74_8:get a74 8=x70:=kG ha74 hz67
          refine hK69 a74 w70 ?_
          refine wp_ret ?_
          rw[hW]
          exact ⟨hd74,_,rIs hres g74_8,_,rfl,hF71,ow70.from (by have:=hF10.size;omega)⟩
        · have hnf : nu = false := hc68
          refine wp_skip ?_
          refine hK65 a67 w9 ?_
          refine wp_seq_k fun K75 hK75=>?_
          have hW:fieldV fd.kind fd.nul fd.of (sub ver flex) ver flex (.mk n s nl l u)=fxW 1 1++sub ver flex (.mk n s nl l u):=by rw[fieldV,if_neg n11,if_pos ⟨h10,hnn⟩,← hnu,hnf];rfl
          rw[hW,List.length_append] at hlen
          have hle0:=hF10.size
          refine wp_drawR (os:=[⟨some 59,.call ⟨.value (.func f76),#[(.const (.int .i64 1)),(.const (.int .i64 1))],a5⟩,t58,p58,e58,none⟩,⟨some 60,.fieldAddr T45 (.tmp 4) 7,t59,p59,e59,none⟩,⟨some 61,.load T29 (.tmp 60),t60,p60,e60,none⟩,⟨some 62,.move (.tmp 1),t61,p61,e61,none⟩,⟨some 63,.move (.tmp 2),t62,p62,e62,none⟩,⟨some 64,.load T26 (.tmp 7),t63,p63,e63,none⟩,⟨some 65,.call ⟨.value (.func f26),#[(.tmp 61),(.tmp 62),(.tmp 63),(.tmp 64)],a6⟩,t64,p64,e64,none⟩]) (rest:=[⟨some 66,.call ⟨.builtin .append,#[(.tmp 59),(.tmp 65)],#[T22,T22]⟩,t65,p65,e65,none⟩,⟨some 8,.assign (.tmp 66),t66,p66,e66,none⟩]) [spR [] (fun x w'=>Own w' (From w9.heap.size w') 1 x (fxW 1 1).length (octets (fxW 1 1))),spC [] (.pointer (some ⟨w.heap.size,7,none⟩)),spC [1] (fsv),spC [] (.int .i64 ver),spC [] (.bool flex),spC [] (.agg ([.int .i64 n,sv,.bool nl,lv,uv]:List Value).toArray),spR [2,3,4,5] (fun x w'=>Own w' (From w9.heap.size w') 1 x (sub ver flex (.mk n s nl l u)).length (octets (sub ver flex (.mk n s nl l u))))] 59 [] hmx he16 (by simp[shape]) (by simp[plainO]) (by simp[spC,spR]) (by simp;omega) ⟨(fun v w1 w2 f h=>h.upTo f (From.mono f.size)),lCc _ _ _,lCc _ _ _,lCc _ _ _,lCc _ _ _,lCc _ _ _,(fun v w1 w2 f h=>h.upTo f (From.mono f.size)),trivial⟩ ?_ ?_
          · refine oCs ?_ ?_
            · refine op_r fun a' w' hk' hf' hd' K' hK' => ?_
              refine wCr (R:=fun x wz=>Fr [] w' wz∧Own wz (From w'.heap.size wz) 1 x (fxW 1 1).length (octets (fxW 1 1))) (vs:=#[.int .i64 1,.int .i64 1]) hFx.enters (by simp[eCo]) (calls_fresh (hFx.call w' 1 1 (by decide))) ?_
              rintro x76 w76 ⟨fr76,ow76⟩
              exact hK' x76 w76 (ow76.from hf'.size) fr76
            refine oCs ?_ ?_
            · refine op_c fun a' w' hk' hf' hd' K' hK' => ?_
              refine wFa (b:=w.heap.size) (i:=0) (hFlT45.fld (by decide)) (by rw[eTm,hk'.get 4 (by omega),g67_4]) ?_
              rw[show (0+7:Nat)=7 from rfl]
              exact hK'
            refine oCs ?_ ?_
            · refine op_c fun a' w' hk' hf' hd' K' hK' => ?_
              refine wL0 (j:=7) (v:=fsv) hcT29 (by rw[eTm];exact hd'.c (nd':=[]) 1 (by simp) rfl) (hf'.range rb11 .nil) rfl ?_
              exact hK'
            refine oCs ?_ ?_
            · refine op_c fun a' w' hk' hf' hd' K' hK' => ?_
              refine wMv (v:=.int .i64 ver) (by rw[eTm,hk'.get 1 (by omega),g67_1]) ?_
              exact hK'
            refine oCs ?_ ?_
            · refine op_c fun a' w' hk' hf' hd' K' hK' => ?_
              refine wMv (v:=.bool flex) (by rw[eTm,hk'.get 2 (by omega),g67_2]) ?_
              exact hK'
            refine oCs ?_ ?_
            · refine op_c fun a' w' hk' hf' hd' K' hK' => ?_
              refine wp_loadFlat (cs:=[.int .i64 n,sv,.bool nl,lv,uv]) (b:=w2.heap.size) (o:=0) hFlT26 rfl (by rw[eTm,hk'.get 7 (by omega),g67_7]) (hf'.range rb12 .nil) ?_
              exact hK'
            refine oCs ?_ ?_
            · refine op_r fun a' w' hk' hf' hd' K' hK' => ?_
              refine wCr (R:=fun x wz=>Fr [] w' wz∧Own wz (From w'.heap.size wz) 1 x (sub ver flex (.mk n s nl l u)).length (octets (sub ver flex (.mk n s nl l u)))) (vs:=#[fsv,.int .i64 ver,.bool flex,.agg ([.int .i64 n,sv,.bool nl,lv,uv]:List Value).toArray]) hPa.enters (by simp only[List.map_toArray,List.map_cons,List.map_nil];rw[show a'.eval (.tmp 61)=fsv from (by rw[eTm];exact hd'.c (nd':=[1]) 2 (by simp) rfl),show a'.eval (.tmp 62)=Value.int .i64 ver from (by rw[eTm];exact hd'.c (nd':=[]) 3 (by simp) rfl),show a'.eval (.tmp 63)=Value.bool flex from (by rw[eTm];exact hd'.c (nd':=[]) 4 (by simp) rfl),show a'.eval (.tmp 64)=Value.agg ([.int .i64 n,sv,.bool nl,lv,uv]:List Value).toArray from (by rw[eTm];exact hd'.c (nd':=[]) 5 (by simp) rfl)]) (calls_fresh (hPa.call w' A B fsv ver flex _ (.mk n s nl l u) (hsub.kept (hF10.tr hf') (by simp) (fun _ h=>h)) (ht0.kept (hF10.tr hf') (by simp) (fun _ h=>h)) (fun b hb=>Nat.lt_of_lt_of_le (hA b hb) (hF10.tr hf').size) (fun b hb=>Nat.lt_of_lt_of_le (hB b hb) (hF10.tr hf').size) (by omega))) ?_
              rintro x77 w77 ⟨fr77,ow77⟩
              exact hK' x77 w77 (ow77.from hf'.size) fr77
            exact opsOk_nil
          intro a78 w78 k78 f78 hd_78
          have hz78:a78.tmps.size=76:=k78.size.trans hz67
          have hd78:a78.defers=[]:=k78.defers.trans hd67
          have hF79:Fr [] w w78:=hF10.tr f78
          have hL79_w9:Fr [] w9 w78:=(Fr.refl [] w9).tr f78
          have rb80:=f78.range rb11 .nil
          have rb81:=f78.range rb12 .nil
          have hv0:Own w78 (From w9.heap.size w78) 1 (get a78 59) (fxW 1 1).length (octets (fxW 1 1)):=hd_78.at (d:=0) (by simp) rfl
          have hv6:Own w78 (From w9.heap.size w78) 1 (get a78 65) (sub ver flex (.mk n s nl l u)).length (octets (sub ver flex (.mk n s nl l u))):=hd_78.at (d:=6) (by simp) rfl
          rw[wCo]
          have ob82:=hv0
          have hSl82:w9.heap.size≤w78.heap.size:=hL79_w9.size
          refine wp_appO hs_T22 hz_T22 rfl rfl ob82 (hv6.octE (by omega)) (by omega) ?_
          rintro v82 w82 fa82 oa82 sp82 bk82
          have ho82:=oa82.imp_A (new_or hSl82 fa82.size)
          have hF82:Fr [] w w82:=fr_own hF79 fa82 (ob82.from (s0:=w.heap.size) (by omega)) (fun b hb=>hb.1)
          refine wC (wAs (v:=v82) (eS hz78) ?_)
          refine wEn fun a83 ha83=>?_
          have hz83:=kS ha83 hz78
          have hd83:=kD ha83 hd78
          have g83_8:get a83 8=v82:=kG ha83 hz78
          refine hK75 a83 w82 ?_
          refine wp_ret ?_
          rw[hW]
          exact ⟨hd83,_,rIs hres g83_8,_,rfl,hF82,ho82.from (by omega)⟩
      · refine wp_regG ?_
        refine gCn ?_
        refine wFa (b:=w.heap.size) (i:=0) (hFlT45.fld (by decide)) (eK g16_4) ?_
        rw[show (0+0:Nat)=0 from rfl]
        refine gCn ?_
        refine wL0 (j:=0) (v:=.int .i64 fd.kind) hcT3 (eS hz16) rb11 rfl ?_
        refine gCn ?_
        refine wp_eqlT (k1:=.i64) (i:=fd.kind) (j:=10) h10 (eS hz16) rfl ?_
        refine gCn ?_
        refine wMv (v:=.bool true) (eS hz16) ?_
        refine wg_yes (dj:=52) rfl (lZ hz16) (gS hz16) ?_
        refine wFa (b:=w.heap.size) (i:=0) (hFlT45.fld (by decide)) (eK g16_4) ?_
        rw[show (0+3:Nat)=3 from rfl]
        refine wg_yes (dj:=52) rfl (lZ hz16) (gS hz16) ?_
        refine wL0 (j:=3) (v:=.int .i64 fd.nul) hcT3 (eS hz16) rb11 rfl ?_
        refine wg_yes (dj:=52) rfl (lZ hz16) (gS hz16) ?_
        refine wp_geqF (k1:=.i64) (i:=fd.nul) (j:=0) hnn (eS hz16) rfl ?_
        refine gCn ?_
        refine wp_pickYes (v:=.bool false) (eS hz16) (eS hz16) ?_
        refine wg_end fun a84 ha84=>?_
        have hz84:=kS ha84 hz16
        have hd84:=kD ha84 hd16
        have g84_1:=kP ha84 g16_1
        have g84_2:=kP ha84 g16_2
        have g84_4:=kP ha84 g16_4
        have g84_7:=kP ha84 g16_7
        have g84_9:=kP ha84 g16_9
        have g84_56:get a84 56 = .bool false:=kG ha84 hz16
        refine hK54 a84 w9 ?_
        refine wp_cond_split (t:=false) (eK g84_56) (fun h=>by cases h) (fun _=>?_)
        refine wp_skip ?_
        refine hK53 a84 w9 (tUp ?_)
        refine tId (wp_seq_k fun K86 hK86=>?_)
        have hW:fieldV fd.kind fd.nul fd.of (sub ver flex) ver flex (.mk n s nl l u)=valueW fd.kind (sub ver flex) nu flex (.mk n s nl l u):=by rw[fieldV,if_neg n11,if_neg (fun h=>hnn h.2),← hnu]
        rw[hW] at hlen
        refine wp_reg ?_
        refine wC (wFa (b:=w.heap.size) (i:=0) (hFlT45.fld (by decide)) (eK g84_4) ?_)
        rw[show (0+0:Nat)=0 from rfl]
        refine wC (wL0 (j:=0) (v:=.int .i64 fd.kind) hcT3 (eS hz84) rb11 rfl ?_)
        refine wC (wFa (b:=w.heap.size) (i:=0) (hFlT45.fld (by decide)) (eK g84_4) ?_)
        rw[show (0+7:Nat)=7 from rfl]
        refine wC (wL0 (j:=7) (v:=fsv) hcT29 (eS hz84) rb11 rfl ?_)
        refine wC (wMv (v:=.bool nu) (eK g84_9) ?_)
        refine wC (wMv (v:=.int .i64 ver) (eK g84_1) ?_)
        refine wC (wMv (v:=.bool flex) (eK g84_2) ?_)
        refine wC (wp_loadFlat (cs:=[.int .i64 n,sv,.bool nl,lv,uv]) (b:=w2.heap.size) (o:=0) hFlT26 rfl (eK g84_7) rb12 ?_)
        refine wC (wCr (R:=fun x wz=>Fr [] w9 wz∧Own wz (From w9.heap.size wz) 1 x (valueW fd.kind (sub ver flex) nu flex (.mk n s nl l u)).length (octets (valueW fd.kind (sub ver flex) nu flex (.mk n s nl l u)))) (vs:=#[.int .i64 fd.kind,fsv,.bool nu,.int .i64 ver,.bool flex,.agg ([.int .i64 n,sv,.bool nl,lv,uv]:List Value).toArray]) hVa.enters (by simp only[List.map_toArray,List.map_cons,List.map_nil];rw[eTm,nZ (by decide),nZ (by decide),nZ (by decide),nZ (by decide),nZ (by decide),nZ (by decide),sZ (zZ hz84) (by decide),eTm,nZ (by decide),nZ (by decide),nZ (by decide),nZ (by decide),sZ (zZ (zZ (zZ hz84))) (by decide),eTm,nZ (by decide),nZ (by decide),nZ (by decide),sZ (zZ (zZ (zZ (zZ hz84)))) (by decide),eTm,nZ (by decide),nZ (by decide),sZ (zZ (zZ (zZ (zZ (zZ hz84))))) (by decide),eTm,nZ (by decide),sZ (zZ (zZ (zZ (zZ (zZ (zZ hz84)))))) (by decide),eTm,sZ (zZ (zZ (zZ (zZ (zZ (zZ (zZ hz84))))))) (by decide)]) (calls_fresh (hVa.call w9 A B fsv ver flex nu fd.kind _ (.mk n s nl l u) (hsub.kept hF10 (by simp) (fun _ h=>h)) (ht0.kept hF10 (by simp) (fun _ h=>h)) (fun b hb=>Nat.lt_of_lt_of_le (hA b hb) hF10.size) (fun b hb=>Nat.lt_of_lt_of_le (hB b hb) hF10.size) hlen)) ?_)
        rintro x87 w87 ⟨fr87,ow87⟩
        have hF88:Fr [] w w87:=hF10.tr fr87
        have rb89:=fr87.range rb11 .nil
        have rb90:=fr87.range rb12 .nil
        refine wC (wAs (v:=x87) (eS hz84) ?_)
        refine wEn fun a91 ha91=>?_
        have hz91:=kS ha91 hz84
        have hd91:=kD ha91 hd84
        have g91_8:get a91 8=x87:=kG ha91 hz84
        refine hK86 a91 w87 (tUp ?_)
        refine wp_ret ?_
        rw[hW]
        exact ⟨hd91,_,rIs hres g91_8,_,rfl,hF88,ow87.from (by have:=hF10.size;omega)⟩
end Go.Kq

namespace Go.Kq
open Go Go.Proofs
theorem wrap_u64n {n:Nat} (h:n < 18446744073709551616):IntKind.u64.wrap (n:Int)=n:=by
  simp only[IntKind.wrap,IntKind.bits,IntKind.signed];simp;omega
theorem knownW_free:∀ {fs:List Fd},(∀ f ∈ fs,f.tag < 0)→knownW fs=0
  | [],_=>rfl
  | f :: fs, h => by
    have:=h f (by simp)
    rw[knownW,if_neg (by omega)];exact knownW_free fun g hg=>h g (by simp[hg])
theorem partW_free {fs:List Fd} (h:knownW fs=0) (ver:Int) (flex:Bool) (t:T):partW fs ver flex t=if flex then bodyW fs ver (fieldsW fs ver flex t.l 0) fs.length++(uvW (unksW fs t).length++(unksW fs t).flatMap pairW) else bodyW fs ver (fieldsW fs ver flex t.l 0) fs.length:=by
  have hk:knownsW fs t (fieldsW fs ver flex t.l 0)=[]:=by simp[knownsW,h]
  unfold partW joinW
  rw[hk];simp
theorem bodyW_succ {fs:List Fd} {ver:Int} {encs:List (List UInt8)} {j:Nat} {fd:Fd} (h:fs[j]?=some fd) (ht:fd.tag < 0):bodyW fs ver encs (j+1)=bodyW fs ver encs j++if fd.has ver then encs.getD j [] else []:=by
  unfold bodyW
  rw[List.range_succ,List.flatMap_append]
  simp[h,ht]
theorem bodyW_le {fs:List Fd} {ver:Int} {encs:List (List UInt8)}:∀ {m n:Nat},n≤m→(bodyW fs ver encs n).length≤(bodyW fs ver encs m).length
  | 0, n, h => by have : n = 0 := by omega
                  subst this;exact Nat.le_refl _
  | m + 1, n, h => by
    by_cases hn:n=m+1
    · subst hn;exact Nat.le_refl _
    · refine Nat.le_trans (bodyW_le (m := m) (by omega)) ?_
      unfold bodyW
      rw[List.range_succ,List.flatMap_append,List.length_append];omega
theorem take_pair {fs:List Fd} {t:T} {j:Nat} {p:Nat × List UInt8} (h:(unksW fs t)[j]?=some p):((unksW fs t).take (j+1)).flatMap pairW=((unksW fs t).take j).flatMap pairW++pairW p:=by
  rw[List.take_add_one,h,List.flatMap_append];simp
theorem take_pair_le {fs:List Fd} {t:T} (j:Nat):(((unksW fs t).take j).flatMap pairW).length≤((unksW fs t).flatMap pairW).length:=by
  conv=>rhs;rw[← List.take_append_drop j (unksW fs t),List.flatMap_append,List.length_append]
  omega
set_option maxHeartbeats 8000000 in
theorem part_m {P:Program} {f:FuncId} {fn:Func} {T3 T4 T22 T24 T26 T29 T45 T58 T60 T73:TypeId} {f47 f48 f49 f50 f51 f52 f53 f54:FuncId} {a0:Array TypeId} {a1:Array TypeId} {a2:Array TypeId} {a3:Array TypeId} {a4:Array TypeId} {a5:Array TypeId} {a6:Array TypeId} {a7:Array TypeId} {a8:Array TypeId} {a9:Array TypeId} {a10:Array TypeId} {a11:Array TypeId} {a12:Array TypeId} {a13:Array TypeId} {a14:Array TypeId} {i0 i1 i2 i3 i4 i5 i6 i7 i8 i9 i10 i11 i12 i13 i14 i15 i16 i17 i18 i19 i20 i21 i22 i23 i24 i25 i26 i27 i28 i29 i30:Nat} {t0 t1 t2 t3 t4 t5 t6 t7 t8 t9 t10 t11 t12 t13 t14 t15 t16 t17 t18 t19 t20 t21 t22 t23 t24 t25 t26 t27 t28 t29 t30 t31 t32 t33 t34 t35 t36 t37 t38 t39 t40 t41 t42 t43 t44 t45 t46 t47 t48 t49 t50 t51 t52 t53 t54 t55 t56 t57 t58 t59 t60 t61 t62 t63 t64 t65 t66 t67 t68 t69 t70 t71 t72 t73 t74 t75 t76 t77 t78 t79 t80 t81 t82 t83 t84 t85 t86 t87 t88 t89 t90 t91 t92 t93 t94 t95 t96 t97 t98 t99 t100 t101 t102 t103 t104 t105 t106 t107 t108 t109 t110 t111 t112 t113 t114 t115 t116 t117 t118 t119 t120 t121 t122 t123 t124 t125 t126 t127 t128 t129 t130 t131 t132 t133 t134 t135 t136 t137:TypeId} {p0 p1 p2 p3 p4 p5 p6 p7 p8 p9 p10 p11 p12 p13 p14 p15 p16 p17 p18 p19 p20 p21 p22 p23 p24 p25 p26 p27 p28 p29 p30 p31 p32 p33 p34 p35 p36 p37 p38 p39 p40 p41 p42 p43 p44 p45 p46 p47 p48 p49 p50 p51 p52 p53 p54 p55 p56 p57 p58 p59 p60 p61 p62 p63 p64 p65 p66 p67 p68 p69 p70 p71 p72 p73 p74 p75 p76 p77 p78 p79 p80 p81 p82 p83 p84 p85 p86 p87 p88 p89 p90 p91 p92 p93 p94 p95 p96 p97 p98 p99 p100 p101 p102 p103 p104 p105 p106 p107 p108 p109 p110 p111 p112 p113 p114 p115 p116 p117 p118 p119 p120 p121 p122 p123 p124 p125 p126 p127 p128 p129 p130 p131 p132 p133 p134 p135 p136 p137:String} {e0 e1 e2 e3 e4 e5 e6 e7 e8 e9 e10 e11 e12 e13 e14 e15 e16 e17 e18 e19 e20 e21 e22 e23 e24 e25 e26 e27 e28 e29 e30 e31 e32 e33 e34 e35 e36 e37 e38 e39 e40 e41 e42 e43 e44 e45 e46 e47 e48 e49 e50 e51 e52 e53 e54 e55 e56 e57 e58 e59 e60 e61 e62 e63 e64 e65 e66 e67 e68 e69 e70 e71 e72 e73 e74 e75 e76 e77 e78 e79 e80 e81 e82 e83 e84 e85 e86 e87 e88 e89 e90 e91 e92 e93 e94 e95 e96 e97 e98 e99 e100 e101 e102 e103 e104 e105 e106 e107 e108 e109 e110 e111 e112 e113 e114 e115 e116 e117 e118 e119 e120 e121 e122 e123 e124 e125 e126 e127 e128 e129 e130 e131 e132 e133 e134 e135 e136 e137:Array Edge} {te te8 teT:TypeId} {tb:Nat} {fs:List Fd}
    (hf:P.funcs[f]?=some fn) (hname:(fn.name == "runtime.NumGoroutine")=false) (hres:fn.results = #[.tmp 8]) (hN:fn.ntmps=132)
    (hbody:fn.body=some (.seq (Code.region i0 ⟨[⟨some 7,.box T26 (.tmp 3),t0,p0,e0,none⟩,
    ⟨some 8,.assign (.const (.slice none 0 0)),t1,p1,e1,none⟩]⟩ false)
  (.seq (Code.region i1 ⟨[⟨some 9,.assign (.const (.slice none 0 0)),t2,p2,e2,none⟩,
    ⟨some 10,.assign (.const (.slice none 0 0)),t3,p3,e3,none⟩]⟩ false)
  (.seq (Code.region i2 ⟨[⟨some 11,.assign (.const (.int .i64 0)),t4,p4,e4,none⟩]⟩ false)
  (.seq (.seq (Code.region i3 ⟨[⟨some 21,.move (.tmp 0),t5,p5,e5,none⟩,
    ⟨some 22,.call ⟨.builtin .len,#[(.tmp 21)],#[T29]⟩,t6,p6,e6,none⟩,
    ⟨some 23,.move (.const (.int .i64 0)),t7,p7,e7,none⟩]⟩ false)
  (.block 0 (.loop (.seq (Code.region i4 ⟨[⟨some 24,.binOp .lss T3 (.tmp 23) (.tmp 22) T3,t8,p8,e8,none⟩]⟩ false)
  (.seq (.cond (.tmp 24) .skip
  (.exit 0))
  (.seq (.block 1 (.seq (Code.region i5 ⟨[⟨some 25,.move (.tmp 23),t9,p9,e9,none⟩,
    ⟨some 26,.indexAddr T29 (.tmp 21) (.tmp 23),t10,p10,e10,none⟩,
    ⟨some 27,.load T45 (.tmp 26),t11,p11,e11,none⟩,
    ⟨some 13,.alloc T45,t12,p12,e12,none⟩,
    ⟨some 12,.assign (.tmp 25),t13,p13,e13,none⟩,
    ⟨none,.store T45 (.tmp 13) (.tmp 27),t14,p14,e14,none⟩]⟩ false)
  (.seq (Code.region i6 ⟨[⟨some 28,.fieldAddr T45 (.tmp 13) 4,t15,p15,e15,none⟩,
    ⟨some 29,.load T3 (.tmp 28),t16,p16,e16,none⟩,
    ⟨some 30,.binOp .lss T3 (.tmp 29) (.const (.int .i64 0)) T3,t17,p17,e17,none⟩,
    ⟨some 31,.move (.tmp 30),t18,p18,e18,none⟩,
    ⟨some 32,.load T45 (.tmp 13),t19,p19,e19,some (3,true)⟩,
    ⟨some 33,.move (.tmp 1),t20,p20,e20,some (3,true)⟩,
    ⟨some 34,.call ⟨.value (.func f47),#[(.tmp 32),(.tmp 33)],a0⟩,t21,p21,e21,some (3,true)⟩,
    ⟨some 35,.pick (.tmp 31) (.tmp 34) (.const (.bool false)),t22,p22,e22,none⟩]⟩ false)
  (.cond (.tmp 35) (Code.region i7 ⟨[⟨some 36,.move (.tmp 9),t23,p23,e23,none⟩,
    ⟨some 37,.load T45 (.tmp 13),t24,p24,e24,none⟩,
    ⟨some 38,.move (.tmp 1),t25,p25,e25,none⟩,
    ⟨some 39,.move (.tmp 2),t26,p26,e26,none⟩,
    ⟨some 40,.load T26 (.tmp 7),t27,p27,e27,none⟩,
    ⟨some 41,.move (.tmp 12),t28,p28,e28,none⟩,
    ⟨some 42,.call ⟨.value (.func f49),#[(.tmp 40),(.tmp 41)],a1⟩,t29,p29,e29,none⟩,
    ⟨some 43,.call ⟨.value (.func f48),#[(.tmp 37),(.tmp 38),(.tmp 39),(.tmp 42)],a2⟩,t30,p30,e30,none⟩,
    ⟨some 44,.call ⟨.builtin .append,#[(.tmp 36),(.tmp 43)],#[T22,T22]⟩,t31,p31,e31,none⟩,
    ⟨some 9,.assign (.tmp 44),t32,p32,e32,none⟩]⟩ true)
  .skip))))
  (Code.region i8 ⟨[⟨some 45,.binOp .add T3 (.tmp 23) (.const (.int .i64 1)) T3,t33,p33,e33,none⟩,
    ⟨some 23,.move (.tmp 45),t34,p34,e34,none⟩]⟩ false)))))))
  (.seq (.seq (Code.region i9 ⟨[⟨some 46,.move (.tmp 2),t35,p35,e35,none⟩,
    ⟨some 47,.unOp .not T4 (.tmp 46),t36,p36,e36,none⟩]⟩ false)
  (.cond (.tmp 47) (.seq (Code.region i10 ⟨[⟨some 48,.move (.tmp 9),t37,p37,e37,none⟩,
    ⟨some 8,.assign (.tmp 48),t38,p38,e38,none⟩]⟩ false)
  .ret)
  .skip))
  (.seq (.seq (Code.region i11 ⟨[⟨some 49,.move (.tmp 0),t39,p39,e39,none⟩,
    ⟨some 50,.call ⟨.value (.func f50),#[(.tmp 49)],a3⟩,t40,p40,e40,none⟩,
    ⟨some 51,.convert T58 T3 (.tmp 50),t41,p41,e41,none⟩,
    ⟨some 52,.move (.const (.int .i64 0)),t42,p42,e42,none⟩]⟩ false)
  (.block 2 (.loop (.seq (Code.region i12 ⟨[⟨some 53,.binOp .lss T3 (.tmp 52) (.tmp 51) T3,t43,p43,e43,none⟩]⟩ false)
  (.seq (.cond (.tmp 53) .skip
  (.exit 2))
  (.seq (.block 3 (.seq (Code.region i13 ⟨[⟨some 54,.move (.tmp 52),t44,p44,e44,none⟩,
    ⟨some 14,.assign (.tmp 54),t45,p45,e45,none⟩]⟩ false)
  (.seq (Code.region i14 ⟨[⟨some 55,.move (.tmp 0),t46,p46,e46,none⟩,
    ⟨some 56,.call ⟨.builtin .len,#[(.tmp 55)],#[T29]⟩,t47,p47,e47,none⟩,
    ⟨some 57,.move (.const (.int .i64 0)),t48,p48,e48,none⟩]⟩ false)
  (.block 4 (.loop (.seq (Code.region i15 ⟨[⟨some 58,.binOp .lss T3 (.tmp 57) (.tmp 56) T3,t49,p49,e49,none⟩]⟩ false)
  (.seq (.cond (.tmp 58) .skip
  (.exit 4))
  (.seq (.block 5 (.seq (Code.region i16 ⟨[⟨some 59,.move (.tmp 57),t50,p50,e50,none⟩,
    ⟨some 60,.indexAddr T29 (.tmp 55) (.tmp 57),t51,p51,e51,none⟩,
    ⟨some 61,.load T45 (.tmp 60),t52,p52,e52,none⟩,
    ⟨some 16,.alloc T45,t53,p53,e53,none⟩,
    ⟨some 15,.assign (.tmp 59),t54,p54,e54,none⟩,
    ⟨none,.store T45 (.tmp 16) (.tmp 61),t55,p55,e55,none⟩]⟩ false)
  (.seq (Code.region i17 ⟨[⟨some 62,.fieldAddr T45 (.tmp 16) 4,t56,p56,e56,none⟩,
    ⟨some 63,.load T3 (.tmp 62),t57,p57,e57,none⟩,
    ⟨some 64,.move (.tmp 14),t58,p58,e58,none⟩,
    ⟨some 65,.binOp .eql T3 (.tmp 63) (.tmp 64) T3,t59,p59,e59,none⟩,
    ⟨some 66,.move (.tmp 65),t60,p60,e60,none⟩,
    ⟨some 67,.load T45 (.tmp 16),t61,p61,e61,some (4,true)⟩,
    ⟨some 68,.load T26 (.tmp 7),t62,p62,e62,some (4,true)⟩,
    ⟨some 69,.move (.tmp 15),t63,p63,e63,some (4,true)⟩,
    ⟨some 70,.call ⟨.value (.func f49),#[(.tmp 68),(.tmp 69)],a4⟩,t64,p64,e64,some (4,true)⟩,
    ⟨some 71,.call ⟨.value (.func f51),#[(.tmp 67),(.tmp 70)],a5⟩,t65,p65,e65,some (4,true)⟩,
    ⟨some 72,.unOp .not T4 (.tmp 71),t66,p66,e66,some (4,true)⟩,
    ⟨some 73,.pick (.tmp 66) (.tmp 72) (.const (.bool false)),t67,p67,e67,none⟩]⟩ true)
  (.cond (.tmp 73) (.seq (Code.region i18 ⟨[⟨some 74,.load T45 (.tmp 16),t68,p68,e68,none⟩,
    ⟨some 75,.move (.tmp 1),t69,p69,e69,none⟩,
    ⟨some 76,.move (.tmp 2),t70,p70,e70,none⟩,
    ⟨some 77,.load T26 (.tmp 7),t71,p71,e71,none⟩,
    ⟨some 78,.move (.tmp 15),t72,p72,e72,none⟩,
    ⟨some 79,.call ⟨.value (.func f49),#[(.tmp 77),(.tmp 78)],a6⟩,t73,p73,e73,none⟩,
    ⟨some 80,.call ⟨.value (.func f48),#[(.tmp 74),(.tmp 75),(.tmp 76),(.tmp 79)],a7⟩,t74,p74,e74,none⟩,
    ⟨some 17,.assign (.tmp 80),t75,p75,e75,none⟩]⟩ true)
  (.seq (Code.region i19 ⟨[⟨some 81,.move (.tmp 10),t76,p76,e76,none⟩,
    ⟨some 82,.move (.tmp 14),t77,p77,e77,none⟩,
    ⟨some 83,.convert T3 T73 (.tmp 82),t78,p78,e78,none⟩,
    ⟨some 84,.call ⟨.value (.func f52),#[(.tmp 83)],a8⟩,t79,p79,e79,none⟩,
    ⟨some 85,.call ⟨.builtin .append,#[(.tmp 81),(.tmp 84)],#[T22,T22]⟩,t80,p80,e80,none⟩,
    ⟨some 86,.move (.tmp 17),t81,p81,e81,none⟩,
    ⟨some 87,.call ⟨.builtin .len,#[(.tmp 86)],#[T22]⟩,t82,p82,e82,none⟩,
    ⟨some 88,.convert T3 T73 (.tmp 87),t83,p83,e83,none⟩,
    ⟨some 89,.call ⟨.value (.func f52),#[(.tmp 88)],a9⟩,t84,p84,e84,none⟩,
    ⟨some 90,.call ⟨.builtin .append,#[(.tmp 85),(.tmp 89)],#[T22,T22]⟩,t85,p85,e85,none⟩,
    ⟨some 91,.move (.tmp 17),t86,p86,e86,none⟩,
    ⟨some 92,.call ⟨.builtin .append,#[(.tmp 90),(.tmp 91)],#[T22,T22]⟩,t87,p87,e87,none⟩,
    ⟨some 10,.assign (.tmp 92),t88,p88,e88,none⟩]⟩ false)
  (Code.region i20 ⟨[⟨some 93,.move (.tmp 11),t89,p89,e89,none⟩,
    ⟨some 94,.binOp .add T3 (.tmp 93) (.const (.int .i64 1)) T3,t90,p90,e90,none⟩,
    ⟨some 11,.assign (.tmp 94),t91,p91,e91,none⟩]⟩ false)))
  .skip))))
  (Code.region i21 ⟨[⟨some 95,.binOp .add T3 (.tmp 57) (.const (.int .i64 1)) T3,t92,p92,e92,none⟩,
    ⟨some 57,.move (.tmp 95),t93,p93,e93,none⟩]⟩ false)))))))))
  (Code.region i22 ⟨[⟨some 96,.binOp .add T3 (.tmp 52) (.const (.int .i64 1)) T3,t94,p94,e94,none⟩,
    ⟨some 52,.move (.tmp 96),t95,p95,e95,none⟩]⟩ false)))))))
  (.seq (.seq (Code.region i23 ⟨[⟨some 97,.move (.tmp 0),t96,p96,e96,none⟩,
    ⟨some 98,.fieldAddr T26 (.tmp 7) 4,t97,p97,e97,none⟩,
    ⟨some 99,.load T24 (.tmp 98),t98,p98,e98,none⟩,
    ⟨some 100,.call ⟨.value (.func f53),#[(.tmp 97),(.tmp 99)],a10⟩,t99,p99,e99,none⟩,
    ⟨some 101,.call ⟨.builtin .len,#[(.tmp 100)],#[T24]⟩,t100,p100,e100,none⟩,
    ⟨some 102,.move (.const (.int .i64 0)),t101,p101,e101,none⟩]⟩ false)
  (.block 6 (.loop (.seq (Code.region i24 ⟨[⟨some 103,.binOp .lss T3 (.tmp 102) (.tmp 101) T3,t102,p102,e102,none⟩]⟩ false)
  (.seq (.cond (.tmp 103) .skip
  (.exit 6))
  (.seq (.block 7 (.seq (Code.region i25 ⟨[⟨some 104,.indexAddr T24 (.tmp 100) (.tmp 102),t103,p103,e103,none⟩,
    ⟨some 105,.load T60 (.tmp 104),t104,p104,e104,none⟩,
    ⟨some 19,.alloc T60,t105,p105,e105,none⟩,
    ⟨none,.store T60 (.tmp 19) (.tmp 105),t106,p106,e106,none⟩]⟩ false)
  (.seq (Code.region i26 ⟨[⟨some 106,.fieldAddr T60 (.tmp 19) 1,t107,p107,e107,none⟩,
    ⟨some 107,.load T22 (.tmp 106),t108,p108,e108,none⟩,
    ⟨some 108,.call ⟨.value (.func f54),#[(.tmp 107)],a11⟩,t109,p109,e109,none⟩,
    ⟨some 20,.assign (.tmp 108),t110,p110,e110,none⟩]⟩ false)
  (.seq (Code.region i27 ⟨[⟨some 109,.move (.tmp 10),t111,p111,e111,none⟩,
    ⟨some 110,.fieldAddr T60 (.tmp 19) 0,t112,p112,e112,none⟩,
    ⟨some 111,.load T58 (.tmp 110),t113,p113,e113,none⟩,
    ⟨some 112,.convert T58 T73 (.tmp 111),t114,p114,e114,none⟩,
    ⟨some 113,.call ⟨.value (.func f52),#[(.tmp 112)],a12⟩,t115,p115,e115,none⟩,
    ⟨some 114,.call ⟨.builtin .append,#[(.tmp 109),(.tmp 113)],#[T22,T22]⟩,t116,p116,e116,none⟩,
    ⟨some 115,.move (.tmp 20),t117,p117,e117,none⟩,
    ⟨some 116,.call ⟨.builtin .len,#[(.tmp 115)],#[T22]⟩,t118,p118,e118,none⟩,
    ⟨some 117,.convert T3 T73 (.tmp 116),t119,p119,e119,none⟩,
    ⟨some 118,.call ⟨.value (.func f52),#[(.tmp 117)],a13⟩,t120,p120,e120,none⟩,
    ⟨some 119,.call ⟨.builtin .append,#[(.tmp 114),(.tmp 118)],#[T22,T22]⟩,t121,p121,e121,none⟩,
    ⟨some 120,.move (.tmp 20),t122,p122,e122,none⟩,
    ⟨some 121,.call ⟨.builtin .append,#[(.tmp 119),(.tmp 120)],#[T22,T22]⟩,t123,p123,e123,none⟩,
    ⟨some 10,.assign (.tmp 121),t124,p124,e124,none⟩]⟩ false)
  (Code.region i28 ⟨[⟨some 122,.move (.tmp 11),t125,p125,e125,none⟩,
    ⟨some 123,.binOp .add T3 (.tmp 122) (.const (.int .i64 1)) T3,t126,p126,e126,none⟩,
    ⟨some 11,.assign (.tmp 123),t127,p127,e127,none⟩]⟩ false)))))
  (Code.region i29 ⟨[⟨some 124,.binOp .add T3 (.tmp 102) (.const (.int .i64 1)) T3,t128,p128,e128,none⟩,
    ⟨some 102,.move (.tmp 124),t129,p129,e129,none⟩]⟩ false)))))))
  (.seq (Code.region i30 ⟨[⟨some 125,.move (.tmp 9),t130,p130,e130,none⟩,
    ⟨some 126,.move (.tmp 11),t131,p131,e131,none⟩,
    ⟨some 127,.convert T3 T73 (.tmp 126),t132,p132,e132,none⟩,
    ⟨some 128,.call ⟨.value (.func f52),#[(.tmp 127)],a14⟩,t133,p133,e133,none⟩,
    ⟨some 129,.call ⟨.builtin .append,#[(.tmp 125),(.tmp 128)],#[T22,T22]⟩,t134,p134,e134,none⟩,
    ⟨some 130,.move (.tmp 10),t135,p135,e135,none⟩,
    ⟨some 131,.call ⟨.builtin .append,#[(.tmp 129),(.tmp 130)],#[T22,T22]⟩,t136,p136,e136,none⟩,
    ⟨some 8,.assign (.tmp 131),t137,p137,e137,none⟩]⟩ false)
  .ret)))))))))
    (hs_T22:sliceOf P T22 te 1 1=true) (hz_T22:zeroIs P te [.int .u8 0]) (hsT29:slTy P T29=true) (hs_T29:sliceOf P T29 te8 8 tb=true) (hFlT45:Flat P T45 zF) (hcT3:scal P T3=true) (hFlT26:Flat P T26 zT) (he7:edgeOk 0 [e23,e24,e25,e26,e27,e28,e29,e30,e31,e32] [[],[],[],[],[],[],[4,5],[1,2,3,6],[0,1,2,3,4,5,6,7],[0,1,2,3,4,5,6,7,8]]=true) (hmx:P.follows .mixedOrders=true) (hT58_u32:intOf P T58 .u32=true) (hT3_i64:intOf P T3 .i64=true) (hcT24:scal P T24=true) (hsT24:slTy P T24=true) (hs_T24:sliceOf P T24 teT 2 32=true) (hFlT60:Flat P T60 zTag) (hcT22:scal P T22=true) (hcT58:scal P T58=true) (hT73_u64:intOf P T73 .u64=true) (hsT22:slTy P T22=true) (hfree:∀ f ∈ fs,f.tag < 0) (hFi:∀ fd ∈ fs,FieldM P f48 fd (fieldW fd)) (hHa:HasM P f47) (hAt:AtM P f49) (hKn:KnownM P f50) (hUn:UnkM P f53) (hWh:WholeM P f54) (hUv:UvWM P f52):PartM P f fs (partW fs):=by
  refine ⟨enters_of hf hname hbody,?_⟩
  intro w A B v ver flex ct t hfs ht hA hB hlen
  cases t with
  | mk n s nl l u =>
  have ht0:=ht
  obtain ⟨sv,lv,uv,rfl,hn,hs,hl,hu⟩:=repT_iff.1 ht
  obtain ⟨encs,hencs⟩:∃ x,x=fieldsW fs ver flex l 0:=⟨_,rfl⟩
  obtain ⟨q,cap,hv,hbig,hk⟩:=hfs.slice
  subst hv
  have hkn0:knownW fs=0:=knownW_free hfree
  have htg:∀ f ∈ fs,f.tag < 4294967295:=fun f hf=>by have:=hfree f hf;omega
  have hPW:partW fs ver flex (.mk n s nl l u)=if flex then bodyW fs ver encs fs.length++(uvW (unksW fs (.mk n s nl l u)).length++(unksW fs (.mk n s nl l u)).flatMap pairW) else bodyW fs ver encs fs.length:=by rw[hencs];exact partW_free hkn0 ver flex (.mk n s nl l u)
  rw[hPW] at hlen
  have hb0:(bodyW fs ver encs fs.length).length≤4294967296:=by
    split at hlen
    · simp only[List.length_append] at hlen;omega
    · exact hlen
  refine calls_of_wp hf hbody ?_
  generalize ha0:({ tmps:=#[Value.slice q fs.length cap,Value.int .i64 ver,Value.bool flex,Value.agg ([.int .i64 n,sv,.bool nl,lv,uv]:List Value).toArray]++Array.replicate (fn.ntmps - (#[Value.slice q fs.length cap,Value.int .i64 ver,Value.bool flex,Value.agg ([.int .i64 n,sv,.bool nl,lv,uv]:List Value).toArray]:Array Value).size) undef,defers:=[] }:Act)=a0
  have hz0:a0.tmps.size=132:=by subst ha0;simp[hN]
  have hd0:a0.defers=[]:=by subst ha0;rfl
  have g0_0:get a0 0 = .slice q fs.length cap:=by subst ha0;exact gAr rfl
  have g0_1:get a0 1 = .int .i64 ver:=by subst ha0;exact gAr rfl
  have g0_2:get a0 2 = .bool flex:=by subst ha0;exact gAr rfl
  have g0_3:get a0 3 = .agg ([.int .i64 n,sv,.bool nl,lv,uv]:List Value).toArray:=by subst ha0;exact gAr rfl
  refine wT fun K1 hK1=>?_
  refine wC (wp_boxL (cs:=[.int .i64 n,sv,.bool nl,lv,uv]) (eK g0_3) ?_)
  rintro w2 f2 sz2 r2 th2
  have hF3:Fr [] w w2:=f2
  refine wC (wAs (v:=.slice none 0 0) rfl ?_)
  refine wEn fun a4 ha4=>?_
  have hz4:=kS ha4 hz0
  have hd4:=kD ha4 hd0
  have g4_0:=kP ha4 g0_0
  have g4_1:=kP ha4 g0_1
  have g4_2:=kP ha4 g0_2
  have g4_3:=kP ha4 g0_3
  have g4_7:get a4 7 = .pointer (some ⟨w.heap.size,0,none⟩):=kG ha4 hz0
  have g4_8:get a4 8 = .slice none 0 0:=kG ha4 hz0
  refine hK1 a4 w2 (tUp ?_)
  refine tId (wp_seq_k fun K5 hK5=>?_)
  have hS0:w.heap.size+1≤w2.heap.size:=by omega
  refine wp_reg ?_
  refine wC (wAs (v:=.slice none 0 0) rfl ?_)
  refine wC (wAs (v:=.slice none 0 0) rfl ?_)
  refine wEn fun a6 ha6=>?_
  have hz6:=kS ha6 hz4
  have hd6:=kD ha6 hd4
  have g6_0:=kP ha6 g4_0
  have g6_1:=kP ha6 g4_1
  have g6_2:=kP ha6 g4_2
  have g6_3:=kP ha6 g4_3
  have g6_7:=kP ha6 g4_7
  have g6_8:=kP ha6 g4_8
  have g6_9:get a6 9 = .slice none 0 0:=kG ha6 hz4
  have g6_10:get a6 10 = .slice none 0 0:=kG ha6 hz4
  refine hK5 a6 w2 (tUp ?_)
  refine wT fun K7 hK7=>?_
  refine wC (wAs (v:=.int .i64 0) rfl ?_)
  refine wEn fun a8 ha8=>?_
  have hz8:=kS ha8 hz6
  have hd8:=kD ha8 hd6
  have g8_0:=kP ha8 g6_0
  have g8_1:=kP ha8 g6_1
  have g8_2:=kP ha8 g6_2
  have g8_3:=kP ha8 g6_3
  have g8_7:=kP ha8 g6_7
  have g8_8:=kP ha8 g6_8
  have g8_9:=kP ha8 g6_9
  have g8_10:=kP ha8 g6_10
  have g8_11:get a8 11 = .int .i64 0:=kG ha8 hz6
  refine hK7 a8 w2 (tUp ?_)
  refine tId (wp_seq_k fun K9 hK9=>?_)
  refine wS fun K10 hK10=>?_
  refine wC (wMv (v:=.slice q fs.length cap) (eK g8_0) ?_)
  refine wC (wp_lenS (n:=fs.length) hsT29 (eS hz8) ?_)
  refine wC (wMv (v:=.int .i64 0) rfl ?_)
  refine wEn fun a11 ha11=>?_
  have hz11:=kS ha11 hz8
  have hd11:=kD ha11 hd8
  have g11_0:=kP ha11 g8_0
  have g11_1:=kP ha11 g8_1
  have g11_2:=kP ha11 g8_2
  have g11_3:=kP ha11 g8_3
  have g11_7:=kP ha11 g8_7
  have g11_8:=kP ha11 g8_8
  have g11_9:=kP ha11 g8_9
  have g11_10:=kP ha11 g8_10
  have g11_11:=kP ha11 g8_11
  have g11_21:get a11 21 = .slice q fs.length cap:=kG ha11 hz8
  have g11_22:get a11 22 = .int .i64 ((fs.length:Nat):Int):=kG ha11 hz8
  have g11_23:get a11 23 = .int .i64 0:=kG ha11 hz8
  refine hK10 a11 w2 ?_
  refine wp_block (wp_loop_ghost (fun (m:Nat) a' w'=>∃ (j:Nat) (v9:Value),a'.tmps.size=132∧a'.defers=[]∧get a' 0 = .slice q fs.length cap∧get a' 1 = .int .i64 ver∧get a' 2 = .bool flex∧get a' 3 = .agg ([.int .i64 n,sv,.bool nl,lv,uv]:List Value).toArray∧get a' 7 = .pointer (some ⟨w.heap.size,0,none⟩)∧get a' 8 = .slice none 0 0∧get a' 9=v9∧get a' 10 = .slice none 0 0∧get a' 11 = .int .i64 0∧get a' 21 = .slice q fs.length cap∧get a' 22 = .int .i64 ((fs.length:Nat):Int)∧get a' 23 = .int .i64 (j:Int)∧j+m=fs.length∧Own w' (From w2.heap.size w') 1 v9 (bodyW fs ver encs j).length (octets (bodyW fs ver encs j))∧w'.rangeAt w.heap.size 0 [.int .i64 n,sv,.bool nl,lv,uv]∧Fr [] w w'∧w2.heap.size≤w'.heap.size) fs.length ?_ ?_)
  · exact ⟨0,.slice none 0 0,hz11,hd11,g11_0,g11_1,g11_2,g11_3,g11_7,g11_8,g11_9,g11_10,g11_11,g11_21,g11_22,g11_23,by omega,Own.nil,r2,hF3,(Fr.refl [] w2).size⟩
  · rintro m a12 w12 ⟨j, v9, hz12, hd12, g12_0, g12_1, g12_2, g12_3, g12_7, g12_8, g12_9, g12_10, g12_11, g12_21, g12_22, g12_23, hjm, ho, hbl, hfl, hSl⟩
    refine wS fun K13 hK13=>?_
    refine wC (wp_lss (k1:=.i64) (i:=(j:Int)) (j:=((fs.length:Nat):Int)) (eK g12_23) (eK g12_22) ?_)
    refine wEn fun a14 ha14=>?_
    have hz14:=kS ha14 hz12
    have hd14:=kD ha14 hd12
    have g14_0:=kP ha14 g12_0
    have g14_1:=kP ha14 g12_1
    have g14_2:=kP ha14 g12_2
    have g14_3:=kP ha14 g12_3
    have g14_7:=kP ha14 g12_7
    have g14_8:=kP ha14 g12_8
    have g14_9:=kP ha14 g12_9
    have g14_10:=kP ha14 g12_10
    have g14_11:=kP ha14 g12_11
    have g14_21:=kP ha14 g12_21
    have g14_22:=kP ha14 g12_22
    have g14_23:=kP ha14 g12_23
    have g14_24:get a14 24 = .bool (decide (((j:Int):Int) < (((fs.length:Nat):Int):Int))):=kG ha14 hz12
    refine hK13 a14 w12 ?_
    refine wp_seq_k fun K15 hK15=>?_
    refine wp_cond_split (t:=decide (((j:Int):Int) < (((fs.length:Nat):Int):Int))) (eK g14_24) (fun hc16=>?_) (fun hc16=>?_)
    · have hjl : j < fs.length := by simpa using hc16
      obtain ⟨fd,hfd⟩:∃ fd,fs[j]?=some fd:=⟨fs[j],by simp[hjl]⟩
      obtain ⟨bl,ol,cl,hq,hbl2,hrl,hrep⟩:=hk j fd hfd
      obtain ⟨fsv,rfl,hsub⟩:=repF_iff.1 hrep
      have hft:=hfree fd (List.mem_of_getElem? hfd)
      have hFm:=hFi fd (List.mem_of_getElem? hfd)
      have hbs:=bodyW_succ (ver:=ver) (encs:=encs) hfd hft
      have hble:=bodyW_le (ver:=ver) (encs:=encs) (fs:=fs) (n:=j+1) (m:=fs.length) (by omega)
      have henc:encs.getD j []=fieldW fd ver flex (atT l j):=by rw[hencs,fieldsW_at fs ver flex l 0 j fd hfd,Nat.zero_add]
      rw[henc] at hbs
      refine wp_skip ?_
      refine hK15 a14 w12 ?_
      refine wp_seq_k fun K17 hK17=>?_
      refine wp_blockT ?_
      refine wS fun K18 hK18=>?_
      refine wC (wMv (v:=.int .i64 (j:Int)) (eK g14_23) ?_)
      refine wC (wp_ixN (b:=bl) (o:=ol) (i:=j) hs_T29 (by rw[eTm,nZ (by decide),g14_21,hq]) (eK g14_23) hjl ?_)
      refine wC (wp_loadFlat (cs:=[.int .i64 fd.kind,.int .i64 fd.fr,.int .i64 fd.to,.int .i64 fd.nul,.int .i64 fd.tag,.int .i64 fd.df,.int .i64 fd.of,fsv]) (b:=bl) (o:=ol+j * 8) hFlT45 rfl (eS hz14) (hfl.range hrl .nil) ?_)
      refine wC (wp_allocL hFlT45 ?_)
      rintro w19 f19 sz19 r19 th19
      have hF20:Fr [] w w19:=hfl.tr f19
      have hL20_w12:Fr [] w12 w19:=(Fr.refl [] w12).tr f19
      have rb21:=f19.range hbl .nil
      refine wC (wAs (v:=.int .i64 (j:Int)) (eS hz14) ?_)
      refine wC (wp_storeL (cs:=[.int .i64 fd.kind,.int .i64 fd.fr,.int .i64 fd.to,.int .i64 fd.nul,.int .i64 fd.tag,.int .i64 fd.df,.int .i64 fd.of,fsv]) (o:=0) hFlT45 rfl (eS hz14) (eS hz14) (by intro u hu;simp at hu;rcases hu with rfl | rfl | rfl | rfl | rfl | rfl | rfl | rfl <;> first | rfl | exact hsub.one) th19 ?_)
      rintro w22 f22 sz22 r22 th22
      have hF22:Fr [] w w22:=hF20.trans f22 (fun r hr=>.inl (by simp at hr;subst hr;have:=hfl.size;simp only;omega))
      have rb23:=f22.range rb21 (.cons (.inl (by simp only;omega)) .nil)
      have hL22_w12:Fr [] w12 w22:=hL20_w12.trans f22 (fun r hr=>.inl (by simp at hr;subst hr;have:=(Fr.refl [] w12).size;simp only;omega))
      refine wEn fun a24 ha24=>?_
      have hz24:=kS ha24 hz14
      have hd24:=kD ha24 hd14
      have g24_0:=kP ha24 g14_0
      have g24_1:=kP ha24 g14_1
      have g24_2:=kP ha24 g14_2
      have g24_3:=kP ha24 g14_3
      have g24_7:=kP ha24 g14_7
      have g24_8:=kP ha24 g14_8
      have g24_9:=kP ha24 g14_9
      have g24_10:=kP ha24 g14_10
      have g24_11:=kP ha24 g14_11
      have g24_12:get a24 12 = .int .i64 (j:Int):=kG ha24 hz14
      have g24_13:get a24 13 = .pointer (some ⟨w12.heap.size,0,none⟩):=kG ha24 hz14
      have g24_21:=kP ha24 g14_21
      have g24_22:=kP ha24 g14_22
      have g24_23:=kP ha24 g14_23
      refine hK18 a24 w22 ?_
      refine wp_seq_k fun K25 hK25=>?_
      refine wp_regG ?_
      refine gCn ?_
      refine wFa (b:=w12.heap.size) (i:=0) (hFlT45.fld (by decide)) (eK g24_13) ?_
      rw[show (0+4:Nat)=4 from rfl]
      refine gCn ?_
      refine wL0 (j:=4) (v:=.int .i64 fd.tag) hcT3 (eS hz24) r22 rfl ?_
      refine gCn ?_
      refine wp_lssT (k1:=.i64) (i:=fd.tag) (j:=0) hft (eS hz24) rfl ?_
      refine gCn ?_
      refine wMv (v:=.bool true) (eS hz24) ?_
      refine wg_yes (dj:=31) rfl (lZ hz24) (gS hz24) ?_
      refine wp_loadFlat (cs:=[.int .i64 fd.kind,.int .i64 fd.fr,.int .i64 fd.to,.int .i64 fd.nul,.int .i64 fd.tag,.int .i64 fd.df,.int .i64 fd.of,fsv]) (b:=w12.heap.size) (o:=0) hFlT45 rfl (eK g24_13) r22 ?_
      refine wg_yes (dj:=31) rfl (lZ hz24) (gS hz24) ?_
      refine wMv (v:=.int .i64 ver) (eK g24_1) ?_
      refine wg_yes (dj:=31) rfl (lZ hz24) (gS hz24) ?_
      refine wCr (R:=fun x wz=>x = .bool (fd.has ver)∧Fr [] w22 wz) (vs:=#[.agg ([.int .i64 fd.kind,.int .i64 fd.fr,.int .i64 fd.to,.int .i64 fd.nul,.int .i64 fd.tag,.int .i64 fd.df,.int .i64 fd.of,fsv]:List Value).toArray,.int .i64 ver]) hHa.enters (mX2 (eS hz24) (eS hz24)) ((hHa.call w22 A _ fd ver (hrep.kept hF22 (by simp) (fun _ h=>h))).mono (by rintro e w' ⟨rfl,hf⟩;exact ⟨_,rfl,rfl,hf⟩)) ?_
      rintro x26 w26 ⟨rfl,fr26⟩
      have hF27:Fr [] w w26:=hF22.tr fr26
      have hL27_w12:Fr [] w12 w26:=hL22_w12.tr fr26
      have rb28:=fr26.range rb23 .nil
      have rb29:=fr26.range r22 .nil
      refine gCn ?_
      refine wp_pickYes (v:=.bool (fd.has ver)) (eS hz24) (eS hz24) ?_
      refine wg_end fun a30 ha30=>?_
      have hz30:=kS ha30 hz24
      have hd30:=kD ha30 hd24
      have g30_0:=kP ha30 g24_0
      have g30_1:=kP ha30 g24_1
      have g30_2:=kP ha30 g24_2
      have g30_3:=kP ha30 g24_3
      have g30_7:=kP ha30 g24_7
      have g30_8:=kP ha30 g24_8
      have g30_9:=kP ha30 g24_9
      have g30_10:=kP ha30 g24_10
      have g30_11:=kP ha30 g24_11
      have g30_12:=kP ha30 g24_12
      have g30_13:=kP ha30 g24_13
      have g30_21:=kP ha30 g24_21
      have g30_22:=kP ha30 g24_22
      have g30_23:=kP ha30 g24_23
      have g30_35:get a30 35 = .bool (fd.has ver):=kG ha30 hz24
      refine hK25 a30 w26 ?_
      refine wp_cond_split (t:=(fd.has ver)) (eK g30_35) (fun hc31=>?_) (fun hc31=>?_)
      · have hhas : fd.has ver = true := hc31
        refine wp_drawR (os:=[⟨some 36,.move (.tmp 9),t23,p23,e23,none⟩,⟨some 37,.load T45 (.tmp 13),t24,p24,e24,none⟩,⟨some 38,.move (.tmp 1),t25,p25,e25,none⟩,⟨some 39,.move (.tmp 2),t26,p26,e26,none⟩,⟨some 40,.load T26 (.tmp 7),t27,p27,e27,none⟩,⟨some 41,.move (.tmp 12),t28,p28,e28,none⟩,⟨some 42,.call ⟨.value (.func f49),#[(.tmp 40),(.tmp 41)],a1⟩,t29,p29,e29,none⟩,⟨some 43,.call ⟨.value (.func f48),#[(.tmp 37),(.tmp 38),(.tmp 39),(.tmp 42)],a2⟩,t30,p30,e30,none⟩]) (rest:=[⟨some 44,.call ⟨.builtin .append,#[(.tmp 36),(.tmp 43)],#[T22,T22]⟩,t31,p31,e31,none⟩,⟨some 9,.assign (.tmp 44),t32,p32,e32,none⟩]) [spC [] (v9),spC [] (.agg ([.int .i64 fd.kind,.int .i64 fd.fr,.int .i64 fd.to,.int .i64 fd.nul,.int .i64 fd.tag,.int .i64 fd.df,.int .i64 fd.of,fsv]:List Value).toArray),spC [] (.int .i64 ver),spC [] (.bool flex),spC [] (.agg ([.int .i64 n,sv,.bool nl,lv,uv]:List Value).toArray),spC [] (.int .i64 (j:Int)),spR [4,5] (fun x w'=>∃ cs:List Value,x = .agg cs.toArray∧RepT w' B cs (atT l j)),spR [1,2,3,6] (fun x w'=>Own w' (From w26.heap.size w') 1 x (fieldW fd ver flex (atT l j)).length (octets (fieldW fd ver flex (atT l j))))] 36 [] hmx he7 (by simp[shape]) (by simp[plainO]) (by simp[spC,spR]) (by simp;omega) ⟨lCc _ _ _,lCc _ _ _,lCc _ _ _,lCc _ _ _,lCc _ _ _,lCc _ _ _,(fun v w1 w2 f h=>by obtain ⟨cs,h1,h2⟩:=h;exact ⟨cs,h1,h2.kept f (by simp) (fun _ h=>h)⟩),(fun v w1 w2 f h=>h.upTo f (From.mono f.size)),trivial⟩ ?_ ?_
        · refine oCs ?_ ?_
          · refine op_c fun a' w' hk' hf' hd' K' hK' => ?_
            refine wMv (v:=v9) (by rw[eTm,hk'.get 9 (by omega),g30_9]) ?_
            exact hK'
          refine oCs ?_ ?_
          · refine op_c fun a' w' hk' hf' hd' K' hK' => ?_
            refine wp_loadFlat (cs:=[.int .i64 fd.kind,.int .i64 fd.fr,.int .i64 fd.to,.int .i64 fd.nul,.int .i64 fd.tag,.int .i64 fd.df,.int .i64 fd.of,fsv]) (b:=w12.heap.size) (o:=0) hFlT45 rfl (by rw[eTm,hk'.get 13 (by omega),g30_13]) (hf'.range rb29 .nil) ?_
            exact hK'
          refine oCs ?_ ?_
          · refine op_c fun a' w' hk' hf' hd' K' hK' => ?_
            refine wMv (v:=.int .i64 ver) (by rw[eTm,hk'.get 1 (by omega),g30_1]) ?_
            exact hK'
          refine oCs ?_ ?_
          · refine op_c fun a' w' hk' hf' hd' K' hK' => ?_
            refine wMv (v:=.bool flex) (by rw[eTm,hk'.get 2 (by omega),g30_2]) ?_
            exact hK'
          refine oCs ?_ ?_
          · refine op_c fun a' w' hk' hf' hd' K' hK' => ?_
            refine wp_loadFlat (cs:=[.int .i64 n,sv,.bool nl,lv,uv]) (b:=w.heap.size) (o:=0) hFlT26 rfl (by rw[eTm,hk'.get 7 (by omega),g30_7]) (hf'.range rb28 .nil) ?_
            exact hK'
          refine oCs ?_ ?_
          · refine op_c fun a' w' hk' hf' hd' K' hK' => ?_
            refine wMv (v:=.int .i64 (j:Int)) (by rw[eTm,hk'.get 12 (by omega),g30_12]) ?_
            exact hK'
          refine oCs ?_ ?_
          · refine op_r fun a' w' hk' hf' hd' K' hK' => ?_
            refine wCr (R:=fun x wz=>∃ cs:List Value,x = .agg cs.toArray∧Fr [] w' wz∧((∀ b,B b→b < w'.heap.size)→RepT wz B cs (atT l j))) (vs:=#[.agg ([.int .i64 n,sv,.bool nl,lv,uv]:List Value).toArray,.int .i64 (j:Int)]) hAt.enters (by simp only[List.map_toArray,List.map_cons,List.map_nil];rw[show a'.eval (.tmp 40)=Value.agg ([.int .i64 n,sv,.bool nl,lv,uv]:List Value).toArray from (by rw[eTm];exact hd'.c (nd':=[]) 4 (by simp) rfl),show a'.eval (.tmp 41)=Value.int .i64 (j:Int) from (by rw[eTm];exact hd'.c (nd':=[]) 5 (by simp) rfl)]) ((hAt.call w' B _ (.mk n s nl l u) j (ht0.kept (hF27.tr hf') (by simp) (fun _ h=>h))).mono (by rintro e wz ⟨cs,rfl,h1,h2⟩;exact ⟨_,rfl,cs,rfl,h1,h2⟩)) ?_
            rintro _ w32 ⟨cs32,rfl,fr32,hr32⟩
            exact hK' _ w32 ⟨cs32,rfl,hr32 (fun b hb=>Nat.lt_of_lt_of_le (hB b hb) (hF27.tr hf').size)⟩ fr32
          refine oCs ?_ ?_
          · refine op_r fun a' w' hk' hf' hd' K' hK' => ?_
            obtain ⟨ct',hct,hrt'⟩:∃ cs:List Value,get a' 42 = .agg cs.toArray∧RepT w' B cs (atT l j):=hd'.at (d:=6) (by simp) rfl
            refine wCr (R:=fun vz wz=>Fr [] w' wz∧Own wz (From w'.heap.size wz) 1 vz (fieldW fd ver flex (atT l j)).length (octets (fieldW fd ver flex (atT l j)))) (vs:=#[.agg ([.int .i64 fd.kind,.int .i64 fd.fr,.int .i64 fd.to,.int .i64 fd.nul,.int .i64 fd.tag,.int .i64 fd.df,.int .i64 fd.of,fsv]:List Value).toArray,.int .i64 ver,.bool flex,.agg ct'.toArray]) hFm.enters (by simp only[List.map_toArray,List.map_cons,List.map_nil];rw[show a'.eval (.tmp 37)=Value.agg ([.int .i64 fd.kind,.int .i64 fd.fr,.int .i64 fd.to,.int .i64 fd.nul,.int .i64 fd.tag,.int .i64 fd.df,.int .i64 fd.of,fsv]:List Value).toArray from (by rw[eTm];exact hd'.c (nd':=[]) 1 (by simp) rfl),show a'.eval (.tmp 38)=Value.int .i64 ver from (by rw[eTm];exact hd'.c (nd':=[]) 2 (by simp) rfl),show a'.eval (.tmp 39)=Value.bool flex from (by rw[eTm];exact hd'.c (nd':=[]) 3 (by simp) rfl),show a'.eval (.tmp 42)=Value.agg ct'.toArray from (by rw[eTm];exact hct)]) (calls_fresh (hFm.call w' A B ver flex _ ct' (atT l j) (hrep.kept (hF27.tr hf') (by simp) (fun _ h=>h)) hrt' (fun b hb=>Nat.lt_of_lt_of_le (hA b hb) (hF27.tr hf').size) (fun b hb=>Nat.lt_of_lt_of_le (hB b hb) (hF27.tr hf').size) (by rw[hbs,if_pos hhas,List.length_append] at hble;omega))) ?_
            rintro x33 w33 ⟨fr33,ow33⟩
            exact hK' x33 w33 (ow33.from hf'.size) fr33
          exact opsOk_nil
        intro a34 w34 k34 f34 hd_34
        have g34_0:get a34 0 = .slice q fs.length cap:=by rw[k34.get 0 (by omega),g30_0]
        have g34_1:get a34 1 = .int .i64 ver:=by rw[k34.get 1 (by omega),g30_1]
        have g34_2:get a34 2 = .bool flex:=by rw[k34.get 2 (by omega),g30_2]
        have g34_3:get a34 3 = .agg ([.int .i64 n,sv,.bool nl,lv,uv]:List Value).toArray:=by rw[k34.get 3 (by omega),g30_3]
        have g34_7:get a34 7 = .pointer (some ⟨w.heap.size,0,none⟩):=by rw[k34.get 7 (by omega),g30_7]
        have g34_8:get a34 8 = .slice none 0 0:=by rw[k34.get 8 (by omega),g30_8]
        have g34_10:get a34 10 = .slice none 0 0:=by rw[k34.get 10 (by omega),g30_10]
        have g34_11:get a34 11 = .int .i64 0:=by rw[k34.get 11 (by omega),g30_11]
        have g34_21:get a34 21 = .slice q fs.length cap:=by rw[k34.get 21 (by omega),g30_21]
        have g34_22:get a34 22 = .int .i64 ((fs.length:Nat):Int):=by rw[k34.get 22 (by omega),g30_22]
        have g34_23:get a34 23 = .int .i64 (j:Int):=by rw[k34.get 23 (by omega),g30_23]
        have hz34:a34.tmps.size=132:=k34.size.trans hz30
        have hd34:a34.defers=[]:=k34.defers.trans hd30
        have g34_36:get a34 36=v9:=hd_34.c (nd':=[]) 0 (by simp) rfl
        have hF35:Fr [] w w34:=hF27.tr f34
        have hL35_w12:Fr [] w12 w34:=hL27_w12.tr f34
        have rb36:=f34.range rb28 .nil
        have rb37:=f34.range rb29 .nil
        have hv:Own w34 (From w26.heap.size w34) 1 (get a34 43) (fieldW fd ver flex (atT l j)).length (octets (fieldW fd ver flex (atT l j))):=hd_34.at (d:=7) (by simp) rfl
        rw[wCo]
        have ob38:=ho.upTo hL35_w12 (From.mono hL35_w12.size)
        have hSl38:w2.heap.size≤w34.heap.size:=Nat.le_trans hSl hL35_w12.size
        refine wp_appO hs_T22 hz_T22 (eK g34_36) rfl ob38 (hv.octE (by rw[hbs,if_pos hhas,List.length_append] at hble;omega)) (by rw[hbs,if_pos hhas,List.length_append] at hble;omega) ?_
        rintro v38 w38 fa38 oa38 sp38 bk38
        have ho38:=oa38.imp_A (new_or hSl38 fa38.size)
        have hF38:Fr [] w w38:=fr_own hF35 fa38 (ob38.from (s0:=w.heap.size) (by omega)) (fun b hb=>hb.1)
        have rb39:=fa38.range rb36 (fun r hr=>.inl fun e=>by have:=(ob38.spare_in r hr).1;have:=hS0;omega)
        refine wC (wAs (v:=v38) (eS hz34) ?_)
        refine wEn fun a40 ha40=>?_
        have hz40:=kS ha40 hz34
        have hd40:=kD ha40 hd34
        have g40_0:=kP ha40 g34_0
        have g40_1:=kP ha40 g34_1
        have g40_2:=kP ha40 g34_2
        have g40_3:=kP ha40 g34_3
        have g40_7:=kP ha40 g34_7
        have g40_8:=kP ha40 g34_8
        have g40_9:get a40 9=v38:=kG ha40 hz34
        have g40_10:=kP ha40 g34_10
        have g40_11:=kP ha40 g34_11
        have g40_21:=kP ha40 g34_21
        have g40_22:=kP ha40 g34_22
        have g40_23:=kP ha40 g34_23
        have hSN:=Nat.le_trans hSl38 fa38.size
        refine hK17 a40 w38 ?_
        refine wp_reg ?_
        refine wC (wp_add (k1:=.i64) (i:=(j:Int)) (j:=1) (eK g40_23) rfl ?_)
        rw[show (IntKind.i64.wrap (((j:Int):Int)+(1:Int)):Int)=(((j+1:Nat):Int):Int) from by simp only[IntKind.wrap,IntKind.bits,IntKind.signed];simp;omega]
        refine wC (wMv (v:=.int .i64 ((j+1:Nat):Int)) (eS hz40) ?_)
        refine wEn fun a41 ha41=>?_
        have hz41:=kS ha41 hz40
        have hd41:=kD ha41 hd40
        have g41_0:=kP ha41 g40_0
        have g41_1:=kP ha41 g40_1
        have g41_2:=kP ha41 g40_2
        have g41_3:=kP ha41 g40_3
        have g41_7:=kP ha41 g40_7
        have g41_8:=kP ha41 g40_8
        have g41_9:=kP ha41 g40_9
        have g41_10:=kP ha41 g40_10
        have g41_11:=kP ha41 g40_11
        have g41_21:=kP ha41 g40_21
        have g41_22:=kP ha41 g40_22
        have g41_23:get a41 23 = .int .i64 ((j+1:Nat):Int):=kG ha41 hz40
        refine ⟨m - 1,by omega,j+1,_,hz41,hd41,g41_0,g41_1,g41_2,g41_3,g41_7,g41_8,g41_9,g41_10,g41_11,g41_21,g41_22,g41_23,by omega,?_,rb39,hF38,?_⟩
        · rw[hbs,if_pos hhas];exact ho38
        · exact hSN
      · have hhas : fd.has ver = false := hc31
        refine wp_skip ?_
        refine hK17 a30 w26 ?_
        refine wp_reg ?_
        refine wC (wp_add (k1:=.i64) (i:=(j:Int)) (j:=1) (eK g30_23) rfl ?_)
        rw[show (IntKind.i64.wrap (((j:Int):Int)+(1:Int)):Int)=(((j+1:Nat):Int):Int) from by simp only[IntKind.wrap,IntKind.bits,IntKind.signed];simp;omega]
        refine wC (wMv (v:=.int .i64 ((j+1:Nat):Int)) (eS hz30) ?_)
        refine wEn fun a42 ha42=>?_
        have hz42:=kS ha42 hz30
        have hd42:=kD ha42 hd30
        have g42_0:=kP ha42 g30_0
        have g42_1:=kP ha42 g30_1
        have g42_2:=kP ha42 g30_2
        have g42_3:=kP ha42 g30_3
        have g42_7:=kP ha42 g30_7
        have g42_8:=kP ha42 g30_8
        have g42_9:=kP ha42 g30_9
        have g42_10:=kP ha42 g30_10
        have g42_11:=kP ha42 g30_11
        have g42_21:=kP ha42 g30_21
        have g42_22:=kP ha42 g30_22
        have g42_23:get a42 23 = .int .i64 ((j+1:Nat):Int):=kG ha42 hz30
        refine ⟨m - 1,by omega,j+1,_,hz42,hd42,g42_0,g42_1,g42_2,g42_3,g42_7,g42_8,g42_9,g42_10,g42_11,g42_21,g42_22,g42_23,by omega,?_,rb28,hF27,?_⟩
        · rw[hbs,hhas,if_neg (by simp),List.append_nil];exact ho.upTo hL27_w12 (From.mono hL27_w12.size)
        · exact Nat.le_trans hSl hL27_w12.size
    · have hj0 : j = fs.length := by simp at hc16; omega
      rw[hj0] at ho
      refine wp_exit ?_
      show K9 a14 w12
      refine hK9 a14 w12 (tUp ?_)
      refine tId (wp_seq_k fun K43 hK43=>?_)
      refine wS fun K44 hK44=>?_
      refine wC (wMv (v:=.bool flex) (eK g14_2) ?_)
      refine wC (wp_not (b:=flex) (eS hz14) ?_)
      refine wEn fun a45 ha45=>?_
      have hz45:=kS ha45 hz14
      have hd45:=kD ha45 hd14
      have g45_0:=kP ha45 g14_0
      have g45_1:=kP ha45 g14_1
      have g45_2:=kP ha45 g14_2
      have g45_3:=kP ha45 g14_3
      have g45_7:=kP ha45 g14_7
      have g45_8:=kP ha45 g14_8
      have g45_9:=kP ha45 g14_9
      have g45_10:=kP ha45 g14_10
      have g45_11:=kP ha45 g14_11
      have g45_21:=kP ha45 g14_21
      have g45_22:=kP ha45 g14_22
      have g45_23:=kP ha45 g14_23
      have g45_47:get a45 47 = .bool (!flex):=kG ha45 hz14
      refine hK44 a45 w12 ?_
      refine wp_cond_split (t := !flex) (eK g45_47) (fun hc46=>?_) (fun hc46=>?_)
      · have hfx : flex = false := by simpa using hc46
        refine wS fun K47 hK47=>?_
        refine wC (wMv (v:=v9) (eK g45_9) ?_)
        refine wC (wAs (v:=v9) (eS hz45) ?_)
        refine wEn fun a48 ha48=>?_
        have hz48:=kS ha48 hz45
        have hd48:=kD ha48 hd45
        have g48_8:get a48 8=v9:=kG ha48 hz45
        refine hK47 a48 w12 ?_
        refine wp_ret ?_
        rw[hPW,hfx,if_neg (by simp)]
        exact ⟨hd48,_,rIs hres g48_8,_,rfl,hfl,ho.from (by omega)⟩
      · have hfx : flex = true := by simpa using hc46
        refine wp_skip ?_
        refine hK43 a45 w12 (tUp ?_)
        refine tId (wp_seq_k fun K49 hK49=>?_)
        refine wS fun K50 hK50=>?_
        refine wC (wMv (v:=.slice q fs.length cap) (eK g45_0) ?_)
        refine wC (wCr (R:=fun x wz=>x = .int .u32 0∧Fr [] w12 wz) (vs:=#[.slice q fs.length cap]) hKn.enters (mX1 (eS hz45)) ((hKn.call w12 A _ fs (hfs.kept hfl (by simp) (fun _ h=>h)) htg).mono (by rintro e w' ⟨rfl,hf⟩;exact ⟨_,rfl,by rw[hkn0];rfl,hf⟩)) ?_)
        rintro x51 w51 ⟨rfl,fr51⟩
        have hF52:Fr [] w w51:=hfl.tr fr51
        have hL52_w12:Fr [] w12 w51:=(Fr.refl [] w12).tr fr51
        have rb53:=fr51.range hbl .nil
        refine wC (wCv (k1:=.u32) (i:=0) hT58_u32 hT3_i64 (eS hz45) ?_)
        rw[show (IntKind.i64.wrap (0:Int))=(0:Int) from by decide]
        refine wC (wMv (v:=.int .i64 0) rfl ?_)
        refine wEn fun a54 ha54=>?_
        have hz54:=kS ha54 hz45
        have hd54:=kD ha54 hd45
        have g54_0:=kP ha54 g45_0
        have g54_1:=kP ha54 g45_1
        have g54_2:=kP ha54 g45_2
        have g54_3:=kP ha54 g45_3
        have g54_7:=kP ha54 g45_7
        have g54_8:=kP ha54 g45_8
        have g54_9:=kP ha54 g45_9
        have g54_10:=kP ha54 g45_10
        have g54_11:=kP ha54 g45_11
        have g54_21:=kP ha54 g45_21
        have g54_22:=kP ha54 g45_22
        have g54_23:=kP ha54 g45_23
        have g54_51:get a54 51 = .int .i64 0:=kG ha54 hz45
        have g54_52:get a54 52 = .int .i64 0:=kG ha54 hz45
        refine hK50 a54 w51 ?_
        refine wp_block (wp_loop_ghost (fun (m2:Nat) a' w'=>a'.tmps.size=132∧a'.defers=[]∧get a' 0 = .slice q fs.length cap∧get a' 1 = .int .i64 ver∧get a' 2 = .bool flex∧get a' 3 = .agg ([.int .i64 n,sv,.bool nl,lv,uv]:List Value).toArray∧get a' 7 = .pointer (some ⟨w.heap.size,0,none⟩)∧get a' 8 = .slice none 0 0∧get a' 9=v9∧get a' 10 = .slice none 0 0∧get a' 11 = .int .i64 0∧get a' 21 = .slice q fs.length cap∧get a' 22 = .int .i64 ((fs.length:Nat):Int)∧get a' 23 = .int .i64 (j:Int)∧get a' 51 = .int .i64 0∧get a' 52 = .int .i64 0∧Own w' (From w2.heap.size w') 1 v9 (bodyW fs ver encs fs.length).length (octets (bodyW fs ver encs fs.length))∧w'.rangeAt w.heap.size 0 [.int .i64 n,sv,.bool nl,lv,uv]∧Fr [] w w'∧w2.heap.size≤w'.heap.size) 0 ?_ ?_)
        · exact ⟨hz54,hd54,g54_0,g54_1,g54_2,g54_3,g54_7,g54_8,g54_9,g54_10,g54_11,g54_21,g54_22,g54_23,g54_51,g54_52,ho.upTo hL52_w12 (From.mono hL52_w12.size),rb53,hF52,Nat.le_trans hSl hL52_w12.size⟩
        · rintro m2 a55 w55 ⟨hz55, hd55, g55_0, g55_1, g55_2, g55_3, g55_7, g55_8, g55_9, g55_10, g55_11, g55_21, g55_22, g55_23, g55_51, g55_52, ho2, hbl3, hfl2, hSl2⟩
          refine wS fun K56 hK56=>?_
          refine wC (wp_lssF (k1:=.i64) (i:=0) (j:=0) (by decide) (eK g55_52) (eK g55_51) ?_)
          refine wEn fun a57 ha57=>?_
          have hz57:=kS ha57 hz55
          have hd57:=kD ha57 hd55
          have g57_0:=kP ha57 g55_0
          have g57_7:=kP ha57 g55_7
          have g57_9:=kP ha57 g55_9
          have g57_10:=kP ha57 g55_10
          have g57_11:=kP ha57 g55_11
          have g57_53:get a57 53 = .bool false:=kG ha57 hz55
          refine hK56 a57 w55 ?_
          refine wp_seq_k fun K58 hK58=>?_
          refine wp_cond_split (t:=false) (eK g57_53) (fun h=>by cases h) (fun _=>?_)
          refine wp_exit ?_
          show K49 a57 w55
          refine hK49 a57 w55 (tUp ?_)
          refine tId (wp_seq_k fun K60 hK60=>?_)
          refine wS fun K61 hK61=>?_
          refine wC (wMv (v:=.slice q fs.length cap) (eK g57_0) ?_)
          refine wC (wFa (b:=w.heap.size) (i:=0) (hFlT26.fld (by decide)) (eK g57_7) ?_)
          rw[show (0+4:Nat)=4 from rfl]
          refine wC (wL0 (j:=4) (v:=uv) hcT24 (eS hz57) hbl3 rfl ?_)
          refine wC (wCr (R:=fun x wz=>Fr [] w55 wz∧TagsR wz (fun b=>B b∨From w55.heap.size wz b) x (unknownW fs u)) (vs:=#[.slice q fs.length cap,uv]) hUn.enters (mX2 (eS hz57) (eS hz57)) ((hUn.call w55 A B _ fs uv u (hfs.kept hfl2 (by simp) (fun _ h=>h)) htg (hu.kept hfl2 (by simp) (fun _ h=>h)) (fun b hb=>Nat.lt_of_lt_of_le (hB b hb) hfl2.size)).mono (by rintro e wz ⟨x,rfl,h1,h2⟩;exact ⟨x,rfl,h1,h2⟩)) ?_)
          rintro x62 w62 ⟨fr62,hus62⟩
          have hus:=hus62.kept (A':=fun b=>b < w62.heap.size) (Fr.refl [] _) (by simp) (by rintro b (hb | hb);exact Nat.lt_of_lt_of_le (hB b hb) (Nat.le_trans hfl2.size fr62.size);exact hb.2)
          obtain ⟨qu,cu,rfl,-,hub,-⟩:=hus.sl2
          have hF63:Fr [] w w62:=hfl2.tr fr62
          have hL63_w55:Fr [] w55 w62:=(Fr.refl [] w55).tr fr62
          have rb64:=fr62.range hbl3 .nil
          refine wC (wp_lenS (n:=(unknownW fs u).length) hsT24 (eS hz57) ?_)
          refine wC (wMv (v:=.int .i64 0) rfl ?_)
          refine wEn fun a65 ha65=>?_
          have hz65:=kS ha65 hz57
          have hd65:=kD ha65 hd57
          have g65_9:=kP ha65 g57_9
          have g65_10:=kP ha65 g57_10
          have g65_11:=kP ha65 g57_11
          have g65_100:get a65 100 = .slice qu ((unknownW fs u).length) cu:=kG ha65 hz57
          have g65_101:get a65 101 = .int .i64 (((unknownW fs u).length:Nat):Int):=kG ha65 hz57
          have g65_102:get a65 102 = .int .i64 0:=kG ha65 hz57
          have ho4:=ho2.upTo hL63_w55 (From.mono hL63_w55.size)
          have hb4:∀ b,blk v9=some b→b < w62.heap.size:=fun b hb=>(ho4.blk_lt hb).2
          have hS2:w2.heap.size≤w62.heap.size:=Nat.le_trans hSl2 hL63_w55.size
          refine hK61 a65 w62 ?_
          have hul:(unksW fs (.mk n s nl l u)).length=(unknownW fs u).length:=by simp[unksW,T.u]
          have hlenF:(bodyW fs ver encs fs.length).length+(uvW (unksW fs (.mk n s nl l u)).length).length+((unksW fs (.mk n s nl l u)).flatMap pairW).length≤4294967296:=by rw[hfx,if_pos rfl] at hlen;simp only[List.length_append] at hlen;omega
          refine wp_block (wp_loop_ghost (fun (m3:Nat) a' w'=>∃ (j:Nat) (v10:Value),a'.tmps.size=132∧a'.defers=[]∧get a' 9=v9∧get a' 10=v10∧get a' 11 = .int .i64 (j:Int)∧get a' 100 = .slice qu ((unknownW fs u).length) cu∧get a' 101 = .int .i64 (((unknownW fs u).length:Nat):Int)∧get a' 102 = .int .i64 (j:Int)∧j+m3=(unknownW fs u).length∧Own w' (From w2.heap.size w') 1 v9 (bodyW fs ver encs fs.length).length (octets (bodyW fs ver encs fs.length))∧Own w' (From w62.heap.size w') 1 v10 (((unksW fs (.mk n s nl l u)).take j).flatMap pairW).length (octets (((unksW fs (.mk n s nl l u)).take j).flatMap pairW))∧TagsR w' (fun b=>b < w62.heap.size) (.slice qu (unknownW fs u).length cu) (unknownW fs u)∧Fr [] w w'∧w62.heap.size≤w'.heap.size) ((unknownW fs u).length) ?_ ?_)
          · exact ⟨0,.slice none 0 0,hz65,hd65,g65_9,g65_10,g65_11,g65_100,g65_101,g65_102,by omega,ho4,Own.nil,hus,hF63,Nat.le_refl _⟩
          · rintro m3 a66 w66 ⟨j, v10, hz66, hd66, g66_9, g66_10, g66_11, g66_100, g66_101, g66_102, hjm6, ho9, ho10, hus6, hfl6, hSl6⟩
            refine wS fun K67 hK67=>?_
            refine wC (wp_lss (k1:=.i64) (i:=(j:Int)) (j:=(((unknownW fs u).length:Nat):Int)) (eK g66_102) (eK g66_101) ?_)
            refine wEn fun a68 ha68=>?_
            have hz68:=kS ha68 hz66
            have hd68:=kD ha68 hd66
            have g68_9:=kP ha68 g66_9
            have g68_10:=kP ha68 g66_10
            have g68_11:=kP ha68 g66_11
            have g68_100:=kP ha68 g66_100
            have g68_101:=kP ha68 g66_101
            have g68_102:=kP ha68 g66_102
            have g68_103:get a68 103 = .bool (decide (((j:Int):Int) < ((((unknownW fs u).length:Nat):Int):Int))):=kG ha68 hz66
            refine hK67 a68 w66 ?_
            refine wp_seq_k fun K69 hK69=>?_
            refine wp_cond_split (t:=decide (((j:Int):Int) < ((((unknownW fs u).length:Nat):Int):Int))) (eK g68_103) (fun hc70=>?_) (fun hc70=>?_)
            · have hjl : j < (unknownW fs u).length := by simpa using hc70
              obtain ⟨⟨kk,x⟩,hp⟩:∃ p,(unknownW fs u)[j]?=some p:=⟨(unknownW fs u)[j],by simp[hjl]⟩
              obtain ⟨qu',cu',hqe,-,-,hku⟩:=hus6.sl2
              obtain ⟨bl,ol,xv,hq,hbl7,hkk,hrl,hox⟩:=hku j kk x hp
              cases hqe
              have htk:=take_pair (t:=(.mk n s nl l u)) (j:=j) (show (unksW fs (.mk n s nl l u))[j]?=some (kk,wholeS x) from by simp only[unksW,List.getElem?_map,T.u,hp];rfl)
              have hpl:=take_pair_le (fs:=fs) (t:=(.mk n s nl l u)) (j+1)
              rw[htk,List.length_append] at hpl
              have hpw:(pairW (kk,wholeS x)).length=(uvW kk).length+((uvW (wholeS x).length).length+(wholeS x).length):=by simp[pairW]
              refine wp_skip ?_
              refine hK69 a68 w66 ?_
              refine wp_seq_k fun K71 hK71=>?_
              refine wp_blockT ?_
              refine wS fun K72 hK72=>?_
              refine wC (wp_ixN (b:=bl) (o:=ol) (i:=j) hs_T24 (by rw[eTm,g68_100,hq]) (eK g68_102) hjl ?_)
              refine wC (wp_loadFlat (cs:=[.int .u32 ((kk:Nat):Int),xv]) (b:=bl) (o:=ol+j * 2) hFlT60 rfl (eS hz68) ((Fr.refl [] w66).range hrl .nil) ?_)
              refine wC (wp_allocL hFlT60 ?_)
              rintro w73 f73 sz73 r73 th73
              have hF74:Fr [] w w73:=hfl6.tr f73
              have hL74_w66:Fr [] w66 w73:=(Fr.refl [] w66).tr f73
              refine wC (wp_storeL (cs:=[.int .u32 ((kk:Nat):Int),xv]) (o:=0) hFlT60 rfl (eS hz68) (eS hz68) (by intro u hu;simp at hu;rcases hu with rfl | rfl <;> first | rfl | exact hox.one) th73 ?_)
              rintro w75 f75 sz75 r75 th75
              have hF75:Fr [] w w75:=hF74.trans f75 (fun r hr=>.inl (by simp at hr;subst hr;have:=hfl6.size;simp only;omega))
              have hL75_w66:Fr [] w66 w75:=hL74_w66.trans f75 (fun r hr=>.inl (by simp at hr;subst hr;have:=(Fr.refl [] w66).size;simp only;omega))
              refine wEn fun a76 ha76=>?_
              have hz76:=kS ha76 hz68
              have hd76:=kD ha76 hd68
              have g76_9:=kP ha76 g68_9
              have g76_10:=kP ha76 g68_10
              have g76_11:=kP ha76 g68_11
              have g76_19:get a76 19 = .pointer (some ⟨w66.heap.size,0,none⟩):=kG ha76 hz68
              have g76_100:=kP ha76 g68_100
              have g76_101:=kP ha76 g68_101
              have g76_102:=kP ha76 g68_102
              refine hK72 a76 w75 ?_
              refine wS fun K77 hK77=>?_
              refine wC (wFa (b:=w66.heap.size) (i:=0) (hFlT60.fld (by decide)) (eK g76_19) ?_)
              rw[show (0+1:Nat)=1 from rfl]
              refine wC (wL0 (j:=1) (v:=xv) hcT22 (eS hz76) r75 rfl ?_)
              refine wC (wCr (R:=fun y wz=>OctE wz (fun b=>b < w62.heap.size) y (wholeS x)∧w75=wz) (vs:=#[xv]) hWh.enters (mX1 (eS hz76)) ((hWh.call w75 _ xv x (hox.kept hL75_w66 (by simp) (fun _ h=>h))).mono (by rintro e wz ⟨y,rfl,h1,rfl⟩;exact ⟨y,rfl,h1,rfl⟩)) ?_)
              rintro x78 _ ⟨hy,rfl⟩
              obtain ⟨q78,c78,rfl,-,-,-⟩:=hy.slice2
              refine wC (wAs (v:=.slice q78 ((wholeS x).length) c78) (eS hz76) ?_)
              refine wEn fun a79 ha79=>?_
              have hz79:=kS ha79 hz76
              have hd79:=kD ha79 hd76
              have g79_9:=kP ha79 g76_9
              have g79_10:=kP ha79 g76_10
              have g79_11:=kP ha79 g76_11
              have g79_19:=kP ha79 g76_19
              have g79_20:get a79 20 = .slice q78 ((wholeS x).length) c78:=kG ha79 hz76
              have g79_100:=kP ha79 g76_100
              have g79_101:=kP ha79 g76_101
              have g79_102:=kP ha79 g76_102
              refine hK77 a79 w75 ?_
              refine wp_seq_k fun K80 hK80=>?_
              have hoA:=ho10.upTo hL75_w66 (From.mono hL75_w66.size)
              have hSA:=Nat.le_trans hSl6 hL75_w66.size
              have hx9A:=ho9.upTo hL75_w66 (From.mono hL75_w66.size)
              have hyA:=hy.kept (Fr.refl [] w75) (by simp) (fun _ h=>h)
              have husA:=hus6.kept hL75_w66 (by simp) (fun _ h=>h)
              refine wp_reg ?_
              refine wC (wMv (v:=v10) (eK g79_10) ?_)
              refine wC (wFa (b:=w66.heap.size) (i:=0) (hFlT60.fld (by decide)) (eK g79_19) ?_)
              rw[show (0+0:Nat)=0 from rfl]
              refine wC (wL0 (j:=0) (v:=.int .u32 ((kk:Nat):Int)) hcT58 (eS hz79) r75 rfl ?_)
              refine wC (wCv (k1:=.u32) (i:=((kk:Nat):Int)) hT58_u32 hT73_u64 (eS hz79) ?_)
              rw[show (IntKind.u64.wrap (((kk:Nat):Int):Int))=(((kk:Nat):Int):Int) from by simp only[IntKind.wrap,IntKind.bits,IntKind.signed];simp;omega]
              refine wC (wCr (R:=fun vz wz=>Fr [] w75 wz∧Own wz (From w75.heap.size wz) 1 vz (uvW kk).length (octets (uvW kk))) (vs:=#[.int .u64 ((kk:Nat):Int)]) hUv.enters (mX1 (eS hz79)) (calls_fresh (hUv.call w75 kk (by omega))) ?_)
              rintro x81 w81 ⟨fr81,ow81⟩
              have hF82:Fr [] w w81:=hF75.tr fr81
              have rb83:=fr81.range r75 .nil
              have hy84:=hyA.kept fr81 (by simp) (fun _ h=>h)
              have hu84:=husA.kept fr81 (by simp) (fun _ h=>h)
              have hx84:=hx9A.upTo fr81 (From.mono fr81.size)
              have hS84:=Nat.le_trans hSA fr81.size
              have hoo84:=hoA.upTo fr81 (From.mono fr81.size)
              rw[wCo]
              have ob85:=hoo84
              have hSl85:w62.heap.size≤w81.heap.size:=hS84
              refine wp_appO hs_T22 hz_T22 (eS hz79) (eS hz79) ob85 (ow81.octE (by omega)) (by omega) ?_
              rintro v85 w85 fa85 oa85 sp85 bk85
              have ho85:=oa85.imp_A (new_or hSl85 fa85.size)
              have hF85:Fr [] w w85:=fr_own hF82 fa85 (ob85.from (s0:=w.heap.size) (by omega)) (fun b hb=>hb.1)
              have hy86:=hy84.kept fa85 (A':=fun b=>b < w62.heap.size) (fun r hr hb=>by have:=(ob85.spare_in r hr).1;omega) (fun _ h=>h)
              have hu86:=hu84.kept fa85 (A':=fun b=>b < w62.heap.size) (fun r hr hb=>by have:=(ob85.spare_in r hr).1;omega) (fun _ h=>h)
              have hx86:=hx84.kept fa85 (A':=From w2.heap.size w85) (by intro r hr hb g o cap hv e;exfalso;have h1:=(ob85.spare_in r hr).1;have h2:=hb4 g (by rw[hv];rfl);omega) (From.mono fa85.size)
              have hS86:=Nat.le_trans hS84 fa85.size
              refine wC (wMv (v:=.slice q78 ((wholeS x).length) c78) (eK g79_20) ?_)
              refine wC (wp_lenS (n:=(wholeS x).length) hsT22 (eS hz79) ?_)
              refine wC (wCv (k1:=.i64) (i:=(((wholeS x).length:Nat):Int)) hT3_i64 hT73_u64 (eS hz79) ?_)
              rw[show (IntKind.u64.wrap ((((wholeS x).length:Nat):Int):Int))=((((wholeS x).length:Nat):Int):Int) from wrap_u64n (by simp[wholeS];omega)]
              refine wC (wCr (R:=fun vz wz=>Fr [] w85 wz∧Own wz (From w85.heap.size wz) 1 vz (uvW ((wholeS x).length)).length (octets (uvW ((wholeS x).length)))) (vs:=#[.int .u64 (((wholeS x).length:Nat):Int)]) hUv.enters (mX1 (eS hz79)) (calls_fresh (hUv.call w85 ((wholeS x).length) (by simp[wholeS];omega))) ?_)
              rintro x87 w87 ⟨fr87,ow87⟩
              have hF88:Fr [] w w87:=hF85.tr fr87
              have hy89:=hy86.kept fr87 (by simp) (fun _ h=>h)
              have hu89:=hu86.kept fr87 (by simp) (fun _ h=>h)
              have hx89:=hx86.upTo fr87 (From.mono fr87.size)
              have hS89:=Nat.le_trans hS86 fr87.size
              have hoo89:=ho85.upTo fr87 (From.mono fr87.size)
              rw[wCo]
              have ob90:=hoo89
              have hSl90:w62.heap.size≤w87.heap.size:=hS89
              refine wp_appO hs_T22 hz_T22 (eS hz79) (eS hz79) ob90 (ow87.octE (by omega)) (by simp only[List.length_append];omega) ?_
              rintro v90 w90 fa90 oa90 sp90 bk90
              have ho90:=oa90.imp_A (new_or hSl90 fa90.size)
              have hF90:Fr [] w w90:=fr_own hF88 fa90 (ob90.from (s0:=w.heap.size) (by omega)) (fun b hb=>hb.1)
              have hy91:=hy89.kept fa90 (A':=fun b=>b < w62.heap.size) (fun r hr hb=>by have:=(ob90.spare_in r hr).1;omega) (fun _ h=>h)
              have hu91:=hu89.kept fa90 (A':=fun b=>b < w62.heap.size) (fun r hr hb=>by have:=(ob90.spare_in r hr).1;omega) (fun _ h=>h)
              have hx91:=hx89.kept fa90 (A':=From w2.heap.size w90) (by intro r hr hb g o cap hv e;exfalso;have h1:=(ob90.spare_in r hr).1;have h2:=hb4 g (by rw[hv];rfl);omega) (From.mono fa90.size)
              have hS91:=Nat.le_trans hS89 fa90.size
              refine wC (wMv (v:=.slice q78 ((wholeS x).length) c78) (eK g79_20) ?_)
              rw[wCo]
              have ob92:=ho90
              have hSl92:w62.heap.size≤w90.heap.size:=hS91
              refine wp_appO hs_T22 hz_T22 (eS hz79) (eS hz79) ob92 hy91 (by simp only[List.length_append];omega) ?_
              rintro v92 w92 fa92 oa92 sp92 bk92
              have ho92:=oa92.imp_A (new_or hSl92 fa92.size)
              have hF92:Fr [] w w92:=fr_own hF90 fa92 (ob92.from (s0:=w.heap.size) (by omega)) (fun b hb=>hb.1)
              have hy93:=hy91.kept fa92 (A':=fun b=>b < w62.heap.size) (fun r hr hb=>by have:=(ob92.spare_in r hr).1;omega) (fun _ h=>h)
              have hu93:=hu91.kept fa92 (A':=fun b=>b < w62.heap.size) (fun r hr hb=>by have:=(ob92.spare_in r hr).1;omega) (fun _ h=>h)
              have hx93:=hx91.kept fa92 (A':=From w2.heap.size w92) (by intro r hr hb g o cap hv e;exfalso;have h1:=(ob92.spare_in r hr).1;have h2:=hb4 g (by rw[hv];rfl);omega) (From.mono fa92.size)
              have hS93:=Nat.le_trans hS91 fa92.size
              refine wC (wAs (v:=v92) (eS hz79) ?_)
              refine wEn fun a94 ha94=>?_
              have hz94:=kS ha94 hz79
              have hd94:=kD ha94 hd79
              have g94_9:=kP ha94 g79_9
              have g94_10:get a94 10=v92:=kG ha94 hz79
              have g94_11:=kP ha94 g79_11
              have g94_100:=kP ha94 g79_100
              have g94_101:=kP ha94 g79_101
              have g94_102:=kP ha94 g79_102
              refine hK80 a94 w92 ?_
              refine wp_reg ?_
              refine wC (wMv (v:=.int .i64 (j:Int)) (eK g94_11) ?_)
              refine wC (wp_add (k1:=.i64) (i:=(j:Int)) (j:=1) (eS hz94) rfl ?_)
              rw[show (IntKind.i64.wrap (((j:Int):Int)+(1:Int)):Int)=(((j+1:Nat):Int):Int) from by simp only[IntKind.wrap,IntKind.bits,IntKind.signed];simp;omega]
              refine wC (wAs (v:=.int .i64 ((j+1:Nat):Int)) (eS hz94) ?_)
              refine wEn fun a95 ha95=>?_
              have hz95:=kS ha95 hz94
              have hd95:=kD ha95 hd94
              have g95_9:=kP ha95 g94_9
              have g95_10:=kP ha95 g94_10
              have g95_11:get a95 11 = .int .i64 ((j+1:Nat):Int):=kG ha95 hz94
              have g95_100:=kP ha95 g94_100
              have g95_101:=kP ha95 g94_101
              have g95_102:=kP ha95 g94_102
              refine hK71 a95 w92 ?_
              refine wp_reg ?_
              refine wC (wp_add (k1:=.i64) (i:=(j:Int)) (j:=1) (eK g95_102) rfl ?_)
              rw[show (IntKind.i64.wrap (((j:Int):Int)+(1:Int)):Int)=(((j+1:Nat):Int):Int) from by simp only[IntKind.wrap,IntKind.bits,IntKind.signed];simp;omega]
              refine wC (wMv (v:=.int .i64 ((j+1:Nat):Int)) (eS hz95) ?_)
              refine wEn fun a96 ha96=>?_
              have hz96:=kS ha96 hz95
              have hd96:=kD ha96 hd95
              have g96_9:=kP ha96 g95_9
              have g96_10:=kP ha96 g95_10
              have g96_11:=kP ha96 g95_11
              have g96_100:=kP ha96 g95_100
              have g96_101:=kP ha96 g95_101
              have g96_102:get a96 102 = .int .i64 ((j+1:Nat):Int):=kG ha96 hz95
              refine ⟨m3 - 1,by omega,j+1,_,hz96,hd96,g96_9,g96_10,g96_11,g96_100,g96_101,g96_102,by omega,hx93,?_,hu93,hF92,hS93⟩
              rw[htk,show ((unksW fs (.mk n s nl l u)).take j).flatMap pairW++pairW (kk,wholeS x)=((((unksW fs (.mk n s nl l u)).take j).flatMap pairW++uvW kk)++uvW (wholeS x).length)++wholeS x from by simp[pairW]];exact ho92
            · have hj0 : j = (unknownW fs u).length := by simp at hc70; omega
              rw[hj0,← hul,List.take_length] at ho10
              refine wp_exit ?_
              show K60 a68 w66
              refine hK60 a68 w66 (tUp ?_)
              refine tId (wp_seq_k fun K97 hK97=>?_)
              have hx9:=ho9.upTo (Fr.refl [] w66) (From.mono (Fr.refl [] w66).size)
              have hx10:=ho10.upTo (Fr.refl [] w66) (From.mono (Fr.refl [] w66).size)
              have hSx:=Nat.le_trans hSl6 (Fr.refl [] w66).size
              have hunl:(unknownW fs u).length≤4294967296:=hub
              refine wp_reg ?_
              refine wC (wMv (v:=v9) (eK g68_9) ?_)
              refine wC (wMv (v:=.int .i64 (j:Int)) (eK g68_11) ?_)
              refine wC (wCv (k1:=.i64) (i:=(j:Int)) hT3_i64 hT73_u64 (eS hz68) ?_)
              rw[show (IntKind.u64.wrap ((j:Int):Int))=(((unknownW fs u).length:Int):Int) from by simp only[IntKind.wrap,IntKind.bits,IntKind.signed];simp;omega]
              refine wC (wCr (R:=fun vz wz=>Fr [] w66 wz∧Own wz (From w66.heap.size wz) 1 vz (uvW (unksW fs (.mk n s nl l u)).length).length (octets (uvW (unksW fs (.mk n s nl l u)).length))) (vs:=#[.int .u64 ((unknownW fs u).length:Int)]) hUv.enters (mX1 (eS hz68)) (calls_fresh (by rw[hul];exact hUv.call w66 (unknownW fs u).length (by omega))) ?_)
              rintro x98 w98 ⟨fr98,ow98⟩
              have hF99:Fr [] w w98:=hfl6.tr fr98
              have hy9:=hx9.upTo fr98 (From.mono fr98.size)
              have hy10:=hx10.upTo fr98 (From.mono fr98.size)
              have hSy:=Nat.le_trans hSx fr98.size
              rw[wCo]
              have ob100:=hy9
              have hSl100:w2.heap.size≤w98.heap.size:=Nat.le_trans hS2 hSy
              refine wp_appO hs_T22 hz_T22 (eS hz68) (eS hz68) ob100 (ow98.octE (by omega)) (by omega) ?_
              rintro v100 w100 fa100 oa100 sp100 bk100
              have ho100:=oa100.imp_A (new_or hSl100 fa100.size)
              have hF100:Fr [] w w100:=fr_own hF99 fa100 (ob100.from (s0:=w.heap.size) (by omega)) (fun b hb=>hb.1)
              have hz10:Own w100 (From w62.heap.size w100) 1 v10 _ _:=hy10.kept fa100 (by intro r hr hb g o cap hv e;exfalso;have h1:=hb4 r.b (spare_blk' r hr);have h2:=hb.1;omega) (From.mono fa100.size)
              have ha1:=ho100
              have hSz:=Nat.le_trans (Nat.le_trans hS2 hSy) fa100.size
              refine wC (wMv (v:=v10) (eK g68_10) ?_)
              rw[wCo]
              have ob101:=ha1
              have hSl101:w2.heap.size≤w100.heap.size:=hSz
              refine wp_appO hs_T22 hz_T22 (eS hz68) (eS hz68) ob101 (hz10.octE (by omega)) (by simp only[List.length_append];omega) ?_
              rintro v101 w101 fa101 oa101 sp101 bk101
              have ho101:=oa101.imp_A (new_or hSl101 fa101.size)
              have hF101:Fr [] w w101:=fr_own hF100 fa101 (ob101.from (s0:=w.heap.size) (by omega)) (fun b hb=>hb.1)
              refine wC (wAs (v:=v101) (eS hz68) ?_)
              refine wEn fun a102 ha102=>?_
              have hz102:=kS ha102 hz68
              have hd102:=kD ha102 hd68
              have g102_8:get a102 8=v101:=kG ha102 hz68
              refine hK97 a102 w101 (tUp ?_)
              refine wp_ret ?_
              rw[hPW,hfx,if_pos rfl,← List.append_assoc]
              exact ⟨hd102,_,rIs hres g102_8,_,rfl,hF101,ho101.from (by omega)⟩
end Go.Kq

namespace Go.Kq
open Go Go.Proofs
def zM:List Value:=[.slice none 0 0,.int .i64 0]
mutual
/-- No field, and none within, has a tag of its own. -/
def Fd.free:Fd→Bool | .mk _ _ _ _ tag _ _ sub=>decide (tag < 0) && freeAll sub
def freeAll:List Fd→Bool
  | []=>true
  | f::fs=>f.free && freeAll fs
end
theorem freeAll_mem:∀ {fs:List Fd},freeAll fs=true→∀ f ∈ fs,f.free=true
  | [],_,_,h=>by simp at h
  | g :: fs, h, f, hf => by
    rw[freeAll,Bool.and_eq_true] at h
    rcases List.mem_cons.1 hf with rfl | hf
    · exact h.1
    · exact freeAll_mem h.2 f hf
theorem free_tag {f:Fd} (h:f.free=true):f.tag < 0∧freeAll f.sub=true:=by
  cases f with
  | mk kind fr to nul tag df of sub=>rw[Fd.free,Bool.and_eq_true] at h;exact ⟨of_decide_eq_true h.1,h.2⟩
theorem FieldM.congr {P:Program} {f:FuncId} {fd:Fd} {e1 e2:Int→Bool→T→List UInt8} (h:FieldM P f fd e1) (he:∀ ver flex t,e1 ver flex t=e2 ver flex t):FieldM P f fd e2:=by
  have:e1=e2:=by funext a b c;exact he a b c
  rw[← this];exact h
mutual
/-- Every part is written as the reference writes it: the functions call one another. -/
theorem parts_all {P:Program} {fp fv ff:FuncId} (hp:∀ fs:List Fd,(∀ f ∈ fs,f.tag < 0)→(∀ fd ∈ fs,FieldM P ff fd (fieldW fd))→PartM P fp fs (partW fs))
    (hv:∀ (fs:List Fd) (sub:Int→Bool→T→List UInt8),PartM P fp fs sub→ValueM P fv fs sub)
    (hf:∀ (fd:Fd) (sub:Int→Bool→T→List UInt8),ValueM P fv fd.sub sub→PartM P fp fd.sub sub→FieldM P ff fd (fun ver flex t=>fieldV fd.kind fd.nul fd.of (sub ver flex) ver flex t)) :
    ∀ fs:List Fd,freeAll fs=true→∀ fd ∈ fs,FieldM P ff fd (fieldW fd)
  | [],_,_,h=>by simp at h
  | g :: fs, h, fd, hm => by
    rw[freeAll,Bool.and_eq_true] at h
    rcases List.mem_cons.1 hm with e | hm
    · rw[e];exact field_all hp hv hf g h.1
    · exact parts_all hp hv hf fs h.2 fd hm
theorem field_all {P:Program} {fp fv ff:FuncId} (hp:∀ fs:List Fd,(∀ f ∈ fs,f.tag < 0)→(∀ fd ∈ fs,FieldM P ff fd (fieldW fd))→PartM P fp fs (partW fs))
    (hv:∀ (fs:List Fd) (sub:Int→Bool→T→List UInt8),PartM P fp fs sub→ValueM P fv fs sub)
    (hf:∀ (fd:Fd) (sub:Int→Bool→T→List UInt8),ValueM P fv fd.sub sub→PartM P fp fd.sub sub→FieldM P ff fd (fun ver flex t=>fieldV fd.kind fd.nul fd.of (sub ver flex) ver flex t)) :
    ∀ fd:Fd,fd.free=true→FieldM P ff fd (fieldW fd)
  | .mk kind fr to nul tag df of sub, h => by
    have h1:=(free_tag h).2
    have hP:PartM P fp sub (partW sub):=hp sub (fun f hf=>(free_tag (freeAll_mem h1 f hf)).1) (parts_all hp hv hf sub h1)
    exact (hf (.mk kind fr to nul tag df of sub) (partW sub) (hv sub _ hP) hP).congr fun ver flex t=>(fieldW_eq _ ver flex t).symm
end
structure WriteM (P:Program) (f:FuncId) (fs:List Fd) (enc:Int→Bool→T→List UInt8):Prop where
  enters:Enters P f
  call:∀ (w:World) (A B:Nat→Prop) (ver fx:Int) (fsv:Value) (ct:List Value) (t:T),FdsR w A fsv fs→RepT w B ct t→(∀ b,A b→b < w.heap.size)→(∀ b,B b→b < w.heap.size)→(enc ver (decide (fx≥0) && decide (ver≥fx)) t).length≤4294967296 →
    Calls P f #[.agg ([fsv,.int .i64 fx]:List Value).toArray,.int .i64 ver,.agg ct.toArray] w (Fresh w (enc ver (decide (fx≥0) && decide (ver≥fx)) t))
inductive RepFL (w:World) (A:Nat→Prop):List (List Value)→List Fd→Prop where
  | nil:RepFL w A [] []
  | cons {c:List Value} {f:Fd} {cs:List (List Value)} {fs:List Fd} (h:RepF w A c f) (t:RepFL w A cs fs):RepFL w A (c::cs) (f::fs)
theorem RepFL.len {w:World} {A:Nat→Prop} {cs:List (List Value)} {fs:List Fd} (h:RepFL w A cs fs):cs.length=fs.length:=by
  induction h with
  | nil=>rfl
  | cons _ _ ih=>simp[ih]
theorem RepFL.kept {w w':World} {A A':Nat→Prop} {cs:List (List Value)} {fs:List Fd} (h:RepFL w A cs fs) (f:Fr [] w w') (hA:∀ b,A b→A' b):RepFL w' A' cs fs:=by
  induction h with
  | nil=>exact .nil
  | cons h _ ih=>exact .cons (h.kept f (by simp) hA) ih
theorem RepFL.at {w:World} {A:Nat→Prop} {cs:List (List Value)} {fs:List Fd} (h:RepFL w A cs fs):∀ {b o:Nat},w.rangeAt b o cs.flatten→∀ (i:Nat) (f:Fd),fs[i]?=some f→w.rangeAt b (o+i * 8) (cs.getD i [])∧RepF w A (cs.getD i []) f:=by
  induction h with
  | nil=>intro b o _ i f hi;simp at hi
  | @cons c g cs fs hc _ ih =>
    intro b o hr i f hi
    rw[List.flatten_cons,range_append,hc.length] at hr
    cases i with
    | zero=>simp at hi;subst hi;exact ⟨by simpa using hr.1,hc⟩
    | succ i =>
      have:=ih hr.2 i f (by simpa using hi)
      rw[show o+8+i * 8=o+(i+1) * 8 from by omega] at this
      simpa using this
theorem FdsR.laid {w:World} {A:Nat→Prop} {cs:List (List Value)} {fs:List Fd} {b:Nat} (h:RepFL w A cs fs) (hr:w.rangeAt b 0 cs.flatten) (hb:A b) (hl:fs.length≤4294967296):FdsR w A (.slice (some ⟨b,0,none⟩) fs.length fs.length) fs :=
  .inr ⟨b,0,fs.length,hb,rfl,⟨Nat.le_refl _,hl⟩,fun i=>cs.getD i [],fun i f hi=>(h.at hr i f hi).1,fun i f hi=>(h.at hr i f hi).2⟩
theorem wp_fields {P:Program} {a:Act} {w:World} {K:Act→World→Prop} {Q:Exit→Act→World→Prop} {d:Option Tmp} {t:TypeId} {p:String} {af:Array Edge} {g:Option (Nat × Bool)} {T e bs n s0:Nat} {A:Nat→Prop} {xs:List Operand} {css:List (List Value)} {fs:List Fd}
    (hT:sliceOf P T e 8 bs=true) (hx:xs.map a.eval=css.map fun c=>.agg c.toArray) (h:RepFL w A css fs) (hn:n=fs.length) (hn0:0 < n) (hn1:n≤2000000) (hA:∀ b,A b→s0≤b∧b < w.heap.size) (hs:s0≤w.heap.size)
    (k:∀ w' v,Fr [] w w'→FdsR w' (From s0 w') v fs→K (a.put d v) w') :
    OW P ⟨d,.buildSlice T n ((xs.zipIdx 0).map fun x=>(x.2,x.1)).toArray,t,p,af,g⟩ a w K Q:=by
  have hl:=h.len
  have hr:=range_new w css.flatten.toArray e (0,0)
  have hl8:∀ (cs:List (List Value)) (fs:List Fd),RepFL w A cs fs→∀ c ∈ cs,c.length=8:=by
    intro cs fs h
    induction h with
    | nil=>simp
    | cons h _ ih => intro c hc; rcases List.mem_cons.1 hc with rfl | hc
                     · exact h.length
                     · exact ih c hc
  refine wp_sliceL (css:=css) hT (by omega) hn0 (by omega) (by rw[hx];simp only[List.map_map];congr 1) (hl8 _ _ h) (k _ _ (Fr.alloc _ _ _) ?_)
  have hf:=Fr.alloc [] w (.cells css.flatten.toArray e)
  have hsz:=size_alloc w (.cells css.flatten.toArray e)
  rw[hn]
  exact FdsR.laid (h.kept hf fun b hb=>⟨(hA b hb).1,by have:=(hA b hb).2;omega⟩) (by simpa using hr) ⟨hs,by omega⟩ (by omega)
theorem wp_buildC {P:Program} {a:Act} {w:World} {K:Act→World→Prop} {Q:Exit→Act→World→Prop} {d:Option Tmp} {t:TypeId} {p:String} {af:Array Edge} {g:Option (Nat × Bool)} {s:TypeId} {z cs:List Value} {ps:List (Nat × Operand)} {vs:List (Nat × Value)} (h:Flat P s z) (hv:ps.map (fun p=>(p.1,a.eval p.2))=vs) (h1:∀ p ∈ vs,p.1 < z.length∧p.2.oneCell'=true) (hc:laid z vs=cs)
    (k:K (a.put d (.agg cs.toArray)) w):OW P ⟨d,.build s ps.toArray,t,p,af,g⟩ a w K Q:=wp_buildL h hv h1 (by rw[hc];exact k)
structure SubM (P:Program) (f:FuncId) (fs:List Fd):Prop where
  enters:Enters P f
  call:∀ (w:World),Calls P f #[] w fun e w'=>∃ v,e = .returned v∧Fr [] w w'∧FdsR w' (From w.heap.size w') v fs
structure SchM (P:Program) (f:FuncId) (fs:List Fd) (fx:Int):Prop where
  enters:Enters P f
  call:∀ (w:World),Calls P f #[] w fun e w'=>∃ v,e = .returned (.agg ([v,.int .i64 fx]:List Value).toArray)∧Fr [] w w'∧FdsR w' (From w.heap.size w') v fs
theorem write_m {P:Program} {f:FuncId} {fn:Func} {T3 T26 T29 T31:TypeId} {f26:FuncId} {a0:Array TypeId} {i0 i1:Nat} {t0 t1 t2 t3 t4 t5 t6 t7 t8 t9 t10 t11 t12 t13 t14 t15 t16 t17:TypeId} {p0 p1 p2 p3 p4 p5 p6 p7 p8 p9 p10 p11 p12 p13 p14 p15 p16 p17:String} {e0 e1 e2 e3 e4 e5 e6 e7 e8 e9 e10 e11 e12 e13 e14 e15 e16 e17:Array Edge} {fs:List Fd} {enc:Int→Bool→T→List UInt8}
    (hf:P.funcs[f]?=some fn) (hname:(fn.name == "runtime.NumGoroutine")=false) (hres:fn.results = #[.tmp 6]) (hN:fn.ntmps=21)
    (hbody:fn.body=some (.seq (Code.region i0 ⟨[⟨some 3,.box T31 (.tmp 0),t0,p0,e0,none⟩,
    ⟨some 5,.box T26 (.tmp 2),t1,p1,e1,none⟩,
    ⟨some 6,.assign (.const (.slice none 0 0)),t2,p2,e2,none⟩]⟩ false)
  (.seq (Code.region i1 ⟨[⟨some 7,.fieldAddr T31 (.tmp 3) 0,t3,p3,e3,none⟩,
    ⟨some 8,.load T29 (.tmp 7),t4,p4,e4,none⟩,
    ⟨some 9,.move (.tmp 1),t5,p5,e5,none⟩,
    ⟨some 10,.fieldAddr T31 (.tmp 3) 1,t6,p6,e6,none⟩,
    ⟨some 11,.load T3 (.tmp 10),t7,p7,e7,none⟩,
    ⟨some 12,.binOp .geq T3 (.tmp 11) (.const (.int .i64 0)) T3,t8,p8,e8,none⟩,
    ⟨some 13,.move (.tmp 12),t9,p9,e9,none⟩,
    ⟨some 14,.move (.tmp 1),t10,p10,e10,some (6,true)⟩,
    ⟨some 15,.fieldAddr T31 (.tmp 3) 1,t11,p11,e11,some (6,true)⟩,
    ⟨some 16,.load T3 (.tmp 15),t12,p12,e12,some (6,true)⟩,
    ⟨some 17,.binOp .geq T3 (.tmp 14) (.tmp 16) T3,t13,p13,e13,some (6,true)⟩,
    ⟨some 18,.pick (.tmp 13) (.tmp 17) (.const (.bool false)),t14,p14,e14,none⟩,
    ⟨some 19,.load T26 (.tmp 5),t15,p15,e15,none⟩,
    ⟨some 20,.call ⟨.value (.func f26),#[(.tmp 8),(.tmp 9),(.tmp 18),(.tmp 19)],a0⟩,t16,p16,e16,none⟩,
    ⟨some 6,.assign (.tmp 20),t17,p17,e17,none⟩]⟩ false)
  .ret)))
    (hFlT31:Flat P T31 zM) (hcT29:scal P T29=true) (hcT3:scal P T3=true) (hFlT26:Flat P T26 zT) (hPa:PartM P f26 fs enc):WriteM P f fs enc:=by
  refine ⟨enters_of hf hname hbody,?_⟩
  intro w A B ver fx fsv ct t hfs ht hA hB hlen
  cases t with
  | mk n s nl l u =>
  have ht0:=ht
  obtain ⟨sv,lv,uv,rfl,hn,hs,hl,hu⟩:=repT_iff.1 ht
  by_cases h1:fx≥0;by_cases h2:ver≥fx
  · have hfl : (decide (fx ≥ 0) && decide (ver ≥ fx)) = true := by simp [h1, h2]
    rw[hfl] at hlen ⊢
    refine calls_of_wp hf hbody ?_
    generalize ha0:({ tmps:=#[Value.agg ([fsv,.int .i64 fx]:List Value).toArray,Value.int .i64 ver,Value.agg ([.int .i64 n,sv,.bool nl,lv,uv]:List Value).toArray]++Array.replicate (fn.ntmps - (#[Value.agg ([fsv,.int .i64 fx]:List Value).toArray,Value.int .i64 ver,Value.agg ([.int .i64 n,sv,.bool nl,lv,uv]:List Value).toArray]:Array Value).size) undef,defers:=[] }:Act)=a0
    have hz0:a0.tmps.size=21:=by subst ha0;simp[hN]
    have hd0:a0.defers=[]:=by subst ha0;rfl
    have g0_0:get a0 0 = .agg ([fsv,.int .i64 fx]:List Value).toArray:=by subst ha0;exact gAr rfl
    have g0_1:get a0 1 = .int .i64 ver:=by subst ha0;exact gAr rfl
    have g0_2:get a0 2 = .agg ([.int .i64 n,sv,.bool nl,lv,uv]:List Value).toArray:=by subst ha0;exact gAr rfl
    refine wT fun K1 hK1=>?_
    refine wC (wp_boxL (cs:=[fsv,.int .i64 fx]) (eK g0_0) ?_)
    rintro w2 f2 sz2 r2 th2
    have hF3:Fr [] w w2:=f2
    refine wC (wp_boxL (cs:=[.int .i64 n,sv,.bool nl,lv,uv]) (eK g0_2) ?_)
    rintro w4 f4 sz4 r4 th4
    have hF5:Fr [] w w4:=hF3.tr f4
    have rb6:=f4.range r2 .nil
    refine wC (wAs (v:=.slice none 0 0) rfl ?_)
    refine wEn fun a7 ha7=>?_
    have hz7:=kS ha7 hz0
    have hd7:=kD ha7 hd0
    have g7_1:=kP ha7 g0_1
    have g7_3:get a7 3 = .pointer (some ⟨w.heap.size,0,none⟩):=kG ha7 hz0
    have g7_5:get a7 5 = .pointer (some ⟨w2.heap.size,0,none⟩):=kG ha7 hz0
    refine hK1 a7 w4 (tUp ?_)
    refine tId (wp_seq_k fun K8 hK8=>?_)
    refine wp_regG ?_
    refine gCn ?_
    refine wFa (b:=w.heap.size) (i:=0) (hFlT31.fld (by decide)) (eK g7_3) ?_
    rw[show (0+0:Nat)=0 from rfl]
    refine gCn ?_
    refine wL0 (j:=0) (v:=fsv) hcT29 (eS hz7) rb6 rfl ?_
    refine gCn ?_
    refine wMv (v:=.int .i64 ver) (eK g7_1) ?_
    refine gCn ?_
    refine wFa (b:=w.heap.size) (i:=0) (hFlT31.fld (by decide)) (eK g7_3) ?_
    rw[show (0+1:Nat)=1 from rfl]
    refine gCn ?_
    refine wL0 (j:=1) (v:=.int .i64 fx) hcT3 (eS hz7) rb6 rfl ?_
    refine gCn ?_
    refine wp_geqT (k1:=.i64) (i:=fx) (j:=0) h1 (eS hz7) rfl ?_
    refine gCn ?_
    refine wMv (v:=.bool true) (eS hz7) ?_
    refine wg_yes (dj:=13) rfl (lZ hz7) (gS hz7) ?_
    refine wMv (v:=.int .i64 ver) (eK g7_1) ?_
    refine wg_yes (dj:=13) rfl (lZ hz7) (gS hz7) ?_
    refine wFa (b:=w.heap.size) (i:=0) (hFlT31.fld (by decide)) (eK g7_3) ?_
    rw[show (0+1:Nat)=1 from rfl]
    refine wg_yes (dj:=13) rfl (lZ hz7) (gS hz7) ?_
    refine wL0 (j:=1) (v:=.int .i64 fx) hcT3 (eS hz7) rb6 rfl ?_
    refine wg_yes (dj:=13) rfl (lZ hz7) (gS hz7) ?_
    refine wp_geqT (k1:=.i64) (i:=ver) (j:=fx) h2 (eS hz7) (eS hz7) ?_
    refine gCn ?_
    refine wp_pickYes (v:=.bool true) (eS hz7) (eS hz7) ?_
    refine gCn ?_
    refine wp_loadFlat (cs:=[.int .i64 n,sv,.bool nl,lv,uv]) (b:=w2.heap.size) (o:=0) hFlT26 rfl (eK g7_5) r4 ?_
    refine gCn ?_
    refine wCr (R:=fun vz wz=>Fr [] w4 wz∧Own wz (From w4.heap.size wz) 1 vz (enc ver true (.mk n s nl l u)).length (octets (enc ver true (.mk n s nl l u)))) (vs:=#[fsv,.int .i64 ver,.bool true,.agg ([.int .i64 n,sv,.bool nl,lv,uv]:List Value).toArray]) hPa.enters (mX4 (eS hz7) (eS hz7) (eS hz7) (eS hz7)) (calls_fresh (hPa.call w4 A B fsv ver true _ (.mk n s nl l u) (hfs.kept hF5 (by simp) (fun _ h=>h)) (ht0.kept hF5 (by simp) (fun _ h=>h)) (fun b hb=>Nat.lt_of_lt_of_le (hA b hb) hF5.size) (fun b hb=>Nat.lt_of_lt_of_le (hB b hb) hF5.size) hlen)) ?_
    rintro x9 w9 ⟨fr9,ow9⟩
    have hF10:Fr [] w w9:=hF5.tr fr9
    have rb11:=fr9.range rb6 .nil
    have rb12:=fr9.range r4 .nil
    refine gCn ?_
    refine wAs (v:=x9) (eS hz7) ?_
    refine wg_end fun a13 ha13=>?_
    have hz13:=kS ha13 hz7
    have hd13:=kD ha13 hd7
    have g13_6:get a13 6=x9:=kG ha13 hz7
    refine hK8 a13 w9 (tUp ?_)
    refine wp_ret ?_
    exact ⟨hd13,_,rIs hres g13_6,_,rfl,hF10,ow9.from (by have:=hF5.size;omega)⟩
  · have hfl : (decide (fx ≥ 0) && decide (ver ≥ fx)) = false := by simp [h1, h2]
    rw[hfl] at hlen ⊢
    refine calls_of_wp hf hbody ?_
    generalize ha0:({ tmps:=#[Value.agg ([fsv,.int .i64 fx]:List Value).toArray,Value.int .i64 ver,Value.agg ([.int .i64 n,sv,.bool nl,lv,uv]:List Value).toArray]++Array.replicate (fn.ntmps - (#[Value.agg ([fsv,.int .i64 fx]:List Value).toArray,Value.int .i64 ver,Value.agg ([.int .i64 n,sv,.bool nl,lv,uv]:List Value).toArray]:Array Value).size) undef,defers:=[] }:Act)=a0
    have hz0:a0.tmps.size=21:=by subst ha0;simp[hN]
    have hd0:a0.defers=[]:=by subst ha0;rfl
    have g0_0:get a0 0 = .agg ([fsv,.int .i64 fx]:List Value).toArray:=by subst ha0;exact gAr rfl
    have g0_1:get a0 1 = .int .i64 ver:=by subst ha0;exact gAr rfl
    have g0_2:get a0 2 = .agg ([.int .i64 n,sv,.bool nl,lv,uv]:List Value).toArray:=by subst ha0;exact gAr rfl
    refine wT fun K1 hK1=>?_
    refine wC (wp_boxL (cs:=[fsv,.int .i64 fx]) (eK g0_0) ?_)
    rintro w2 f2 sz2 r2 th2
    have hF3:Fr [] w w2:=f2
    refine wC (wp_boxL (cs:=[.int .i64 n,sv,.bool nl,lv,uv]) (eK g0_2) ?_)
    rintro w4 f4 sz4 r4 th4
    have hF5:Fr [] w w4:=hF3.tr f4
    have rb6:=f4.range r2 .nil
    refine wC (wAs (v:=.slice none 0 0) rfl ?_)
    refine wEn fun a7 ha7=>?_
    have hz7:=kS ha7 hz0
    have hd7:=kD ha7 hd0
    have g7_1:=kP ha7 g0_1
    have g7_3:get a7 3 = .pointer (some ⟨w.heap.size,0,none⟩):=kG ha7 hz0
    have g7_5:get a7 5 = .pointer (some ⟨w2.heap.size,0,none⟩):=kG ha7 hz0
    refine hK1 a7 w4 (tUp ?_)
    refine tId (wp_seq_k fun K8 hK8=>?_)
    refine wp_regG ?_
    refine gCn ?_
    refine wFa (b:=w.heap.size) (i:=0) (hFlT31.fld (by decide)) (eK g7_3) ?_
    rw[show (0+0:Nat)=0 from rfl]
    refine gCn ?_
    refine wL0 (j:=0) (v:=fsv) hcT29 (eS hz7) rb6 rfl ?_
    refine gCn ?_
    refine wMv (v:=.int .i64 ver) (eK g7_1) ?_
    refine gCn ?_
    refine wFa (b:=w.heap.size) (i:=0) (hFlT31.fld (by decide)) (eK g7_3) ?_
    rw[show (0+1:Nat)=1 from rfl]
    refine gCn ?_
    refine wL0 (j:=1) (v:=.int .i64 fx) hcT3 (eS hz7) rb6 rfl ?_
    refine gCn ?_
    refine wp_geqT (k1:=.i64) (i:=fx) (j:=0) h1 (eS hz7) rfl ?_
    refine gCn ?_
    refine wMv (v:=.bool true) (eS hz7) ?_
    refine wg_yes (dj:=13) rfl (lZ hz7) (gS hz7) ?_
    refine wMv (v:=.int .i64 ver) (eK g7_1) ?_
    refine wg_yes (dj:=13) rfl (lZ hz7) (gS hz7) ?_
    refine wFa (b:=w.heap.size) (i:=0) (hFlT31.fld (by decide)) (eK g7_3) ?_
    rw[show (0+1:Nat)=1 from rfl]
    refine wg_yes (dj:=13) rfl (lZ hz7) (gS hz7) ?_
    refine wL0 (j:=1) (v:=.int .i64 fx) hcT3 (eS hz7) rb6 rfl ?_
    refine wg_yes (dj:=13) rfl (lZ hz7) (gS hz7) ?_
    refine wp_geqF (k1:=.i64) (i:=ver) (j:=fx) h2 (eS hz7) (eS hz7) ?_
    refine gCn ?_
    refine wp_pickYes (v:=.bool false) (eS hz7) (eS hz7) ?_
    refine gCn ?_
    refine wp_loadFlat (cs:=[.int .i64 n,sv,.bool nl,lv,uv]) (b:=w2.heap.size) (o:=0) hFlT26 rfl (eK g7_5) r4 ?_
    refine gCn ?_
    refine wCr (R:=fun vz wz=>Fr [] w4 wz∧Own wz (From w4.heap.size wz) 1 vz (enc ver false (.mk n s nl l u)).length (octets (enc ver false (.mk n s nl l u)))) (vs:=#[fsv,.int .i64 ver,.bool false,.agg ([.int .i64 n,sv,.bool nl,lv,uv]:List Value).toArray]) hPa.enters (mX4 (eS hz7) (eS hz7) (eS hz7) (eS hz7)) (calls_fresh (hPa.call w4 A B fsv ver false _ (.mk n s nl l u) (hfs.kept hF5 (by simp) (fun _ h=>h)) (ht0.kept hF5 (by simp) (fun _ h=>h)) (fun b hb=>Nat.lt_of_lt_of_le (hA b hb) hF5.size) (fun b hb=>Nat.lt_of_lt_of_le (hB b hb) hF5.size) hlen)) ?_
    rintro x9 w9 ⟨fr9,ow9⟩
    have hF10:Fr [] w w9:=hF5.tr fr9
    have rb11:=fr9.range rb6 .nil
    have rb12:=fr9.range r4 .nil
    refine gCn ?_
    refine wAs (v:=x9) (eS hz7) ?_
    refine wg_end fun a13 ha13=>?_
    have hz13:=kS ha13 hz7
    have hd13:=kD ha13 hd7
    have g13_6:get a13 6=x9:=kG ha13 hz7
    refine hK8 a13 w9 (tUp ?_)
    refine wp_ret ?_
    exact ⟨hd13,_,rIs hres g13_6,_,rfl,hF10,ow9.from (by have:=hF5.size;omega)⟩
  · have hfl : (decide (fx ≥ 0) && decide (ver ≥ fx)) = false := by simp [h1]
    rw[hfl] at hlen ⊢
    refine calls_of_wp hf hbody ?_
    generalize ha0:({ tmps:=#[Value.agg ([fsv,.int .i64 fx]:List Value).toArray,Value.int .i64 ver,Value.agg ([.int .i64 n,sv,.bool nl,lv,uv]:List Value).toArray]++Array.replicate (fn.ntmps - (#[Value.agg ([fsv,.int .i64 fx]:List Value).toArray,Value.int .i64 ver,Value.agg ([.int .i64 n,sv,.bool nl,lv,uv]:List Value).toArray]:Array Value).size) undef,defers:=[] }:Act)=a0
    have hz0:a0.tmps.size=21:=by subst ha0;simp[hN]
    have hd0:a0.defers=[]:=by subst ha0;rfl
    have g0_0:get a0 0 = .agg ([fsv,.int .i64 fx]:List Value).toArray:=by subst ha0;exact gAr rfl
    have g0_1:get a0 1 = .int .i64 ver:=by subst ha0;exact gAr rfl
    have g0_2:get a0 2 = .agg ([.int .i64 n,sv,.bool nl,lv,uv]:List Value).toArray:=by subst ha0;exact gAr rfl
    refine wT fun K1 hK1=>?_
    refine wC (wp_boxL (cs:=[fsv,.int .i64 fx]) (eK g0_0) ?_)
    rintro w2 f2 sz2 r2 th2
    have hF3:Fr [] w w2:=f2
    refine wC (wp_boxL (cs:=[.int .i64 n,sv,.bool nl,lv,uv]) (eK g0_2) ?_)
    rintro w4 f4 sz4 r4 th4
    have hF5:Fr [] w w4:=hF3.tr f4
    have rb6:=f4.range r2 .nil
    refine wC (wAs (v:=.slice none 0 0) rfl ?_)
    refine wEn fun a7 ha7=>?_
    have hz7:=kS ha7 hz0
    have hd7:=kD ha7 hd0
    have g7_1:=kP ha7 g0_1
    have g7_3:get a7 3 = .pointer (some ⟨w.heap.size,0,none⟩):=kG ha7 hz0
    have g7_5:get a7 5 = .pointer (some ⟨w2.heap.size,0,none⟩):=kG ha7 hz0
    refine hK1 a7 w4 (tUp ?_)
    refine tId (wp_seq_k fun K8 hK8=>?_)
    refine wp_regG ?_
    refine gCn ?_
    refine wFa (b:=w.heap.size) (i:=0) (hFlT31.fld (by decide)) (eK g7_3) ?_
    rw[show (0+0:Nat)=0 from rfl]
    refine gCn ?_
    refine wL0 (j:=0) (v:=fsv) hcT29 (eS hz7) rb6 rfl ?_
    refine gCn ?_
    refine wMv (v:=.int .i64 ver) (eK g7_1) ?_
    refine gCn ?_
    refine wFa (b:=w.heap.size) (i:=0) (hFlT31.fld (by decide)) (eK g7_3) ?_
    rw[show (0+1:Nat)=1 from rfl]
    refine gCn ?_
    refine wL0 (j:=1) (v:=.int .i64 fx) hcT3 (eS hz7) rb6 rfl ?_
    refine gCn ?_
    refine wp_geqF (k1:=.i64) (i:=fx) (j:=0) h1 (eS hz7) rfl ?_
    refine gCn ?_
    refine wMv (v:=.bool false) (eS hz7) ?_
    refine wg_noT (dj:=13) rfl (lZ hz7) (gS hz7) ?_
    refine wg_noT (dj:=13) rfl (lZ hz7) (gS hz7) ?_
    refine wg_noT (dj:=13) rfl (lZ hz7) (gS hz7) ?_
    refine wg_noT (dj:=13) rfl (lZ hz7) (gS hz7) ?_
    refine gCn ?_
    refine wp_pickNo (v:=.bool false) (eS hz7) rfl ?_
    refine gCn ?_
    refine wp_loadFlat (cs:=[.int .i64 n,sv,.bool nl,lv,uv]) (b:=w2.heap.size) (o:=0) hFlT26 rfl (eK g7_5) r4 ?_
    refine gCn ?_
    refine wCr (R:=fun vz wz=>Fr [] w4 wz∧Own wz (From w4.heap.size wz) 1 vz (enc ver false (.mk n s nl l u)).length (octets (enc ver false (.mk n s nl l u)))) (vs:=#[fsv,.int .i64 ver,.bool false,.agg ([.int .i64 n,sv,.bool nl,lv,uv]:List Value).toArray]) hPa.enters (mX4 (eS hz7) (eS hz7) (eS hz7) (eS hz7)) (calls_fresh (hPa.call w4 A B fsv ver false _ (.mk n s nl l u) (hfs.kept hF5 (by simp) (fun _ h=>h)) (ht0.kept hF5 (by simp) (fun _ h=>h)) (fun b hb=>Nat.lt_of_lt_of_le (hA b hb) hF5.size) (fun b hb=>Nat.lt_of_lt_of_le (hB b hb) hF5.size) hlen)) ?_
    rintro x9 w9 ⟨fr9,ow9⟩
    have hF10:Fr [] w w9:=hF5.tr fr9
    have rb11:=fr9.range rb6 .nil
    have rb12:=fr9.range r4 .nil
    refine gCn ?_
    refine wAs (v:=x9) (eS hz7) ?_
    refine wg_end fun a13 ha13=>?_
    have hz13:=kS ha13 hz7
    have hd13:=kD ha13 hd7
    have g13_6:get a13 6=x9:=kG ha13 hz7
    refine hK8 a13 w9 (tUp ?_)
    refine wp_ret ?_
    exact ⟨hd13,_,rIs hres g13_6,_,rfl,hF10,ow9.from (by have:=hF5.size;omega)⟩
end Go.Kq

namespace Go.Kq
open Go Go.Proofs Go.ChangeShapes Go.WideShapes Go.RowKit
section
variable {H:Type} {enc:TypeId × Value→H} {P:Program}
theorem octs_of_ints {w:World} {b o:Nat}:∀ (zs:List Int),(∀ i,i < zs.length→w.cell? ⟨b,o+i,none⟩=some (.int .u8 (zs.getD i 0)))→(∀ n ∈ zs,(Lit.int .u8 n).wf=true) →
    w.rangeAt b o (octets (zs.map fun z=>UInt8.ofNat z.toNat)):=by
  intro zs h hw j v hv
  simp only[octets,List.map_map,List.getElem?_map,Option.map_eq_some_iff] at hv
  obtain ⟨z,hz,rfl⟩:=hv
  have hj:j < zs.length:=(List.getElem?_eq_some_iff.1 hz).1
  rw[h j hj]
  have hzz:zs.getD j 0=z:=by rw[List.getD,hz];rfl
  have hwz:=hw z (List.mem_of_getElem? hz)
  simp only[Lit.wf] at hwz
  have hb:0≤z∧z≤255:=by simpa [IntKind.min,IntKind.max,IntKind.signed,IntKind.bits] using hwz
  rw[hzz]
  simp only[Function.comp_apply,UInt8.toNat_ofNat',Option.some.injEq,Value.int.injEq,true_and]
  omega
theorem octets_of_arg {W:World} {base:Nat} {t e:TypeId} {v:Value} {d:DataW H} {ps:List MemPlace} (ht:P.underlying t=some (.slice e)) (he:P.underlying e=some (.int .u8)) (hc:P.cellsOf e=1)
    (hval:Value.okWide P W .any base t v) (hd:DataW.Trod enc P W 0 (fun _=>true) true t v d ps) :
    ∃ q len cap,v = .slice q len cap∧(len≤4294967296→∃ xs,OctE W (fun b=>b < W.heap.size) (.slice q len cap) xs):=by
  obtain ⟨a,len,cap,rfl⟩:=okWide_slice ht hval
  refine ⟨a,len,cap,rfl,fun hlen=>?_⟩
  obtain ⟨fuel,hf⟩:=hd
  rcases open_ints ht he hc hf with ⟨hcs,_⟩ | ⟨a',len',cap',zs,hcs,_,hl,hm,hz,_,hcell,hwz⟩
  · simp [Value.cells] at hcs
    obtain ⟨rfl,rfl,rfl⟩:=hcs
    exact ⟨[],.nil⟩
  · simp [Value.cells] at hcs
    obtain ⟨rfl,rfl,rfl⟩:=hcs
    simp only[if_true] at hz
    obtain ⟨b,o,spot⟩:=a'
    have hsp:spot=none∧b < W.heap.size:=by
      simp only[Value.okWide,ht,Cell.okWide,Cell.ok,World.has] at hval
      refine ⟨hval.2.2.2.1,?_⟩
      obtain ⟨row,cells,hs,_⟩:=hval.2.2.2.2
      simp only[World.shape?] at hs
      cases hb:W.heap[b]? with
      | none=>simp[hb] at hs
      | some x=>exact lt_of_block hb
    obtain ⟨rfl,hbl⟩:=hsp
    have hr:=octs_of_ints (b:=b) (o:=o) zs (fun i hi=>by have:=hcell i hi;rwa [Addr.add_lit] at this) hwz
    refine ⟨(zs.take len).map fun z=>UInt8.ofNat z.toNat,.inl ⟨some _,.inr ⟨b,o,cap,_,hbl,?_,⟨?_,?_⟩,?_,rfl⟩,rfl⟩⟩
    · simp;omega
    · simp;omega
    · simp;omega
    · have := range_part hr 0 len
      simpa [octets_take,octets_drop,List.map_take] using this
theorem err_of_laid {W:World} {name nm:String} {d:DataW Unit} {g:Nat} {ti:TypeId} {ms:Array (String × TypeId)} (hg:P.globalNamed name=some g) (hty:(P.globals[g]?).map (·.type)=some ti) (hi:P.underlying ti=some (.interface ms))
    (h:laidMet P [(name,.iface nm d)] W):∃ u v,W.cell? ⟨g,0,none⟩=some (.iface u v):=by
  obtain ⟨ps,⟨g',t',cs,fuel,p,q,hg',ht',hvar,hd,_,_⟩,_⟩:=h
  obtain rfl:=Option.some.inj (hg.symm.trans hg')
  obtain rfl:=Option.some.inj (hty.symm.trans ht')
  obtain ⟨l⟩:=cs
  obtain ⟨_,u,v,hl,_⟩:=iface_of_trod hi hd
  have:l=[.iface u v]:=by simpa using hl
  subst this
  exact ⟨u,v,World.var?_cell hg hvar 0⟩
theorem trodAll_stays (hl:laidOutB P=true) {W W':World} {base:Nat} {sp':Nat→Bool} :
    ∀ {ts : List TypeId} {vs : List Value} {ds : List (DataW H)} {ps : List MemPlace}, (∀ t ∈ ts, P.readableRec t = true ∧ t < P.types.size) → DataW.TrodAll enc P W base (fun _ => true) true ts vs ds ps →
      (∀ p ∈ ps,W.sameAt W' p)→(∀ p ∈ ps,sp' p.block=true)→DataW.TrodAll enc P W' base sp' true ts vs ds ps
  | [], _, _, _, _, h, _, _ => by
    obtain ⟨rfl,rfl,rfl⟩:=trodAll_nil h
    exact h
  | t :: ts, _, _, _, ht, h, hs, hp => by
    obtain ⟨v,vs1,d,ds1,a,b,rfl,rfl,rfl,h1,h2⟩:=trodAll_cons h
    exact ⟨a,b,WideElems.Trod_stays hl (ht t (by simp)).1 (ht t (by simp)).2 h1 (fun p hp'=>hs p (List.mem_append_left _ hp')) (fun p hp'=>hp p (List.mem_append_left _ hp')),
      trodAll_stays hl (fun t ht'=>ht t (by simp[ht'])) h2 (fun p hp'=>hs p (List.mem_append_right _ hp')) (fun p hp'=>hp p (List.mem_append_right _ hp')),rfl⟩
theorem post_true (hl:laidOutB P=true) {f:Func} {s:ChangeSpec} {apart fresh handsOn again:Bool} {W W':World} {args:Array Value} {ds gs:List (DataW H)} {before p:List MemPlace} {rt:TypeId}
    (hW:DataW.Whole enc P f.params.toList s.vars apart W args.toList ds gs before) (hv:s.vars=[]) (hA:DataW.TrodAll enc P W 0 (fun _=>true) true f.params.toList args.toList ds p) (hbp:before=p) (hgs:gs=[])
    (hs:s.fn H (ds++gs)={ results:=[.lit (.bool true)],args:=ds }) (hrt:f.resultTypes = #[rt]) (hb:P.underlying rt=some .bool)
    (hrd:∀ t ∈ f.params.toList,P.readableRec t=true∧t < P.types.size) (hF:Fr [] W W') :
    s.post enc P f apart fresh handsOn again W args (.bool true) W':=by
  subst hbp
  have hbl:=hF.below
  have hlt:∀ x ∈ before,x.block < W.heap.size:=fun x hx=>hW.lt x hx
  have hold:∀ x ∈ before,(fun b=>decide (b < W.heap.size)) x.block=true:=fun x hx=>by simpa using hlt x hx
  have hres:∀ (b:Nat) (sp:Nat→Bool) (hd:Bool),DataW.TrodAll enc P W' b sp hd f.resultTypes.toList ((Value.bool true).resultList f.resultTypes.size) (s.fn H (ds++gs)).results []:=by
    intro b sp hd
    rw[hs,hrt]
    exact trodAll_cons_mk (shut_bool hb true) trodAll_mk0
  have hargs:∀ sp:Nat→Bool,(∀ x ∈ before,sp x.block=true)→DataW.TrodAll enc P W' 0 sp true f.params.toList args.toList (s.fn H (ds++gs)).args before:=by
    intro sp hsp
    rw[hs]
    exact trodAll_stays hl hrd hA (fun x hx=>hbl.same (hlt x hx)) hsp
  have hvars:∀ sp:Nat→Bool,DataW.TrodVars enc P W' sp s.vars (s.fn H (ds++gs)).vars []:=by
    intro sp
    rw[hv,hs]
    exact (rfl:([]:List MemPlace)=[])
  refine ⟨ds,gs,before,[],before,[],hW,hres _ _ _,hargs _ hold,hvars _,World.keptBut_mono (fun x hx=>⟨hx,?_⟩) (hbl.frame (· ∈ before)),fun _=>?_⟩
  · exact Or.inr (Or.inl hx)
  · obtain ⟨_, _, _, _, _, hz, hn⟩ := hW
    refine ⟨?_,_,_,([]++before)++[],⟨[]++before,[],trodAll_append (hargs _ (fun _ _=>rfl)) (hres _ _ _),hvars _,rfl,?_,?_⟩,?_⟩
    · exact ok_one (by rw[hrt]) rfl (okWide_bool_mk hb _)
    · intro b off hp
      have hin:MemPlace.cell b off ∈ before:=by simpa using hp
      rw[hbl.frozen (hlt _ hin)]
      exact hz b off hin
    · intro ha
      simpa using hn ha
    · intro x hx _
      simpa using hx
end
end Go.Kq

namespace Go.Kq
open Go Go.Proofs
section
variable {P:Program} {N n:Nat} {TT TI TK:TypeId} {t0 t1:TypeId} {p0 p1:String} {e0 e1:Array Edge} {ats:Array TypeId}
theorem octE_big {w:World} {A:Nat→Prop} {v:Value} {s:List UInt8} (h:OctE w A v s):s.length≤4294967296:=by
  rcases h with ⟨y,h1,rfl⟩ | ⟨_,rfl⟩
  · rcases h1 with ⟨_, rfl⟩ | ⟨b, o, cap, l, _, _, h, _, rfl⟩
    · simp
    · exact h.2
  · simp
end
end Go.Kq

namespace Go.Kq
open Go Go.Proofs
structure KeptM (P:Program) (f:FuncId) (fs:List Fd) (enc:Int→Bool→T→List UInt8):Prop where
  enters:Enters P f
  call:∀ (w:World) (A B:Nat→Prop) (ver fx:Int) (fsv:Value) (ct:List Value) (t:T),FdsR w A fsv fs→RepT w B ct t→(∀ b,A b→b < w.heap.size)→(∀ b,B b→b < w.heap.size)→(enc ver (decide (fx≥0) && decide (ver≥fx)) t).length≤4294967000 →
    Calls P f #[.agg ([fsv,.int .i64 fx]:List Value).toArray,.int .i64 ver,.agg ct.toArray] w fun e w'=>∃ v,e = .returned v∧Fr [] w w'∧OctE w' (From w.heap.size w') v (fxW ver 2++enc ver (decide (fx≥0) && decide (ver≥fx)) t)
theorem kept_m {P:Program} {f:FuncId} {fn:Func} {T22 T26 T30:TypeId} {f19 f36:FuncId} {ct0:Array TypeId} {ct1:Array TypeId} {i0 i1:Nat} {t0 t1 t2 t3 t4 t5 t6 t7 t8 t9 t10:TypeId} {p0 p1 p2 p3 p4 p5 p6 p7 p8 p9 p10:String} {e0 e1 e2 e3 e4 e5 e6 e7 e8 e9 e10:Array Edge} {te:TypeId} {fs:List Fd} {enc:Int→Bool→T→List UInt8}
    (hf:P.funcs[f]?=some fn) (hname:(fn.name == "runtime.NumGoroutine")=false) (hres:fn.results = #[.tmp 6]) (hN:fn.ntmps=14)
    (hbody:fn.body=some (.seq (Code.region i0 ⟨[⟨some 3,.box T30 (.tmp 0),t0,p0,e0,none⟩,
    ⟨some 5,.box T26 (.tmp 2),t1,p1,e1,none⟩,
    ⟨some 6,.assign (.const (.slice none 0 0)),t2,p2,e2,none⟩]⟩ false)
  (.seq (Code.region i1 ⟨[⟨some 7,.move (.tmp 1),t3,p3,e3,none⟩,
    ⟨some 8,.call ⟨.value (.func f36),#[(.tmp 7),(.const (.int .i64 2))],ct0⟩,t4,p4,e4,none⟩,
    ⟨some 9,.load T30 (.tmp 3),t5,p5,e5,none⟩,
    ⟨some 10,.move (.tmp 1),t6,p6,e6,none⟩,
    ⟨some 11,.load T26 (.tmp 5),t7,p7,e7,none⟩,
    ⟨some 12,.call ⟨.value (.func f19),#[(.tmp 9),(.tmp 10),(.tmp 11)],ct1⟩,t8,p8,e8,none⟩,
    ⟨some 13,.call ⟨.builtin .append,#[(.tmp 8),(.tmp 12)],#[T22,T22]⟩,t9,p9,e9,none⟩,
    ⟨some 6,.assign (.tmp 13),t10,p10,e10,none⟩]⟩ true)
  .ret)))
    (hs_T22:sliceOf P T22 te 1 1=true) (hz_T22:zeroIs P te [.int .u8 0]) (hFlT30:Flat P T30 zM) (hFlT26:Flat P T26 zT) (he1:edgeOk 0 [e3,e4,e5,e6,e7,e8,e9,e10] [[],[0],[],[],[],[2,3,4],[0,1,2,3,4,5],[0,1,2,3,4,5,6]]=true) (hmx:P.follows .mixedOrders=true) (hFx:FixM P f36) (hWr:WriteM P f19 fs enc):KeptM P f fs enc:=by
  refine ⟨enters_of hf hname hbody,?_⟩
  intro w A B ver fx fsv ct t hfs ht hA hB hlen
  cases t with
  | mk tn s nl l u =>
  have ht0:=ht
  obtain ⟨sv,lv,uv,rfl,hn0,hs,hl,hu⟩:=repT_iff.1 ht
  have hfs1:=hfs.one
  have hF0:Fr [] w w:=Fr.refl [] w
  refine calls_of_wp hf hbody ?_
  generalize ha0:({ tmps:=#[Value.agg ([fsv,.int .i64 fx]:List Value).toArray,Value.int .i64 ver,Value.agg ([.int .i64 tn,sv,.bool nl,lv,uv]:List Value).toArray]++Array.replicate (fn.ntmps - (#[Value.agg ([fsv,.int .i64 fx]:List Value).toArray,Value.int .i64 ver,Value.agg ([.int .i64 tn,sv,.bool nl,lv,uv]:List Value).toArray]:Array Value).size) undef,defers:=[] }:Act)=a0
  have hz0:a0.tmps.size=14:=by subst ha0;simp[hN]
  have hd0:a0.defers=[]:=by subst ha0;rfl
  have g0_0:get a0 0 = .agg ([fsv,.int .i64 fx]:List Value).toArray:=by subst ha0;exact gAr rfl
  have g0_1:get a0 1 = .int .i64 ver:=by subst ha0;exact gAr rfl
  have g0_2:get a0 2 = .agg ([.int .i64 tn,sv,.bool nl,lv,uv]:List Value).toArray:=by subst ha0;exact gAr rfl
  refine wT fun K1 hK1=>?_
  refine wC (wp_boxL (cs:=[fsv,.int .i64 fx]) (eK g0_0) ?_)
  rintro w2 f2 sz2 r2 th2
  have hF3:Fr [] w w2:=hF0.tr f2
  refine wC (wp_boxL (cs:=[.int .i64 tn,sv,.bool nl,lv,uv]) (eK g0_2) ?_)
  rintro w4 f4 sz4 r4 th4
  have hF5:Fr [] w w4:=hF3.tr f4
  have rb6:=f4.range r2 .nil
  refine wC (wAs (v:=.slice none 0 0) rfl ?_)
  refine wEn fun a7 ha7=>?_
  have hz7:=kS ha7 hz0
  have hd7:=kD ha7 hd0
  have g7_1:=kP ha7 g0_1
  have g7_3:get a7 3 = .pointer (some ⟨w.heap.size,0,none⟩):=kG ha7 hz0
  have g7_5:get a7 5 = .pointer (some ⟨w2.heap.size,0,none⟩):=kG ha7 hz0
  refine hK1 a7 w4 (tUp ?_)
  refine tId (wp_seq_k fun K8 hK8=>?_)
  refine wp_drawR (os:=[⟨some 7,.move (.tmp 1),t3,p3,e3,none⟩,⟨some 8,.call ⟨.value (.func f36),#[(.tmp 7),(.const (.int .i64 2))],ct0⟩,t4,p4,e4,none⟩,⟨some 9,.load T30 (.tmp 3),t5,p5,e5,none⟩,⟨some 10,.move (.tmp 1),t6,p6,e6,none⟩,⟨some 11,.load T26 (.tmp 5),t7,p7,e7,none⟩,⟨some 12,.call ⟨.value (.func f19),#[(.tmp 9),(.tmp 10),(.tmp 11)],ct1⟩,t8,p8,e8,none⟩]) (rest:=[⟨some 13,.call ⟨.builtin .append,#[(.tmp 8),(.tmp 12)],#[T22,T22]⟩,t9,p9,e9,none⟩,⟨some 6,.assign (.tmp 13),t10,p10,e10,none⟩]) [spC [] (.int .i64 ver),spR [0] (fun x w'=>Own w' (From w4.heap.size w') 1 x (fxW ver 2).length (octets (fxW ver 2))),spC [] (.agg ([fsv,.int .i64 fx]:List Value).toArray),spC [] (.int .i64 ver),spC [] (.agg ([.int .i64 tn,sv,.bool nl,lv,uv]:List Value).toArray),spR [2,3,4] (fun x w'=>OctE w' (From w4.heap.size w') x (enc ver (decide (fx≥0) && decide (ver≥fx)) (.mk tn s nl l u)))] 7 [] hmx he1 (by simp[shape]) (by simp[plainO]) (by simp[spC,spR]) (by simp;omega) ⟨lCc _ _ _,(fun v w1 w2 f h=>Own.kept h f (by simp) (fun _ hb=>⟨hb.1,Nat.lt_of_lt_of_le hb.2 f.size⟩)),lCc _ _ _,lCc _ _ _,lCc _ _ _,(fun v w1 w2 f h=>OctE.kept h f (by simp) (fun _ hb=>⟨hb.1,Nat.lt_of_lt_of_le hb.2 f.size⟩)),trivial⟩ ?_ ?_
  · refine oCs ?_ ?_
    · refine op_c fun a' w' hk' hf' hd' K' hK' => ?_
      refine wMv (v:=.int .i64 ver) (by rw[eTm,hk'.get 1 (by omega),g7_1]) ?_
      exact hK'
    refine oCs ?_ ?_
    · refine op_r fun a' w' hk' hf' hd' K' hK' => ?_
      refine wCr (R:=fun vz wz=>Fr [] w' wz∧Own wz (From w'.heap.size wz) 1 vz (fxW ver 2).length (octets (fxW ver 2))) (vs:=#[.int .i64 ver,.int .i64 2]) hFx.enters (by simp only[List.map_toArray,List.map_cons,List.map_nil];rw[show a'.eval (.tmp 7)=Value.int .i64 ver from (by rw[eTm];exact hd'.c (nd':=[]) 0 (by simp) rfl),show a'.eval (.const (.int .i64 2))=Value.int .i64 2 from rfl]) (calls_fresh (hFx.call w' ver 2 (by decide))) ?_
      rintro x9 w9 ⟨fr9,ow9⟩
      exact hK' x9 w9 (ow9.imp_A (fun b hb=>(⟨Nat.le_trans hf'.size hb.1,hb.2⟩:From w4.heap.size w9 b))) fr9
    refine oCs ?_ ?_
    · refine op_c fun a' w' hk' hf' hd' K' hK' => ?_
      refine wp_loadFlat (cs:=[fsv,.int .i64 fx]) (b:=w.heap.size) (o:=0) hFlT30 rfl (by rw[eTm,hk'.get 3 (by omega),g7_3]) ((hf'.range rb6 .nil)) ?_
      exact hK'
    refine oCs ?_ ?_
    · refine op_c fun a' w' hk' hf' hd' K' hK' => ?_
      refine wMv (v:=.int .i64 ver) (by rw[eTm,hk'.get 1 (by omega),g7_1]) ?_
      exact hK'
    refine oCs ?_ ?_
    · refine op_c fun a' w' hk' hf' hd' K' hK' => ?_
      refine wp_loadFlat (cs:=[.int .i64 tn,sv,.bool nl,lv,uv]) (b:=w2.heap.size) (o:=0) hFlT26 rfl (by rw[eTm,hk'.get 5 (by omega),g7_5]) ((hf'.range r4 .nil)) ?_
      exact hK'
    refine oCs ?_ ?_
    · refine op_r fun a' w' hk' hf' hd' K' hK' => ?_
      refine wCr (R:=fun vz wz=>Fr [] w' wz∧OctE wz (From w'.heap.size wz) vz (enc ver (decide (fx≥0) && decide (ver≥fx)) (.mk tn s nl l u))) (vs:=#[.agg ([fsv,.int .i64 fx]:List Value).toArray,.int .i64 ver,.agg ([.int .i64 tn,sv,.bool nl,lv,uv]:List Value).toArray]) hWr.enters (by simp only[List.map_toArray,List.map_cons,List.map_nil];rw[show a'.eval (.tmp 9)=Value.agg ([fsv,.int .i64 fx]:List Value).toArray from (by rw[eTm];exact hd'.c (nd':=[]) 2 (by simp) rfl),show a'.eval (.tmp 10)=Value.int .i64 ver from (by rw[eTm];exact hd'.c (nd':=[]) 3 (by simp) rfl),show a'.eval (.tmp 11)=Value.agg ([.int .i64 tn,sv,.bool nl,lv,uv]:List Value).toArray from (by rw[eTm];exact hd'.c (nd':=[]) 4 (by simp) rfl)]) ((calls_fresh (hWr.call w' A B ver fx fsv _ _ ((hfs.kept hF5 (by simp) (fun _ h=>h)).kept hf' (by simp) (fun _ h=>h)) ((ht0.kept hF5 (by simp) (fun _ h=>h)).kept hf' (by simp) (fun _ h=>h)) (fun b hb=>Nat.lt_of_lt_of_le (hA b hb) (hF5.tr hf').size) (fun b hb=>Nat.lt_of_lt_of_le (hB b hb) (hF5.tr hf').size) (by omega))).mono (by rintro e wz ⟨v,rfl,h1,h2⟩;exact ⟨_,rfl,h1,h2.octE (by omega)⟩)) ?_
      rintro x10 w10 ⟨fr10,ow10⟩
      exact hK' x10 w10 (ow10.kept (Fr.refl [] _) (by simp) (fun b hb=>(⟨Nat.le_trans hf'.size hb.1,hb.2⟩:From w4.heap.size w10 b))) fr10
    exact opsOk_nil
  intro a11 w11 k11 f11 hd_11
  have hz11:a11.tmps.size=14:=k11.size.trans hz7
  have hd11:a11.defers=[]:=k11.defers.trans hd7
  have hF12:Fr [] w w11:=hF5.tr f11
  have rb13:=f11.range rb6 .nil
  have rb14:=f11.range r4 .nil
  rw[wCo]
  obtain ⟨xv,hxv,oxv⟩:∃ xv,get a11 8=xv∧Own w11 (From w4.heap.size w11) 1 xv (fxW ver 2).length (octets (fxW ver 2)):=⟨_,rfl,hd_11.at (d:=1) (by simp) rfl⟩
  obtain ⟨yv,hyv,oyv⟩:∃ yv,get a11 12=yv∧OctE w11 (From w4.heap.size w11) yv (enc ver (decide (fx≥0) && decide (ver≥fx)) (.mk tn s nl l u)):=⟨_,rfl,hd_11.at (d:=5) (by simp) rfl⟩
  refine wp_appA (xs:=fxW ver 2) (ys:=(enc ver (decide (fx≥0) && decide (ver≥fx)) (.mk tn s nl l u))) hs_T22 hz_T22 (by rw[eTm];exact hxv) (by rw[eTm];exact hyv) oxv oyv (by simp only[fxL];omega) ?_
  intro vB wB haB
  obtain ⟨_,hvB,fB,oB,iB⟩:=haB _ rfl
  cases hvB
  have szB:=fB.size
  have hFB:Fr [] w wB:=hF12.trans fB (fun r hr=>.inl (by have:=oxv.spare_in r hr;have:=this.1;have:=hF5.size;omega))
  refine wC (wAs (v:=vB) (eS hz11) ?_)
  refine wEn fun a16 ha16=>?_
  have hz16:=kS ha16 hz11
  have hd16:=kD ha16 hd11
  have g16_6:get a16 6=vB:=kG ha16 hz11
  refine hK8 a16 wB (tUp ?_)
  refine wp_ret ?_
  exact ⟨hd16,_,rIs hres g16_6,_,rfl,hFB,(oB.imp_A (A':=From w.heap.size wB) (by rintro b (h | h);exact ⟨by have:=h.1;have:=hF5.size;omega,by have:=h.2;omega⟩;exact ⟨by have:=h.1;have:=hF12.size;omega,h.2⟩)).octE (by simp only[List.length_append,fxL];omega)⟩
end Go.Kq

namespace Go.Kq
open Go Go.Proofs
def rdVer (g:Rd) (fl:Int→Bool) (st:RSt):Option (Int × V × RSt):=match g (rdNum .i16 2 st).1 (fl (rdNum .i16 2 st).1) (rdNum .i16 2 st).2 with
  | none=>none
  | some (x,s)=>some ((rdNum .i16 2 st).1,x,s)
structure ReadK (P:Program) (ge:Nat) (f:FuncId) (tys:List Ty) (ds:List V) (fl:Int→Bool) (g:Rd):Prop where
  enters:Enters P f
  call:∀ w pb sb uns srcv xs nl er,w.there pb 0 (1+Ty.sizes tys)→w.cell? ⟨pb,0,none⟩=some (.int .i16 0)→(∃ z,w.rangeAt pb 1 z∧Reps w NoFoot tys z ds)→Src w sb srcv xs nl →
    w.cell? ⟨ge,0,none⟩=some er→ge ≠ pb→pb ≠ sb→sb < w.heap.size →
    Calls P f #[.pointer (some ⟨pb,0,none⟩),srcv,.bool uns] w fun e w'=>Fr [⟨pb,0,1+Ty.sizes tys⟩] w w' ∧
      match rdVer g fl ⟨xs,nl,false⟩ with
      | none=>e = .returned er
      | some (ver,x,st')=>if st'.bad then e = .returned er else e = .returned .nilIface∧w'.cell? ⟨pb,0,none⟩=some (.int .i16 ver)∧(-32768≤ver∧ver≤32767)∧∃ ys z,x = .l ys∧w'.rangeAt pb 1 z∧Reps w' (Foot sb w.heap.size w'.heap.size) tys z ys
set_option maxRecDepth 10000 in
theorem root_k {P:Program} {ge:Nat} {f fd:FuncId} {fn:Func} {N tb tv tr:Nat} {cv:Code} {tys:List Ty} {ds:List V} {g:Rd} {d:List V→List V} {fl:Int→Bool}
    {n1 n2 n3 n5 i0 i1 i2 i3 i5:Nat} {TR S Tv T16:Nat} {f16:FuncId} {ats5:Array TypeId} {kv:Nat} {x0:Value} {ats:Array TypeId}
    {t0 t1 t2 t3 t4 t5 t6 t7 t8 t9 t10 t11 t12 t13 t14 t15 t16:TypeId} {p0 p1 p2 p3 p4 p5 p6 p7 p8 p9 p10 p11 p12 p13 p14 p15 p16:String} {e0 e1 e2 e3 e4 e5 e6 e7 e8 e9 e10 e11 e12 e13 e14 e15 e16:Array Edge}
    (hf:P.funcs[f]?=some fn) (hname:(fn.name == "runtime.NumGoroutine")=false) (hres:fn.results = #[.tmp tr]) (hN:fn.ntmps=N)
    (hbody:fn.body=some (.seq (Code.region i0 ⟨[⟨some tr,.assign (.const x0),t0,p0,e0,none⟩]⟩ false)
      (.seq (Code.region i1 ⟨[⟨some n1,.move (.tmp 0),t1,p1,e1,none⟩,⟨some (n1+1),.call ⟨.value (.func fd),#[.tmp n1],ats⟩,t2,p2,e2,none⟩]⟩ false)
      (.seq (Code.region i2 ⟨[⟨some n2,.move (.tmp 1),t3,p3,e3,none⟩,⟨some (n2+1),.build TR #[(0,.tmp n2)],t4,p4,e4,none⟩,⟨some tb,.alloc TR,t5,p5,e5,none⟩,⟨none,.store TR (.tmp tb) (.tmp (n2+1)),t6,p6,e6,none⟩]⟩ false)
      (.seq (Code.region i5 ⟨[⟨some n5,.move (.tmp 0),t12,p12,e12,none⟩,⟨some (n5+1),.call ⟨.value (.func f16),#[.tmp tb],ats5⟩,t13,p13,e13,none⟩,⟨some (n5+2),.nilCheck (.tmp n5),t14,p14,e14,none⟩,⟨some (n5+3),.fieldAddr S (.tmp (n5+2)) kv,t15,p15,e15,none⟩,⟨none,.store T16 (.tmp (n5+3)) (.tmp (n5+1)),t16,p16,e16,none⟩]⟩ false)
      (.seq (Code.region i3 ⟨[⟨some n3,.move (.tmp 0),t7,p7,e7,none⟩,⟨some (n3+1),.nilCheck (.tmp n3),t8,p8,e8,none⟩,⟨some (n3+2),.fieldAddr S (.tmp (n3+1)) kv,t9,p9,e9,none⟩,⟨some (n3+3),.load Tv (.tmp (n3+2)),t10,p10,e10,none⟩,⟨some tv,.assign (.tmp (n3+3)),t11,p11,e11,none⟩]⟩ false)
        cv))))))
    (hcv:Bdy P ge N tb tv tr cv tys ds fl g) (hd:DefM P fd (.int .i16::tys) d) (hdd:∀ v,d (v::ds)=v::ds) (hTR:readerTy P TR) (hTv:scal P Tv=true) (hS:fieldOf P S kv 0=true) (h16:MethV P f16 (.int .i16) (gNum .i16 2)) (hT16:scal P T16=true)
    (hgl:∀ ver f s y s',g ver f s=some (y,s')→∃ ys,y = .l ys)
    (hb:(decide (2 < tr) && decide (tr < tb) && decide (tb < tv) && decide (tv < n1) && decide (tv < n2) && decide (tv < n3) && decide (n1+1 < N) && decide (n2+1 < N) && decide (n3+3 < N) && decide (tv < n5) && decide (n5+3 < N))=true) :
    ReadK P ge f tys ds fl g:=by
  simp only[Bool.and_eq_true,decide_eq_true_eq] at hb
  obtain ⟨⟨⟨⟨⟨⟨⟨⟨⟨⟨b1,b2⟩,b3⟩,b4⟩,b5⟩,b6⟩,b7⟩,b8⟩,b9⟩,b10⟩,b11⟩:=hb
  refine ⟨enters_of hf hname hbody,?_⟩
  intro w pb sb uns srcv xs nl er ht hver hz hsrc her hgp hps hsl
  refine calls_of_wp hf hbody ?_
  generalize ha0:({ tmps:=#[Value.pointer (some ⟨pb,0,none⟩),srcv,Value.bool uns]++Array.replicate (fn.ntmps - #[Value.pointer (some ⟨pb,0,none⟩),srcv,Value.bool uns].size) undef,defers:=[] }:Act)=a0
  have hsz:a0.tmps.size=N:=by subst ha0;simp[hN];omega
  have hd0:a0.defers=[]:=by subst ha0;rfl
  have q0:get a0 0 = .pointer (some ⟨pb,0,none⟩):=by subst ha0;exact gAr rfl
  have q1:get a0 1=srcv:=by subst ha0;exact gAr rfl
  have q2:get a0 2 = .bool uns:=by subst ha0;exact gAr rfl
  refine tId (wp_seq_k fun K1 hK1=>?_)
  refine r_const (m:=3) (by omega) (by omega) fun a1 k1 _=>hK1 a1 w (tUp ?_)
  have hs1:=k1.size
  refine tId (wp_seq_k fun K2 hK2=>?_)
  obtain ⟨z,hz1,hz2⟩:=hz
  have hzl:=hz2.length
  have hzr:w.rangeAt pb 0 (.int .i16 0::z):=by rw[range_cons];exact ⟨hver,by rw[Nat.zero_add];exact hz1⟩
  have hzz:Reps w NoFoot (.int .i16::tys) (.int .i16 0::z) (.n 0::ds):=⟨[.int .i16 0],z,.n 0,ds,rfl,rfl,⟨0,rfl,rfl,by decide,by decide⟩,hz2⟩
  have hlen:(Value.int .i16 0::z).length=1+Ty.sizes tys:=by simp[hzl];omega
  refine r_do (m:=3) (R:=fun w'=>(∃ z',w'.rangeAt pb 0 z'∧Reps w' NoFoot (.int .i16::tys) z' (d (.n 0::ds)))∧Fr [⟨pb,0,1+Ty.sizes tys⟩] w w') hd.enters ((k1.get _ (by omega)).trans q0)
    ((hd.call w pb 0 _ _ hzr (by rw[hlen];exact ht) hzz).mono (by rintro e' w' ⟨x,h1,h2,h3⟩;refine ⟨x,h1,h2,?_⟩;rw[hlen,Nat.zero_add] at h3;exact h3)) (by omega) (by omega) ?_
  rintro a2 w2 ⟨⟨z2,hz3,hz4⟩,f2⟩ k2
  refine hK2 a2 w2 (tUp ?_)
  have hs2:=k2.size
  rw[hdd] at hz4
  obtain ⟨c1,c2,x1,r1,rfl,hx1,⟨iv,rfl,hiv,_,_⟩,hr2⟩:=hz4
  simp at hx1
  obtain ⟨rfl,rfl⟩:=hx1
  simp at hiv
  subst hiv
  rw[List.singleton_append,range_cons,Nat.zero_add] at hz3
  refine tId (wp_seq_k fun K3 hK3=>?_)
  have hsrc2:=hsrc.kept f2 (by intro r hr;simp at hr;subst hr;exact hps)
  have kk2:=k1.trans k2
  refine r_reader (m:=3) hTR ((kk2.get _ (by omega)).trans q1) hsrc2.oneCell (by omega) (by omega) (by omega) (by omega) ?_
  intro a3 w3 rb k3 g3 hrb hrb2 f3 hrr htr
  refine hK3 a3 w3 (tUp ?_)
  have hs3:=k3.size
  have kk3:=kk2.trans k3
  have hpbw:pb < w.heap.size:=there_lt ht (by omega)
  have hgew:=lt_of_cell her
  have f2s:=f2.size
  have f3s:=f3.size
  have f23:Fr [⟨pb,0,1+Ty.sizes tys⟩] w w3:=f2.tr (Fr.nil f3)
  -- the version, out of the source
  have hrw3:RW w3 rb sb ⟨xs,nl,false⟩:=(hsrc2.kept f3 (by simp)).reader hrr htr (by omega)
  have er3:w3.cell? ⟨ge,0,none⟩=some er:=f3.cell (f2.cell her (.cons (.inl (fun h=>hgp h.symm)) .nil)) .nil
  have thp3:w3.there pb 0 (1+Ty.sizes tys):=f23.there ht
  refine wT fun K6 hK6=>?_
  rw[wCo,wMw,eTm,(kk3.get 0 (by omega)).trans q0,wCo]
  refine wp_calls (R:=fun x w'=>Rep w' (Foot sb w3.heap.size w'.heap.size) (.int .i16) [x] (gNum .i16 2 ⟨xs,nl,false⟩).1∧RW w' rb sb (gNum .i16 2 ⟨xs,nl,false⟩).2∧Fr [⟨rb,0,2⟩] w3 w') h16.enters (vs:=#[.pointer (some ⟨rb,0,none⟩)]) (by simp only[List.map_toArray,List.map_cons,List.map_nil,eTm];rw[gR,g3]) (h16.call w3 rb sb ⟨xs,nl,false⟩ hrw3) ?_
  rintro xv w7 ⟨⟨ver,hxv,hver7,hv1,hv2⟩,hrw7,f7⟩
  obtain rfl:xv = .int .i16 ver:=by simpa using hxv
  have hvr:(rdNum .i16 2 ⟨xs,nl,false⟩).1=ver:=by simpa [gNum] using hver7
  have hst7:(gNum .i16 2 ⟨xs,nl,false⟩).2=(rdNum .i16 2 ⟨xs,nl,false⟩).2:=rfl
  rw[hst7] at hrw7
  have f7s:=f7.size
  refine wC (wNc (q:=⟨pb,0,none⟩) (by rw[eTm,gR,gQ]) ?_)
  refine wC (wFa (b:=pb) (i:=0) hS (by rw[eTm,gQ]) ?_)
  refine wC (wp_store hT16 (b:=pb) (o:=0+0) (v:=.int .i16 ver) (by rw[eTm,gQ]) (by rw[eTm,gR,gR,gQ]) rfl (there_part (f7.there thp3) (by omega) (by omega)) ?_)
  rw[pNo,wNi]
  have f8:=Fr.set w7 pb 0 (.int .i16 ver)
  have hc8:(w7.setCell ⟨pb,0,none⟩ (.int .i16 ver)).cell? ⟨pb,0,none⟩=some (.int .i16 ver):=range_set (there_part (f7.there thp3) (by omega) (by omega))
  rw[show 0+0=0 from rfl]
  generalize w7.setCell ⟨pb,0,none⟩ (.int .i16 ver)=w8 at f8 hc8 ⊢
  have f8s:=f8.size
  generalize ha6:(((a3.put (some n5) (.pointer (some ⟨pb,0,none⟩))).put (some (n5+1)) (.int .i16 ver)).put (some (n5+2)) (.pointer (some ⟨pb,0,none⟩))).put (some (n5+3)) (.pointer (some ⟨pb,0,none⟩))=a6
  have k6:Kept tv a3 a6:=by subst ha6;exact (((Kept.put0 (by omega) _).put (by omega) _).put (by omega) _).put (by omega) _
  have hs6:=k6.size
  refine hK6 a6 w8 (tUp ?_)
  have f38:Fr [⟨rb,0,2⟩,⟨pb,0,0+1⟩] w3 w8:=(f7.mono (by intro r hr;simp at hr;subst hr;exact .inr ⟨_,List.mem_cons_self,rfl,Nat.le_refl _,Nat.le_refl _⟩)).trans f8 (by intro r hr;simp at hr;subst hr;exact .inr ⟨⟨pb,0,1⟩,by simp,rfl,by simp,by simp⟩)
  have hz38:w8.rangeAt pb 1 c2:=f38.range (f3.range hz3.2 .nil) (.cons (.inl (by simp only;omega)) (.cons (.inr (.inr (by simp))) .nil))
  have ver3:=hc8
  refine tId (wp_seq_k fun K4 hK4=>?_)
  refine r_load (m:=tv) (pb:=pb) (po:=0) ((k6.get _ (by omega)).trans ((kk3.get _ (by omega)).trans q0)) hTv hS ver3 (by omega) (by omega) (by omega) (by omega) (Nat.le_refl _) fun a4 k4 g4=>hK4 a4 w8 (tUp ?_)
  have hs4:=k4.size
  have hrw:RW w8 rb sb (rdNum .i16 2 ⟨xs,nl,false⟩).2:=hrw7.kept f8 (by intro r hr;simp at hr;subst hr;exact ⟨by simp only;omega,hps⟩)
  have er8:w8.cell? ⟨ge,0,none⟩=some er:=f38.cell er3 (.cons (.inl (by simp only;omega)) (.cons (.inl (fun h=>hgp h.symm)) .nil))
  have hm:Mem ⟨rb,sb,ver,fl ver,uns,er⟩ pb 0 ge w8 (rdNum .i16 2 ⟨xs,nl,false⟩).2:=⟨hrw,er8,hgp,by simp only;omega,by simp only;omega,hps,by simp only;omega⟩
  have fall:∀ w4,Fr [⟨rb,0,2⟩,⟨pb,1,1+Ty.sizes tys⟩] w8 w4→Fr [⟨pb,0,1+Ty.sizes tys⟩] w w4:=by
    intro w4 h4
    refine Fr.trans (f23.trans f38 (by
      intro r hr;simp at hr
      rcases hr with rfl | rfl
      · exact .inl (by simp only;omega)
      · exact .inr ⟨⟨pb,0,1+Ty.sizes tys⟩,by simp,rfl,by simp,by simp only;omega⟩)) h4 ?_
    intro r hr
    simp at hr
    rcases hr with rfl | rfl
    · exact .inl (by simp only;omega)
    · exact .inr ⟨⟨pb,0,1+Ty.sizes tys⟩,by simp,rfl,by simp,by simp⟩
  refine hcv ⟨rb,sb,ver,fl ver,uns,er⟩ pb _ a4 w8 (rdNum .i16 2 ⟨xs,nl,false⟩).2 (by rw[k4.size,k6.size,k3.size,k2.size,k1.size,hsz]) (by rw[k4.defers,k6.defers,k3.defers,k2.defers,k1.defers,hd0]) ((k4.get _ b3).trans ((k6.get _ b3).trans g3))
    ((k4.get _ (by omega)).trans ((k6.get _ (by omega)).trans ((kk3.get _ (by omega)).trans q0))) ((k4.get _ (by omega)).trans ((k6.get _ (by omega)).trans ((kk3.get _ (by omega)).trans q2))) g4 rfl hm (there_part (f38.there thp3) (by omega) (by omega)) ⟨c2,hz38,Reps.kept (f3.nil.tr f38) (fun _ _ h=>h) (fun _ h=>h) hr2⟩ ?_ ?_
  · intro a5 w5 ys st' hg hN5 hd5 hr5 hfr ⟨z5, hz5, hr6⟩
    refine ⟨hd5,_,results_one hres,?_⟩
    refine ⟨fall w5 hfr,?_⟩
    simp only[rdVer,hvr,hg]
    cases hbd:st'.bad with
    | true =>
      rw[hbd] at hr5
      simp only[if_true]
      rw[hr5]
      rfl
    | false =>
      rw[hbd] at hr5
      simp only[Bool.false_eq_true,if_false]
      refine ⟨by rw[hr5];rfl,hfr.cell ver3 (.cons (.inl (by simp only;omega)) (.cons (.inr (.inl (by simp))) .nil)),by simp[IntKind.min,IntKind.max,IntKind.signed,IntKind.bits] at hv1 hv2;omega,ys,z5,rfl,hz5,?_⟩
      exact Reps.kept (Fr.refl [] w5) (by simp) (fun b hb=>hb.mono (by omega) (Nat.le_refl _)) hr6
  · intro hg a5 w5 hN5 hd5 hr5 hfr
    refine ⟨hd5,_,results_one hres,?_⟩
    refine ⟨fall w5 hfr,?_⟩
    simp only[rdVer,hvr,hg]
    rw[hr5]
structure ReadDK (P:Program) (ge:Nat) (f:FuncId) (tys:List Ty) (ds:List V) (fl:Int→Bool) (g:Rd):Prop where
  enters:Enters P f
  call:∀ w pb sb srcv xs nl er,w.there pb 0 (1+Ty.sizes tys)→w.cell? ⟨pb,0,none⟩=some (.int .i16 0)→(∃ z,w.rangeAt pb 1 z∧Reps w NoFoot tys z ds)→Src w sb srcv xs nl →
    w.cell? ⟨ge,0,none⟩=some er→ge ≠ pb→pb ≠ sb→sb < w.heap.size →
    Calls P f #[.pointer (some ⟨pb,0,none⟩),srcv] w fun e w'=>∃ v,e = .returned v∧Fr [⟨pb,0,1+Ty.sizes tys⟩] w w' ∧
      match rdVer g fl ⟨xs,nl,false⟩ with
      | none=>v=er
      | some (ver,x,st')=>if st'.bad then v=er else v = .nilIface∧w'.cell? ⟨pb,0,none⟩=some (.int .i16 ver)∧(-32768≤ver∧ver≤32767)∧∃ ys z,x = .l ys∧w'.rangeAt pb 1 z∧Reps w' (Foot sb w.heap.size w'.heap.size) tys z ys
theorem read_dk {P:Program} {ge:Nat} {f fr:FuncId} {fn:Func} {uns:Bool} {tys:List Ty} {ds:List V} {fl:Int→Bool} {g:Rd} {i0 i1:Nat} {ats:Array TypeId} {t0 t1 t2 t3 t4:TypeId} {p0 p1 p2 p3 p4:String} {e0 e1 e2 e3 e4:Array Edge}
    (hr:ReadK P ge fr tys ds fl g) (hf:P.funcs[f]?=some fn) (hname:(fn.name == "runtime.NumGoroutine")=false) (hres:fn.results = #[.tmp 4]) (hN:fn.ntmps=8)
    (hbody:fn.body=some (.seq (Code.region i0 ⟨[⟨some 4,.assign (.const .nilIface),t0,p0,e0,none⟩]⟩ false)
      (.seq (Code.region i1 ⟨[⟨some 5,.move (.tmp 0),t1,p1,e1,none⟩,⟨some 6,.move (.tmp 1),t2,p2,e2,none⟩,⟨some 7,.call ⟨.value (.func fr),#[.tmp 5,.tmp 6,.const (.bool uns)],ats⟩,t3,p3,e3,none⟩,⟨some 4,.assign (.tmp 7),t4,p4,e4,none⟩]⟩ false) .ret))):ReadDK P ge f tys ds fl g:=by
  refine ⟨enters_of hf hname hbody,?_⟩
  intro w pb sb srcv xs nl er h1 h4 h5 h6 h7 h8 h9 h10
  have hc:=hr.call w pb sb uns srcv xs nl er h1 h4 h5 h6 h7 h8 h9 h10
  refine read_m hf hname hres hN hbody hr.enters (hc.mono ?_)
  rintro e w' ⟨hF,hm⟩
  cases hg:rdVer g fl ⟨xs,nl,false⟩ with
  | none=>rw[hg] at hm;exact ⟨er,hm,hF,by simp⟩
  | some y =>
    obtain ⟨ver,x,st'⟩:=y
    rw[hg] at hm
    simp only at hm
    by_cases hb:st'.bad
    · rw[if_pos hb] at hm;exact ⟨er,hm,hF,by simp[hb]⟩
    · rw [if_neg hb] at hm
      obtain ⟨rfl,h11,h12⟩:=hm
      exact ⟨.nilIface,rfl,hF,by simp only[hb];exact ⟨trivial,h11,h12⟩⟩
structure NewVM (P:Program) (f:FuncId) (tys:List Ty) (ds:List V):Prop where
  enters:Enters P f
  call:∀ w,Calls P f #[] w fun e w'=>∃ z:List Value,e = .returned (.agg z.toArray)∧Fr [] w w'∧Reps w' NoFoot tys z ds
theorem new_v {P:Program} {f fd:FuncId} {fn:Func} {TM:TypeId} {tys:List Ty} {d:List V→List V} {zs:List Value} {i0 i1 i2 i3:Nat} {ats:Array TypeId}
    {t0 t1 t2 t3 t4:TypeId} {p0 p1 p2 p3 p4:String} {e0 e1 e2 e3 e4:Array Edge} (hf:P.funcs[f]?=some fn) (hname:(fn.name == "runtime.NumGoroutine")=false) (hres:fn.results = #[.cell 0 TM]) (hN:fn.ntmps=4)
    (hbody:fn.body=some (.seq (Code.region i0 ⟨[⟨some 0,.alloc TM,t0,p0,e0,none⟩]⟩ false)
      (.seq (Code.region i1 ⟨[⟨some 1,.alloc TM,t1,p1,e1,none⟩]⟩ false)
      (.seq (Code.region i2 ⟨[⟨some 2,.call ⟨.value (.func fd),#[.tmp 1],ats⟩,t2,p2,e2,none⟩]⟩ false)
      (.seq (Code.region i3 ⟨[⟨some 3,.load TM (.tmp 1),t3,p3,e3,none⟩,⟨none,.store TM (.tmp 0) (.tmp 3),t4,p4,e4,none⟩]⟩ false) .ret)))))
    (hX:Flat P TM zs) (hzr:∀ w,Reps w NoFoot tys zs (Ty.zvs tys)) (hones:∀ (w:World) (cs:List Value) (ys:List V),Reps w NoFoot tys cs ys→∀ u ∈ cs,u.oneCell'=true) (hd:DefM P fd tys d):NewVM P f tys (d (Ty.zvs tys)):=by
  refine ⟨enters_of hf hname hbody,fun w=>?_⟩
  refine calls_of_wp hf hbody ?_
  generalize ha0:({ tmps:=#[]++Array.replicate (fn.ntmps - #[].size) undef,defers:=[] }:Act)=a0
  have hsz:a0.tmps.size=4:=by subst ha0;simp[hN]
  have hd0:a0.defers=[]:=by subst ha0;rfl
  have hzl:zs.length=Ty.sizes tys:=(hzr w).length
  refine wT fun K1 hK1=>?_
  refine wC (wp_alloc hX.zero ?_)
  rw[wNi]
  have fa:=Fr.alloc [] w (.cells (Value.agg zs.toArray).cells TM)
  have tha:(w.alloc (.cells (Value.agg zs.toArray).cells TM)).there w.heap.size 0 zs.length:=by have:=there_new w (Value.agg zs.toArray).cells TM;simpa [Value.cells] using this
  have sza:=size_alloc w (.cells (Value.agg zs.toArray).cells TM)
  generalize w.alloc (.cells (Value.agg zs.toArray).cells TM)=w1 at fa tha sza ⊢
  have q0:get (a0.put (some 0) (.pointer (some ⟨w.heap.size,0,none⟩))) 0 = .pointer (some ⟨w.heap.size,0,none⟩):=gQ
  have hz1:(a0.put (some 0) (.pointer (some ⟨w.heap.size,0,none⟩))).tmps.size=4:=by simp only[sPu];exact hsz
  have hd1:(a0.put (some 0) (.pointer (some ⟨w.heap.size,0,none⟩))).defers=[]:=by simp only[dPu];exact hd0
  generalize a0.put (some 0) (.pointer (some ⟨w.heap.size,0,none⟩))=a1 at q0 hz1 hd1 ⊢
  refine hK1 a1 w1 (tUp ?_)
  refine wT fun K2 hK2=>?_
  refine wC (wp_alloc hX.zero ?_)
  rw[wNi]
  have fb:=Fr.alloc [] w1 (.cells (Value.agg zs.toArray).cells TM)
  have thb:(w1.alloc (.cells (Value.agg zs.toArray).cells TM)).there w1.heap.size 0 zs.length:=by have:=there_new w1 (Value.agg zs.toArray).cells TM;simpa [Value.cells] using this
  have rb:(w1.alloc (.cells (Value.agg zs.toArray).cells TM)).rangeAt w1.heap.size 0 zs:=by have:=range_new w1 (Value.agg zs.toArray).cells TM (0,0);simpa [Value.cells] using this
  have szb:=size_alloc w1 (.cells (Value.agg zs.toArray).cells TM)
  generalize w1.alloc (.cells (Value.agg zs.toArray).cells TM)=w2 at fb thb rb szb ⊢
  refine hK2 _ w2 (tUp ?_)
  refine wT fun K3 hK3=>?_
  rw[wCo]
  refine wp_calls (R:=fun _ w'=>(∃ z',w'.rangeAt w1.heap.size 0 z'∧Reps w' NoFoot tys z' (d (Ty.zvs tys)))∧Fr [⟨w1.heap.size,0,0+zs.length⟩] w2 w') hd.enters (vs:=#[.pointer (some ⟨w1.heap.size,0,none⟩)]) (by simp only[List.map_toArray,List.map_cons,List.map_nil,eTm];rw[gQ])
    ((hd.call w2 w1.heap.size 0 _ _ rb thb (hzr w2)).mono (by rintro e' w' ⟨x,h1,h2,h3⟩;exact ⟨x,h1,h2,h3⟩)) ?_
  rintro x w3 ⟨⟨z',hz',hr'⟩,f3⟩
  rw[wNi]
  have hz3:=f3.size
  have hzl':z'.length=Ty.sizes tys:=hr'.length
  refine hK3 _ w3 (tUp ?_)
  refine wT fun K4 hK4=>?_
  refine wC (wp_loadFlat hX (b:=w1.heap.size) (o:=0) (cs:=z') (by omega) (by rw[eTm,gR,gQ]) hz' ?_)
  rw[wCo]
  have th3:w3.there w.heap.size 0 z'.length:=by rw[hzl',← hzl];exact f3.there (fb.there tha)
  refine wp_storeFlat hX (b:=w.heap.size) (o:=0) (cs:=z') (by omega) (by rw[eTm,gR,gR,gR,q0]) (by rw[eTm,gQ]) (hones _ _ _ hr') th3 ?_
  rw[pNo,wNi]
  have f4:=Fr.sets w.heap.size z' w3 0
  have r4:=World.rangeAt_setCells_same w3 w.heap.size 0 z' th3
  refine hK4 _ _ (wp_ret ?_)
  refine ⟨by simp only[dPu];exact hd1,_,results_cell hres hX (by omega) (by rw[gR,gR,gR,q0]) r4,z',rfl,?_,hr'.kept f4 (fun _ _ h=>h) (fun _ h=>h)⟩
  refine ((fa.tr fb).trans f3 (by intro r hr;simp at hr;subst hr;exact .inl (by simp only;omega))).trans f4 (by intro r hr;simp at hr;subst hr;exact .inl (Nat.le_refl _))
def T.setN (v:Int):T→T | .mk _ s nl l u=>.mk v s nl l u
def doorResK (g:Rd) (fl:Int→Bool) (tell:V→T) (xs:List UInt8):T × Bool :=
  match rdVer g fl ⟨xs,xs.isEmpty,false⟩ with
  | none=>(.zero,false)
  | some (ver,x,st)=>if st.bad then (.zero,false) else ((tell (consV (.n ver) x)).setN ver,true)
structure DoorK (P:Program) (ge:Nat) (f:FuncId) (res:List UInt8→T × Bool):Prop where
  enters:Enters P f
  call:∀ w A v xs er ty u,OctE w A v xs→xs.length≤4294967296→w.cell? ⟨ge,0,none⟩=some er→er = .iface ty u →
    Calls P f #[v] w fun e w'=>∃ cs:List Value,e = .returned (.tuple #[.agg cs.toArray,.bool (res xs).2])∧Fr [] w w'∧RepT w' (From w.heap.size w') cs (res xs).1
set_option maxRecDepth 10000 in
theorem door_k {P:Program} {ge fd:Nat} {fn:Func} {tys:List Ty} {ds:List V} {fl:Int→Bool} {g:Rd} {tell:V→T} {zs:List Value}
    {T22 T27 T48 T2 T56 T75 te:TypeId} {f22 f25 f26:FuncId} {b0 b2 b3:Array TypeId} {i0 i1 i2 i3 i4 i5 i6:Nat}
    {t0 t1 t2 t3 t4 t5 t6 t7 t8 t9 t10 t11 t12 t13 t14 t15 t16 t17 t18 t19 t20 t21 t22:TypeId} {p0 p1 p2 p3 p4 p5 p6 p7 p8 p9 p10 p11 p12 p13 p14 p15 p16 p17 p18 p19 p20 p21 p22:String} {e0 e1 e2 e3 e4 e5 e6 e7 e8 e9 e10 e11 e12 e13 e14 e15 e16 e17 e18 e19 e20 e21 e22:Array Edge}
    (hf:P.funcs[fd]?=some fn) (hname:(fn.name == "runtime.NumGoroutine")=false) (hres:fn.results = #[.cell 2 T27,.tmp 3]) (hN:fn.ntmps=18)
    (hbody:fn.body=some (.seq (Code.region i0 ⟨[⟨some 2,.alloc T27,t0,p0,e0,none⟩,⟨some 3,.assign (.const (.bool false)),t1,p1,e1,none⟩]⟩ false)
  (.seq (Code.region i1 ⟨[⟨some 6,.call ⟨.value (.func f22),#[],b0⟩,t2,p2,e2,none⟩,⟨some 4,.alloc T75,t3,p3,e3,none⟩,⟨none,.store T75 (.tmp 4) (.tmp 6),t4,p4,e4,none⟩]⟩ false)
  (.seq (.seq (Code.region i3 ⟨[⟨some 7,.move (.tmp 0),t9,p9,e9,none⟩,
    ⟨some 8,.call ⟨.builtin .append,#[(.const (.slice none 0 0)),(.tmp 7)],#[T22,T22]⟩,t10,p10,e10,none⟩,
    ⟨some 9,.call ⟨.value (.func f25),#[(.tmp 4),(.tmp 8)],b2⟩,t11,p11,e11,none⟩,
    ⟨some 10,.binOp .neq T56 (.tmp 9) (.const .nilIface) T56,t12,p12,e12,none⟩]⟩ false)
  (.cond (.tmp 10) (.seq (Code.region i4 ⟨[⟨some 11,.build T27 #[],t13,p13,e13,none⟩,
    ⟨none,.store T27 (.tmp 2) (.tmp 11),t14,p14,e14,none⟩,
    ⟨some 3,.assign (.const (.bool false)),t15,p15,e15,none⟩]⟩ false)
  .ret)
  .skip))
  (.seq (Code.region i5 ⟨[⟨some 12,.call ⟨.value (.func f26),#[(.tmp 4)],b3⟩,t17,p17,e17,none⟩,⟨some 5,.alloc T27,t16,p16,e16,none⟩,⟨none,.store T27 (.tmp 5) (.tmp 12),t18,p18,e18,none⟩]⟩ false)
  (.seq (Code.region i2 ⟨[⟨some 13,.fieldAddr T75 (.tmp 4) 0,t5,p5,e5,none⟩,⟨some 14,.load T48 (.tmp 13),t6,p6,e6,none⟩,⟨some 15,.convert T48 T2 (.tmp 14),t7,p7,e7,none⟩,⟨some 16,.fieldAddr T27 (.tmp 5) 0,t8,p8,e8,none⟩,⟨none,.store T2 (.tmp 16) (.tmp 15),t19,p19,e19,none⟩]⟩ false)
  (.seq (Code.region i6 ⟨[⟨some 17,.load T27 (.tmp 5),t20,p20,e20,none⟩,⟨none,.store T27 (.tmp 2) (.tmp 17),t21,p21,e21,none⟩,⟨some 3,.assign (.const (.bool true)),t22,p22,e22,none⟩]⟩ false)
  .ret)))))))
    (hT:Flat P T27 zT) (hX:Flat P T75 zs) (hzl:zs.length=1+Ty.sizes tys) (hs:sliceOf P T22 te 1 1=true) (hz:zeroIs P te [.int .u8 0]) (h48:scal P T48=true) (h48i:intOf P T48 .i16=true) (h2:scal P T2=true) (h2i:intOf P T2 .i64=true) (h56:ifaceTy P T56=true)
    (hones:∀ (w:World) (cs:List Value) (ys:List V),Reps w NoFoot (.int .i16::tys) cs ys→∀ u ∈ cs,u.oneCell'=true)
    (hnew:NewVM P f22 (.int .i16::tys) (.n 0::ds)) (hread:ReadDK P ge f25 tys ds fl g) (htell:TellM P f26 (.st (.int .i16::tys)) tell) :
    DoorK P ge fd (doorResK g fl tell):=by
  refine ⟨enters_of hf hname hbody,?_⟩
  intro w A v xs er ty u hv hxl her hiface
  have hge:=lt_of_cell her
  refine calls_of_wp hf hbody ?_
  generalize ha0:({ tmps:=#[v]++Array.replicate (fn.ntmps - #[v].size) undef,defers:=[] }:Act)=a0
  have hsz:a0.tmps.size=18:=by subst ha0;simp[hN]
  have hd0:a0.defers=[]:=by subst ha0;rfl
  have g0:get a0 0=v:=by subst ha0;exact gAr rfl
  refine wT fun K1 hK1=>?_
  refine wC (wp_alloc hT.zero ?_)
  rw[wCo,wAg,eCo,wNi]
  have f1:=Fr.alloc [] w (.cells (Value.agg zT.toArray).cells T27)
  have th1:(w.alloc (.cells (Value.agg zT.toArray).cells T27)).there w.heap.size 0 5:=there_new w zT.toArray T27
  have sz1:=size_alloc w (.cells (Value.agg zT.toArray).cells T27)
  generalize w.alloc (.cells (Value.agg zT.toArray).cells T27)=w1 at f1 th1 sz1 ⊢
  generalize ha1:(a0.put (some 2) (.pointer (some ⟨w.heap.size,0,none⟩))).put (some 3) (.bool false)=a1
  have k1:Kept 2 a0 a1:=by subst ha1;exact (Kept.put0 (by omega) _).put (by omega) _
  have q2:get a1 2 = .pointer (some ⟨w.heap.size,0,none⟩):=by subst ha1;rw[gR,gQ]
  have hz1:=k1.size
  refine hK1 a1 w1 (tUp ?_)
  refine wT fun K2 hK2=>?_
  rw[wCo]
  refine wp_calls (R:=fun x w'=>∃ z:List Value,x = .agg z.toArray∧Fr [] w1 w'∧Reps w' NoFoot (.int .i16::tys) z (.n 0::ds)) hnew.enters (vs:=#[]) (by simp)
    ((hnew.call w1).mono (by rintro e' w' ⟨z,rfl,h⟩;exact ⟨_,rfl,z,rfl,h⟩)) ?_
  rintro x w2 ⟨z0,rfl,f2,hzs⟩
  have hz0l:z0.length=1+Ty.sizes tys:=hzs.length
  refine wC (wp_alloc hX.zero ?_)
  have fb:=Fr.alloc [] w2 (.cells (Value.agg zs.toArray).cells T75)
  have thb:(w2.alloc (.cells (Value.agg zs.toArray).cells T75)).there w2.heap.size 0 zs.length:=by have:=there_new w2 (Value.agg zs.toArray).cells T75;simpa [Value.cells] using this
  have szb:=size_alloc w2 (.cells (Value.agg zs.toArray).cells T75)
  generalize w2.alloc (.cells (Value.agg zs.toArray).cells T75)=w2a at fb thb szb ⊢
  rw[wCo]
  have thb0:w2a.there w2.heap.size 0 z0.length:=by rw[hz0l,← hzl];exact thb
  refine wp_storeFlat hX (cs:=z0) (b:=w2.heap.size) (o:=0) (by omega) (by rw[eTm,gQ]) (by rw[eTm,gR,gQ]) (hones _ _ _ hzs) thb0 ?_
  rw[pNo,wNi]
  have fst:=Fr.sets w2.heap.size z0 w2a 0
  have rst:=World.rangeAt_setCells_same w2a w2.heap.size 0 z0 thb0
  generalize w2a.setCells w2.heap.size 0 z0=w3 at fst rst ⊢
  have sz2:=f2.size
  have sz3:=fst.size
  generalize ha3:(a1.put (some 6) (.agg z0.toArray)).put (some 4) (.pointer (some ⟨w2.heap.size,0,none⟩))=a3
  have k3:Kept 4 a1 a3:=by subst ha3;exact (Kept.put0 (by omega) _).put (by omega) _
  have q4:get a3 4 = .pointer (some ⟨w2.heap.size,0,none⟩):=by subst ha3;exact gQ
  have hz3:=k3.size
  have hzs3:Reps w3 NoFoot (.int .i16::tys) z0 (.n 0::ds):=(hzs.kept fb (fun _ _ h=>h) (fun _ h=>h)).kept fst (fun _ _ h=>h) (fun _ h=>h)
  have hth3:w3.there w2.heap.size 0 (1+Ty.sizes tys):=by rw[← hzl];exact fst.there thb
  obtain ⟨c1,c2,x1,r1,rfl,hx1,hr1,hr2⟩:=hzs3
  obtain ⟨rfl,rfl⟩:=List.cons.inj hx1
  obtain ⟨i,rfl,hi0,_⟩:=hr1
  obtain rfl:(0:Int)=i:=by simpa using hi0
  have hcr:=range_cons.1 (show w3.rangeAt w2.heap.size 0 (.int .i16 0::c2) from rst)
  have f03:Fr [] w w3:=by
    refine (f1.tr (f2.tr fb)).trans fst ?_
    intro r hr;simp at hr;subst hr;exact .inl (by simp only;omega)
  have th3:w3.there w.heap.size 0 5:=fst.there (fb.there (f2.there th1))
  generalize hpbv:w2.heap.size=pb at *
  refine hK2 a3 w3 (tUp ?_)
  refine tId (wp_seq_k fun K4 hK4=>?_)
  refine wS fun K5 hK5=>?_
  rw[wCo,wMw,eTm,k3.get 0 (by omega),k1.get 0 (by omega),g0,wCo]
  refine wp_copySrc (xs:=xs) (A:=A) (v:=v) hs hz (by rw[eTm,gQ]) (hv.kept f03 (by simp) (fun _ h=>h)) (by omega) ?_
  intro v' w4 sb' f4 hsb1 hsb2 hsrc'
  rw[wCo]
  have sz4:=f4.size
  obtain ⟨sb,hsbp,hsbl,hsrc,hsbo⟩:∃ sb,pb ≠ sb∧sb < w4.heap.size∧Src w4 sb v' xs xs.isEmpty∧w.heap.size≤sb:=by
    by_cases hx:xs=[]
    · subst hx
      refine ⟨w.heap.size,by omega,by omega,?_,Nat.le_refl _⟩
      rcases hsrc' with h | ⟨h,_⟩
      · exact .inl h
      · simp at h
    · exact ⟨sb',by omega,hsb2 hx,hsrc',by omega⟩
  have her4:w4.cell? ⟨ge,0,none⟩=some er:=f4.cell (f03.cell her .nil) .nil
  refine wp_calls hread.enters (vs:=#[.pointer (some ⟨pb,0,none⟩),v'])
    (by
      simp only[List.map_toArray,List.map_cons,List.map_nil,eTm]
      rw[gR,gR,q4,gQ])
    (hread.call w4 pb sb v' xs xs.isEmpty er (f4.there hth3) (f4.cell hcr.1 .nil) ⟨c2,f4.range hcr.2 .nil,Reps.kept f4 (by simp) (fun _ h=>h) hr2⟩ hsrc her4 (by omega) hsbp hsbl) ?_
  rintro rv w5 ⟨f5,hm⟩
  rw[wCo]
  have f05:Fr [] w w5:=by
    refine f03.trans (Fr.trans (l':=[⟨pb,0,1+Ty.sizes tys⟩]) (l:=[⟨pb,0,1+Ty.sizes tys⟩]) (f4.nil (l:=_)) f5 (fun _ h=>Rng.in_self h)) ?_
    intro r hr;simp at hr;subst hr;exact .inl (by simp only;omega)
  have th5:w5.there w.heap.size 0 5:=f5.there (f4.there th3)
  have sz5:=f5.size
  have hpb5:pb < w5.heap.size:=by omega
  obtain ⟨b,hbv,hbt,hbf⟩:∃ b,ErrIs rv b∧(b=true→doorResK g fl tell xs=(.zero,false)) ∧
      (b=false→∃ ver ys z,(-32768≤ver∧ver≤32767)∧w5.cell? ⟨pb,0,none⟩=some (.int .i16 ver)∧doorResK g fl tell xs=((tell (.l (.n ver::ys))).setN ver,true)∧w5.rangeAt pb 1 z∧Reps w5 (Foot sb w4.heap.size w5.heap.size) tys z ys):=by
    subst hiface
    unfold doorResK
    cases hg:rdVer g fl ⟨xs,xs.isEmpty,false⟩ with
    | none=>rw[hg] at hm;simp only at hm;subst hm;exact ⟨true,.yes _ _,by simp,by simp⟩
    | some y =>
      obtain ⟨ver,x,st'⟩:=y
      rw[hg] at hm
      simp only at hm
      by_cases hb:st'.bad
      · rw[if_pos hb] at hm;subst hm;exact ⟨true,.yes _ _,by simp[hb],by simp⟩
      · rw [if_neg hb] at hm
        obtain ⟨rfl,h11,h13,ys,z,rfl,h12⟩:=hm
        exact ⟨false,.no,by simp,fun _=>⟨ver,ys,z,h13,h11,by simp[hb,consV],h12⟩⟩
  clear hm
  refine wp_neqNil (b:=b) h56 (by rw[eTm,gQ]) hbv ?_
  rw[wNi]
  generalize ha5:((((a3.put (some 7) v).put (some 8) v').put (some 9) rv).put (some 10) (.bool b))=a5
  have k5:Kept 7 a3 a5:=by subst ha5;exact (((Kept.put0 (by omega) _).put (by omega) _).put (by omega) _).put (by omega) _
  have q10:get a5 10 = .bool b:=by subst ha5;exact gQ
  have hz5:=k5.size
  have q2':get a5 2 = .pointer (some ⟨w.heap.size,0,none⟩):=by rw[k5.get 2 (by omega),k3.get 2 (by omega),q2]
  have q4':get a5 4 = .pointer (some ⟨pb,0,none⟩):=by rw[k5.get 4 (by omega),q4]
  have hd5:a5.defers=[]:=by rw[k5.defers,k3.defers,k1.defers,hd0]
  refine hK5 a5 w5 ?_
  refine wp_cond_split (t:=b) (by rw[eTm,q10]) (fun hb=>?_) fun hb=>wp_skip (hK4 a5 w5 (tUp ?_))
  · refine wp_seq_k fun K6 hK6 => ?_
    refine wp_reg ?_
    refine wC (wp_build0 hT ?_)
    refine wC (wp_storeFlat hT (cs:=zT) (b:=w.heap.size) (o:=0) rfl (by rw[eTm,gR,q2']) (by rw[eTm,gQ]) (by simp[zT,Value.oneCell']) th5 ?_)
    rw[pNo,wCo,wAg,eCo,wNi]
    have f6:=Fr.sets w.heap.size zT w5 0
    have r6:=World.rangeAt_setCells_same (w:=w5) w.heap.size 0 zT th5
    refine hK6 _ _ (wp_ret ?_)
    refine ⟨by simp only[dPu];exact hd5,_,results_cell2 hres hT (cs:=zT) rfl (by rw[gR,gR,q2']) r6 (gQ),zT,by rw[hbt hb],?_,by rw[hbt hb];exact repT_zero⟩
    refine f05.trans f6 ?_
    intro r hr;simp at hr;subst hr;exact .inl (Nat.le_refl _)
  · obtain ⟨ver, ys, z, hvr, c5, hres2, hrz, hrs⟩ := hbf hb
    refine wT fun K6 hK6=>?_
    rw[wCo]
    refine wp_calls (R:=fun x w'=>∃ cs:List Value,x = .agg cs.toArray∧Fr [] w5 w'∧RepT w' (From w5.heap.size w') cs (tell (.l (.n ver::ys)))) htell.enters (vs:=#[.pointer (some ⟨pb,0,none⟩)]) (by simp only[List.map_toArray,List.map_cons,List.map_nil,eTm];rw[q4'])
      ((htell.call w5 pb 0 (.int .i16 ver::z) (.l (.n ver::ys)) (Foot sb w4.heap.size w5.heap.size) (range_cons.2 ⟨c5,hrz⟩)
        ⟨_,rfl,[.int .i16 ver],z,.n ver,ys,rfl,rfl,⟨ver,rfl,rfl,by simp[IntKind.min,IntKind.signed,IntKind.bits];omega,by simp[IntKind.max,IntKind.signed,IntKind.bits];omega⟩,hrs⟩
        (by rintro b' (rfl | h) <;> omega) hpb5).mono (by rintro e' w' ⟨cs,rfl,h⟩;exact ⟨_,rfl,cs,rfl,h⟩)) ?_
    rintro x w6 ⟨cs,rfl,f6,hrt⟩
    have hcl:=hrt.length
    have sz6:=f6.size
    refine wC (wp_alloc hT.zero ?_)
    have f7:=Fr.alloc [] w6 (.cells (Value.agg zT.toArray).cells T27)
    have th7:(w6.alloc (.cells (Value.agg zT.toArray).cells T27)).there w6.heap.size 0 5:=there_new w6 zT.toArray T27
    have sz7:=size_alloc w6 (.cells (Value.agg zT.toArray).cells T27)
    generalize w6.alloc (.cells (Value.agg zT.toArray).cells T27)=w7 at f7 th7 sz7 ⊢
    rw[wCo]
    have th7':w7.there w6.heap.size 0 cs.length:=by rw[hcl];exact th7
    refine wp_storeFlat hT (cs:=cs) (b:=w6.heap.size) (o:=0) hcl (by rw[eTm,gQ]) (by rw[eTm,gR,gQ]) hrt.ones th7' ?_
    rw[pNo,wNi]
    have f8:=Fr.sets w6.heap.size cs w7 0
    have r8:=World.rangeAt_setCells_same (w:=w7) w6.heap.size 0 cs th7'
    generalize w7.setCells w6.heap.size 0 cs=w8 at f8 r8 ⊢
    have sz8:=f8.size
    generalize ha8:((a5.put (some 12) (.agg cs.toArray)).put (some 5) (.pointer (some ⟨w6.heap.size,0,none⟩)))=a8
    have q5:get a8 5 = .pointer (some ⟨w6.heap.size,0,none⟩):=by subst ha8;exact gQ
    have q48:get a8 4 = .pointer (some ⟨pb,0,none⟩):=by subst ha8;rw[gR,gR,q4']
    have q28:get a8 2 = .pointer (some ⟨w.heap.size,0,none⟩):=by subst ha8;rw[gR,gR,q2']
    have hz8:a8.tmps.size=18:=by subst ha8;simp only[sPu];omega
    have hd8:a8.defers=[]:=by subst ha8;simp only[dPu];exact hd5
    have f58:Fr [] w5 w8:=(f6.tr f7).trans f8 (by intro r hr;simp at hr;subst hr;exact .inl (by simp only;omega))
    refine hK6 a8 w8 (tUp ?_)
    refine wT fun K7 hK7=>?_
    rw[wCo]
    have hF75:fieldOf P T75 0 0=true:=hX.field (by omega)
    refine wFa (b:=pb) (i:=0) hF75 (by rw[eTm,q48]) ?_
    refine wC (wp_load h48 (b:=pb) (o:=0+0) (by rw[eTm,gQ]) (f58.cell c5 .nil) ?_)
    refine wC (wCv (k1:=.i16) (i:=ver) h48i h2i (by rw[eTm,gQ]) ?_)
    have hwr:IntKind.i64.wrap ver=ver:=by rw[IntKind.wrap_i64];omega
    rw[hwr,wCo]
    refine wFa (b:=w6.heap.size) (i:=0) (hT.field (k:=0) (by decide)) (by rw[eTm,gR,gR,gR,q5]) ?_
    rw[wCo]
    have th8:w8.there w6.heap.size 0 cs.length:=f8.there th7'
    refine wp_store h2 (b:=w6.heap.size) (o:=0+0) (v:=.int .i64 ver) (by rw[eTm,gQ]) (by rw[eTm,gR,gQ]) rfl (there_part th8 (by omega) (by omega)) ?_
    rw[pNo,wNi]
    have f9:=Fr.set w8 w6.heap.size (0+0) (.int .i64 ver)
    have r9:=range_setAt (o:=0) (i:=0) (v:=.int .i64 ver) r8 th8 (by omega)
    generalize w8.setCell ⟨w6.heap.size,0+0,none⟩ (.int .i64 ver)=w9 at f9 r9 ⊢
    have sz9:=f9.size
    have hrt9:RepT w9 (From w5.heap.size w6) cs (tell (.l (.n ver::ys))):=(((hrt.kept f7 (by simp) (fun _ h=>h)).kept f8 (by intro r hr hA;simp at hr;subst hr;have:=hA.2;simp only at this;omega) (fun _ h=>h))).kept f9 (by intro r hr hA;simp at hr;subst hr;have:=hA.2;simp only at this;omega) (fun _ h=>h)
    have hset:RepT w9 (From w5.heap.size w6) (cs.set 0 (.int .i64 ver)) ((tell (.l (.n ver::ys))).setN ver):=by
      generalize tell (.l (.n ver::ys))=tt at hrt9
      cases tt with
      | mk n s nl l u =>
        obtain ⟨sv,lv,uv,rfl,_,h1,h2,h3⟩:=repT_iff.1 hrt9
        exact repT_iff.2 ⟨sv,lv,uv,rfl,by omega,h1,h2,h3⟩
    generalize ha9:((((a8.put (some 13) (.pointer (some ⟨pb,0+0,none⟩))).put (some 14) (.int .i16 ver)).put (some 15) (.int .i64 ver)).put (some 16) (.pointer (some ⟨w6.heap.size,0+0,none⟩)))=a9
    have k9:Kept 13 a8 a9:=by subst ha9;exact (((Kept.put0 (by omega) _).put (by omega) _).put (by omega) _).put (by omega) _
    have hz9:=k9.size
    refine hK7 a9 w9 (tUp ?_)
    refine wT fun K8 hK8=>?_
    have hcl9:(cs.set 0 (.int .i64 ver)).length=zT.length:=by rw[List.length_set];exact hcl
    refine wC (wp_loadFlat hT (b:=w6.heap.size) (o:=0) (cs:=cs.set 0 (.int .i64 ver)) hcl9 (by rw[eTm,k9.get 5 (by omega),q5]) r9 ?_)
    rw[wCo]
    have th9:w9.there w.heap.size 0 (cs.set 0 (.int .i64 ver)).length:=by rw[hcl9];exact f9.there (f58.there th5)
    refine wp_storeFlat hT (cs:=cs.set 0 (.int .i64 ver)) (b:=w.heap.size) (o:=0) hcl9 (by rw[eTm,gR,k9.get 2 (by omega),q28]) (by rw[eTm,gQ]) hset.ones th9 ?_
    rw[pNo,wCo,wAg,eCo,wNi]
    have f10:=Fr.sets w.heap.size (cs.set 0 (.int .i64 ver)) w9 0
    have r10:=World.rangeAt_setCells_same (w:=w9) w.heap.size 0 (cs.set 0 (.int .i64 ver)) th9
    have sz10:=f10.size
    refine hK8 _ _ (wp_ret ?_)
    refine ⟨by simp only[dPu];rw[k9.defers,hd8],_,results_cell2 hres hT hcl9 (by rw[gR,gR,k9.get 2 (by omega),q28]) r10 (gQ),cs.set 0 (.int .i64 ver),by rw[hres2],?_,?_⟩
    · refine ((f05.tr f58).trans f9 ?_).trans f10 ?_
      · intro r hr;simp at hr;subst hr;exact .inl (by simp only;omega)
      · intro r hr;simp at hr;subst hr;exact .inl (Nat.le_refl _)
    · rw [hres2]
      refine hset.kept f10 ?_ ?_
      · intro r hr;simp at hr;subst hr;intro hb';have:=hb'.1;simp only at this;omega
      · intro b hb;exact ⟨by have:=hb.1;omega,by have:=hb.2;omega⟩
end Go.Kq

namespace Go.Kq
open Go Go.Proofs
theorem lawuk_end {P:Program} {T4 T35:TypeId} {f11 f15:FuncId} {a5 a6 a7:Array TypeId} {i8:Nat}
    {t35 t36 t37 t38 t39 t40 t41 t42 t43 t44 t45 t46 t47 t48 t49 t50 t51 t52:TypeId} {p35 p36 p37 p38 p39 p40 p41 p42 p43 p44 p45 p46 p47 p48 p49 p50 p51 p52:String} {e35 e36 e37 e38 e39 e40 e41 e42 e43 e44 e45 e46 e47 e48 e49 e50 e51 e52:Array Edge}
    (hmx:P.follows .mixedOrders=true) (hT:Flat P T35 zT) (hT4:boolTy P T4=true)
    (he:edgeOk 0 [e35,e36,e37,e38,e39,e40,e41,e42,e43,e44,e45,e46,e47,e48,e49,e50,e51,e52] [[],[0],[1],[1],[1,2,3],[1,4],[5],[6],[6,7],[6,8],[9],[9,10],[9],[9,12],[9,11,13],[6,9,14],[6,15],List.range 17]=true)
    (hgotE:Enters P f11) (hgot:∀ t,GotCall P f11 t) (hsameE:Enters P f15) (hsame:∀ t,SameCall P f15 t)
    {a:Act} {w:World} {K:Act→World→Prop} {Q:Exit→Act→World→Prop} {b1 b2:Nat} {B1 B2:Nat→Prop} {c1 c2:List Value} {tr:T} {b:Bool}
    (hsz:a.tmps.size=49) (g4:get a 4 = .bool true) (g5:get a 5 = .pointer (some ⟨b1,0,none⟩)) (g6:get a 6 = .bool b) (g7:get a 7 = .pointer (some ⟨b2,0,none⟩)) (g8:get a 8 = .bool b)
    (r1:w.rangeAt b1 0 c1) (r2:w.rangeAt b2 0 c2) (tt1:RepT w B1 c1 tr) (tt2:RepT w B2 c2 tr) (hB1:∀ b,B1 b→b < w.heap.size) (hB2:∀ b,B2 b→b < w.heap.size)
    (hK:∀ a' w',Kept 9 a a'→Fr [] w w'→K (a'.put (some 2) (.bool true)) w') :
    (Code.region i8 ⟨[⟨some 32,.move (.tmp 4),t35,p35,e35,none⟩,
    ⟨some 33,.move (.tmp 32),t36,p36,e36,none⟩,
    ⟨some 34,.move (.tmp 6),t37,p37,e37,some (1,true)⟩,
    ⟨some 35,.move (.tmp 8),t38,p38,e38,some (1,true)⟩,
    ⟨some 36,.binOp .eql T4 (.tmp 34) (.tmp 35) T4,t39,p39,e39,some (1,true)⟩,
    ⟨some 37,.pick (.tmp 33) (.tmp 36) (.const (.bool false)),t40,p40,e40,none⟩,
    ⟨some 38,.move (.tmp 37),t41,p41,e41,none⟩,
    ⟨some 39,.move (.tmp 6),t42,p42,e42,some (6,true)⟩,
    ⟨some 40,.unOp .not T4 (.tmp 39),t43,p43,e43,some (6,true)⟩,
    ⟨some 41,.move (.tmp 40),t44,p44,e44,some (6,true)⟩,
    ⟨some 42,.load T35 (.tmp 5),t45,p45,e45,some (9,false)⟩,
    ⟨some 43,.call ⟨.value (.func f11),#[(.tmp 42)],a5⟩,t46,p46,e46,some (9,false)⟩,
    ⟨some 44,.load T35 (.tmp 7),t47,p47,e47,some (9,false)⟩,
    ⟨some 45,.call ⟨.value (.func f11),#[(.tmp 44)],a6⟩,t48,p48,e48,some (9,false)⟩,
    ⟨some 46,.call ⟨.value (.func f15),#[(.tmp 43),(.tmp 45)],a7⟩,t49,p49,e49,some (9,false)⟩,
    ⟨some 47,.pick (.tmp 41) (.const (.bool true)) (.tmp 46),t50,p50,e50,some (6,true)⟩,
    ⟨some 48,.pick (.tmp 38) (.tmp 47) (.const (.bool false)),t51,p51,e51,none⟩,
    ⟨some 2,.assign (.tmp 48),t52,p52,e52,none⟩]⟩ true).wp P (Exit.then K Q) a w:=by
  have hl1:c1.length=zT.length:=tt1.length
  have hl2:c2.length=zT.length:=tt2.length
  cases b
  · refine wp_drawE (os:=[⟨some 32,.move (.tmp 4),t35,p35,e35,none⟩,
      ⟨some 33,.move (.tmp 32),t36,p36,e36,none⟩,
      ⟨some 34,.move (.tmp 6),t37,p37,e37,some (1,true)⟩,
      ⟨some 35,.move (.tmp 8),t38,p38,e38,some (1,true)⟩,
      ⟨some 36,.binOp .eql T4 (.tmp 34) (.tmp 35) T4,t39,p39,e39,some (1,true)⟩,
      ⟨some 37,.pick (.tmp 33) (.tmp 36) (.const (.bool false)),t40,p40,e40,none⟩,
      ⟨some 38,.move (.tmp 37),t41,p41,e41,none⟩,
      ⟨some 39,.move (.tmp 6),t42,p42,e42,some (6,true)⟩,
      ⟨some 40,.unOp .not T4 (.tmp 39),t43,p43,e43,some (6,true)⟩,
      ⟨some 41,.move (.tmp 40),t44,p44,e44,some (6,true)⟩,
      ⟨some 42,.load T35 (.tmp 5),t45,p45,e45,some (9,false)⟩,
      ⟨some 43,.call ⟨.value (.func f11),#[(.tmp 42)],a5⟩,t46,p46,e46,some (9,false)⟩,
      ⟨some 44,.load T35 (.tmp 7),t47,p47,e47,some (9,false)⟩,
      ⟨some 45,.call ⟨.value (.func f11),#[(.tmp 44)],a6⟩,t48,p48,e48,some (9,false)⟩,
      ⟨some 46,.call ⟨.value (.func f15),#[(.tmp 43),(.tmp 45)],a7⟩,t49,p49,e49,some (9,false)⟩,
      ⟨some 47,.pick (.tmp 41) (.const (.bool true)) (.tmp 46),t50,p50,e50,some (6,true)⟩,
      ⟨some 48,.pick (.tmp 38) (.tmp 47) (.const (.bool false)),t51,p51,e51,none⟩]) (o:=⟨some 2,.assign (.tmp 48),t52,p52,e52,none⟩) [spC [] (.bool true),
    spC [0] (.bool true),
    spC [1] (.bool false),
    spC [1] (.bool false),
    spC [1,2,3] (.bool true),
    spC [1,4] (.bool true),
    spC [5] (.bool true),
    spC [6] (.bool false),
    spC [6,7] (.bool true),
    spC [6,8] (.bool true),
    spC [9] undef,
    spC [9,10] undef,
    spC [9] undef,
    spC [9,12] undef,
    spC [9,11,13] undef,
    spC [6,9,14] (.bool true),
    spC [6,15] (.bool true)] 32 [] hmx he (by simp[shape]) rfl (by simp[spC,spR]) (by simp;omega)
      ⟨lCc _ _ _,lCc _ _ _,lCc _ _ _,lCc _ _ _,lCc _ _ _,lCc _ _ _,lCc _ _ _,lCc _ _ _,lCc _ _ _,lCc _ _ _,lCc _ _ _,lCc _ _ _,lCc _ _ _,lCc _ _ _,lCc _ _ _,lCc _ _ _,lCc _ _ _,trivial⟩ ?_ ?_
    · refine ⟨op_c fun a' w' hk' hf' hd' K' hK'=>?_,
        op_c fun a' w' hk' hf' hd' K' hK'=>?_,
        op_gy rfl (by omega) (fun _ _ hd'=>hd'.c 1 (by simp[spC]) rfl) (op_c fun a' w' hk' hf' hd' K' hK'=>?_),
        op_gy rfl (by omega) (fun _ _ hd'=>hd'.c 1 (by simp[spC]) rfl) (op_c fun a' w' hk' hf' hd' K' hK'=>?_),
        op_gy rfl (by omega) (fun _ _ hd'=>hd'.c 1 (by simp[spC]) rfl) (op_c fun a' w' hk' hf' hd' K' hK'=>?_),
        op_c fun a' w' hk' hf' hd' K' hK'=>?_,
        op_c fun a' w' hk' hf' hd' K' hK'=>?_,
        op_gy rfl (by omega) (fun _ _ hd'=>hd'.c 6 (by simp[spC]) rfl) (op_c fun a' w' hk' hf' hd' K' hK'=>?_),
        op_gy rfl (by omega) (fun _ _ hd'=>hd'.c 6 (by simp[spC]) rfl) (op_c fun a' w' hk' hf' hd' K' hK'=>?_),
        op_gy rfl (by omega) (fun _ _ hd'=>hd'.c 6 (by simp[spC]) rfl) (op_c fun a' w' hk' hf' hd' K' hK'=>?_),
        op_gn rfl (by omega) (fun _ _ hd'=>hd'.c 9 (by simp[spC]) rfl),
        op_gn rfl (by omega) (fun _ _ hd'=>hd'.c 9 (by simp[spC]) rfl),
        op_gn rfl (by omega) (fun _ _ hd'=>hd'.c 9 (by simp[spC]) rfl),
        op_gn rfl (by omega) (fun _ _ hd'=>hd'.c 9 (by simp[spC]) rfl),
        op_gn rfl (by omega) (fun _ _ hd'=>hd'.c 9 (by simp[spC]) rfl),
        op_gy rfl (by omega) (fun _ _ hd'=>hd'.c 6 (by simp[spC]) rfl) (op_c fun a' w' hk' hf' hd' K' hK'=>?_),
        op_c fun a' w' hk' hf' hd' K' hK'=>?_,trivial⟩
      · rw[wMw,eTm,hk'.get 4 (by omega),g4];exact hK'
      · rw[wMw,eTm,hd'.c 0 (by simp[spC]) rfl];exact hK'
      · rw[wMw,eTm,hk'.get 6 (by omega),g6];exact hK'
      · rw[wMw,eTm,hk'.get 8 (by omega),g8];exact hK'
      · exact wp_eqlBool hT4 (by rw[eTm];exact hd'.c 2 (by simp[spC]) rfl) (by rw[eTm];exact hd'.c 3 (by simp[spC]) rfl) (by simpa using hK')
      · exact wp_pickYes (by rw[eTm];exact hd'.c 1 (by simp[spC]) rfl) (by rw[eTm];exact hd'.c 4 (by simp[spC]) rfl) hK'
      · rw[wMw,eTm,hd'.c 5 (by simp[spC]) rfl];exact hK'
      · rw[wMw,eTm,hk'.get 6 (by omega),g6];exact hK'
      · exact wp_not (b:=false) (by rw[eTm];exact hd'.c 7 (by simp[spC]) rfl) hK'
      · rw[wMw,eTm,hd'.c 8 (by simp[spC]) rfl];exact hK'
      · exact wp_pickYes (by rw[eTm];exact hd'.c 9 (by simp[spC]) rfl) rfl hK'
      · exact wp_pickYes (by rw[eTm];exact hd'.c 6 (by simp[spC]) rfl) (by rw[eTm];exact hd'.c 15 (by simp[spC]) rfl) hK'
    · intro a' w' hk' hf' hd'
      rw[wAg,eTm,hd'.c (nd':=[6,15]) 16 (by simp[spC,spR]) rfl]
      refine hK a' w' (hk'.mono (by omega)) hf'
  · refine wp_drawE (os:=[⟨some 32,.move (.tmp 4),t35,p35,e35,none⟩,
      ⟨some 33,.move (.tmp 32),t36,p36,e36,none⟩,
      ⟨some 34,.move (.tmp 6),t37,p37,e37,some (1,true)⟩,
      ⟨some 35,.move (.tmp 8),t38,p38,e38,some (1,true)⟩,
      ⟨some 36,.binOp .eql T4 (.tmp 34) (.tmp 35) T4,t39,p39,e39,some (1,true)⟩,
      ⟨some 37,.pick (.tmp 33) (.tmp 36) (.const (.bool false)),t40,p40,e40,none⟩,
      ⟨some 38,.move (.tmp 37),t41,p41,e41,none⟩,
      ⟨some 39,.move (.tmp 6),t42,p42,e42,some (6,true)⟩,
      ⟨some 40,.unOp .not T4 (.tmp 39),t43,p43,e43,some (6,true)⟩,
      ⟨some 41,.move (.tmp 40),t44,p44,e44,some (6,true)⟩,
      ⟨some 42,.load T35 (.tmp 5),t45,p45,e45,some (9,false)⟩,
      ⟨some 43,.call ⟨.value (.func f11),#[(.tmp 42)],a5⟩,t46,p46,e46,some (9,false)⟩,
      ⟨some 44,.load T35 (.tmp 7),t47,p47,e47,some (9,false)⟩,
      ⟨some 45,.call ⟨.value (.func f11),#[(.tmp 44)],a6⟩,t48,p48,e48,some (9,false)⟩,
      ⟨some 46,.call ⟨.value (.func f15),#[(.tmp 43),(.tmp 45)],a7⟩,t49,p49,e49,some (9,false)⟩,
      ⟨some 47,.pick (.tmp 41) (.const (.bool true)) (.tmp 46),t50,p50,e50,some (6,true)⟩,
      ⟨some 48,.pick (.tmp 38) (.tmp 47) (.const (.bool false)),t51,p51,e51,none⟩]) (o:=⟨some 2,.assign (.tmp 48),t52,p52,e52,none⟩) [spC [] (.bool true),
    spC [0] (.bool true),
    spC [1] (.bool true),
    spC [1] (.bool true),
    spC [1,2,3] (.bool true),
    spC [1,4] (.bool true),
    spC [5] (.bool true),
    spC [6] (.bool true),
    spC [6,7] (.bool false),
    spC [6,8] (.bool false),
    spC [9] (.agg c1.toArray),
    spR [9,10] (fun x w=>∃ (A:Nat→Prop) (c:List Value),x = .agg c.toArray∧RepT w A c tr),
    spC [9] (.agg c2.toArray),
    spR [9,12] (fun x w=>∃ (A:Nat→Prop) (c:List Value),x = .agg c.toArray∧RepT w A c tr),
    spC [9,11,13] (.bool true),
    spC [6,9,14] (.bool true),
    spC [6,15] (.bool true)] 32 [] hmx he (by simp[shape]) rfl (by simp[spC,spR]) (by simp;omega)
      ⟨lCc _ _ _,lCc _ _ _,lCc _ _ _,lCc _ _ _,lCc _ _ _,lCc _ _ _,lCc _ _ _,lCc _ _ _,lCc _ _ _,lCc _ _ _,lCc _ _ _,fun _ _ _ hf h=>by obtain ⟨A,c,h1,h2⟩:=h;exact ⟨A,c,h1,h2.kept hf (by simp[spR]) (fun _ h=>h)⟩,lCc _ _ _,fun _ _ _ hf h=>by obtain ⟨A,c,h1,h2⟩:=h;exact ⟨A,c,h1,h2.kept hf (by simp[spR]) (fun _ h=>h)⟩,lCc _ _ _,lCc _ _ _,lCc _ _ _,trivial⟩ ?_ ?_
    · refine ⟨op_c fun a' w' hk' hf' hd' K' hK'=>?_,
        op_c fun a' w' hk' hf' hd' K' hK'=>?_,
        op_gy rfl (by omega) (fun _ _ hd'=>hd'.c 1 (by simp[spC]) rfl) (op_c fun a' w' hk' hf' hd' K' hK'=>?_),
        op_gy rfl (by omega) (fun _ _ hd'=>hd'.c 1 (by simp[spC]) rfl) (op_c fun a' w' hk' hf' hd' K' hK'=>?_),
        op_gy rfl (by omega) (fun _ _ hd'=>hd'.c 1 (by simp[spC]) rfl) (op_c fun a' w' hk' hf' hd' K' hK'=>?_),
        op_c fun a' w' hk' hf' hd' K' hK'=>?_,
        op_c fun a' w' hk' hf' hd' K' hK'=>?_,
        op_gy rfl (by omega) (fun _ _ hd'=>hd'.c 6 (by simp[spC]) rfl) (op_c fun a' w' hk' hf' hd' K' hK'=>?_),
        op_gy rfl (by omega) (fun _ _ hd'=>hd'.c 6 (by simp[spC]) rfl) (op_c fun a' w' hk' hf' hd' K' hK'=>?_),
        op_gy rfl (by omega) (fun _ _ hd'=>hd'.c 6 (by simp[spC]) rfl) (op_c fun a' w' hk' hf' hd' K' hK'=>?_),
        op_gy rfl (by omega) (fun _ _ hd'=>hd'.c 9 (by simp[spC]) rfl) (op_c fun a' w' hk' hf' hd' K' hK'=>?_),
        op_gy rfl (by omega) (fun _ _ hd'=>hd'.c 9 (by simp[spC,spR]) rfl) (op_r fun a' w' hk' hf' hd' K' hK'=>?_),
        op_gy rfl (by omega) (fun _ _ hd'=>hd'.c 9 (by simp[spC]) rfl) (op_c fun a' w' hk' hf' hd' K' hK'=>?_),
        op_gy rfl (by omega) (fun _ _ hd'=>hd'.c 9 (by simp[spC,spR]) rfl) (op_r fun a' w' hk' hf' hd' K' hK'=>?_),
        op_gy rfl (by omega) (fun _ _ hd'=>hd'.c 9 (by simp[spC]) rfl) (op_r fun a' w' hk' hf' hd' K' hK'=>?_),
        op_gy rfl (by omega) (fun _ _ hd'=>hd'.c 6 (by simp[spC]) rfl) (op_c fun a' w' hk' hf' hd' K' hK'=>?_),
        op_c fun a' w' hk' hf' hd' K' hK'=>?_,trivial⟩
      · rw[wMw,eTm,hk'.get 4 (by omega),g4];exact hK'
      · rw[wMw,eTm,hd'.c 0 (by simp[spC]) rfl];exact hK'
      · rw[wMw,eTm,hk'.get 6 (by omega),g6];exact hK'
      · rw[wMw,eTm,hk'.get 8 (by omega),g8];exact hK'
      · exact wp_eqlBool hT4 (by rw[eTm];exact hd'.c 2 (by simp[spC]) rfl) (by rw[eTm];exact hd'.c 3 (by simp[spC]) rfl) (by simpa using hK')
      · exact wp_pickYes (by rw[eTm];exact hd'.c 1 (by simp[spC]) rfl) (by rw[eTm];exact hd'.c 4 (by simp[spC]) rfl) hK'
      · rw[wMw,eTm,hd'.c 5 (by simp[spC]) rfl];exact hK'
      · rw[wMw,eTm,hk'.get 6 (by omega),g6];exact hK'
      · exact wp_not (b:=true) (by rw[eTm];exact hd'.c 7 (by simp[spC]) rfl) hK'
      · rw[wMw,eTm,hd'.c 8 (by simp[spC]) rfl];exact hK'
      · exact wp_loadFlat hT (cs:=c1) (b:=b1) (o:=0) hl1 (by rw[eTm,hk'.get 5 (by omega),g5]) (hf'.range r1 .nil) hK'
      · refine wp_calls (R:=fun x w2=>Fr [] w' w2∧∃ (A:Nat→Prop) (c:List Value),x = .agg c.toArray∧RepT w2 A c tr) hgotE (vs:=#[.agg c1.toArray]) (by simp[eTm,hd'.c 10 (by simp[spC]) rfl]) ((hgot tr w' B1 c1 (tt1.kept hf' (by simp) (fun _ h=>h)) (fun b hb=>Nat.lt_of_lt_of_le (hB1 b hb) hf'.size)).mono (by rintro e' w2 ⟨c',rfl,h2,h3⟩;exact ⟨_,rfl,h2,_,c',rfl,h3⟩)) (fun x w2 h=>hK' x w2 h.2 h.1)
      · exact wp_loadFlat hT (cs:=c2) (b:=b2) (o:=0) hl2 (by rw[eTm,hk'.get 7 (by omega),g7]) (hf'.range r2 .nil) hK'
      · refine wp_calls (R:=fun x w2=>Fr [] w' w2∧∃ (A:Nat→Prop) (c:List Value),x = .agg c.toArray∧RepT w2 A c tr) hgotE (vs:=#[.agg c2.toArray]) (by simp[eTm,hd'.c 12 (by simp[spC]) rfl]) ((hgot tr w' B2 c2 (tt2.kept hf' (by simp) (fun _ h=>h)) (fun b hb=>Nat.lt_of_lt_of_le (hB2 b hb) hf'.size)).mono (by rintro e' w2 ⟨c',rfl,h2,h3⟩;exact ⟨_,rfl,h2,_,c',rfl,h3⟩)) (fun x w2 h=>hK' x w2 h.2 h.1)
      · obtain ⟨A1, d1, h1, h2⟩ := hd'.at (d := 11) (by simp [spC]) rfl
        obtain ⟨A2,d2,h3,h4⟩:=hd'.at (d:=13) (by simp[spC]) rfl
        refine wp_calls (R:=fun x w2=>x = .bool true∧Fr [] w' w2) hsameE (vs:=#[.agg d1.toArray,.agg d2.toArray]) (by simp[eTm,h1,h3]) ((hsame tr w' A1 A2 d1 d2 h2 h4).mono (by rintro e' w2 ⟨rfl,h2⟩;exact ⟨_,rfl,rfl,h2⟩)) (fun x w2 h=>?_)
        obtain ⟨rfl,h5⟩:=h
        exact hK' _ _ rfl h5
      · exact wp_pickNo (by rw[eTm];exact hd'.c 9 (by simp[spC]) rfl) (by rw[eTm];exact hd'.c 14 (by simp[spC]) rfl) hK'
      · exact wp_pickYes (by rw[eTm];exact hd'.c 6 (by simp[spC]) rfl) (by rw[eTm];exact hd'.c 15 (by simp[spC]) rfl) hK'
    · intro a' w' hk' hf' hd'
      rw[wAg,eTm,hd'.c (nd':=[6,15]) 16 (by simp[spC,spR]) rfl]
      refine hK a' w' (hk'.mono (by omega)) hf'
def LawUK (P:Program) (ge:Nat) (f:FuncId):Prop :=
  Enters P f∧∀ (w:World) (A:Nat→Prop) (q:Option Addr) (len cap:Nat) (er:Value) (ty:TypeId) (u:Value),(len≤1000→∃ xs,OctE w A (.slice q len cap) xs)→w.cell? ⟨ge,0,none⟩=some er→er = .iface ty u →
    Calls P f #[.slice q len cap] w fun e w'=>e = .returned (.bool true)∧Fr [] w w'
theorem r_toldk {P:Program} {T27:TypeId} (hT:Flat P T27 zT) {ge fd dt db m mz:Nat} {res:List UInt8→T × Bool} {i:Nat} {b2:Array TypeId}
    {t3 t4 t5 t6 t7 t8 t9 t10:TypeId} {p3 p4 p5 p6 p7 p8 p9 p10:String} {e3 e4 e5 e6 e7 e8 e9 e10:Array Edge}
    (hd:DoorK P ge fd res) {a:Act} {w:World} {K:Act→World→Prop} {Q:Exit→Act→World→Prop} {A:Nat→Prop} {v:Value} {xs:List UInt8} {er:Value} {ty:TypeId} {u:Value}
    (hv:OctE w A v xs) (hxl:xs.length≤4294967296) (her:w.cell? ⟨ge,0,none⟩=some er) (hi:er = .iface ty u)
    (hs:m+5≤a.tmps.size) (hlt:mz≤m∧dt < m∧db < m∧dt ≠ db∧0 < mz) (g0:get a 0=v)
    (hK:∀ a' w' b c,Fr [] w w'→a'.tmps.size=a.tmps.size→a'.defers=a.defers→(∀ t,t < m→t ≠ dt→t ≠ db→get a' t=get a t)→get a' dt = .pointer (some ⟨b,0,none⟩)→get a' db = .bool (res xs).2→w.heap.size≤b→b < w'.heap.size→w'.rangeAt b 0 c→RepT w' (From w.heap.size w') c (res xs).1→K a' w') :
    (Code.region i ⟨[⟨some (m+1),.move (.tmp 0),t3,p3,e3,none⟩,
    ⟨some (m+2),.call ⟨.value (.func fd),#[(.tmp (m+1))],b2⟩,t4,p4,e4,none⟩,
    ⟨some m,.move (.tmp (m+2)),t5,p5,e5,none⟩,
    ⟨some (m+3),.extract (.tmp m) 0,t6,p6,e6,none⟩,
    ⟨some (m+4),.extract (.tmp m) 1,t7,p7,e7,none⟩,
    ⟨some dt,.alloc T27,t8,p8,e8,none⟩,
    ⟨none,.store T27 (.tmp dt) (.tmp (m+3)),t9,p9,e9,none⟩,
    ⟨some db,.assign (.tmp (m+4)),t10,p10,e10,none⟩]⟩ false).wp P (Exit.then K Q) a w:=by
  obtain ⟨h5,hl1,hl2,hne,h6⟩:=hlt
  refine wp_reg ?_
  rw[wCo,wMw,eTm,g0,wCo]
  refine wp_calls (R:=fun x w'=>∃ cs:List Value,x = .tuple #[.agg cs.toArray,.bool (res xs).2]∧Fr [] w w'∧RepT w' (From w.heap.size w') cs (res xs).1) hd.enters (vs:=#[v])
    (by simp only[List.map_toArray,List.map_cons,List.map_nil,eTm];rw[gQ])
    ((hd.call w A v xs er ty u hv hxl her hi).mono (by rintro e' w' ⟨cs,rfl,h⟩;exact ⟨_,rfl,cs,rfl,h⟩)) ?_
  rintro x w1 ⟨cs,rfl,f1,hrt⟩
  rw[wCo,wMw,eTm,gQ,wCo]
  refine wp_extract (vs:=#[.agg cs.toArray,.bool (res xs).2]) (i:=0) (v:=.agg cs.toArray) (by rw[eTm,gQ]) rfl ?_
  refine wC (wp_extract (vs:=#[.agg cs.toArray,.bool (res xs).2]) (i:=1) (v:=.bool (res xs).2) (by rw[eTm,gR,gQ]) rfl ?_)
  refine wC (wp_alloc hT.zero ?_)
  have hcl:=hrt.length
  have f2:=Fr.alloc [] w1 (.cells (Value.agg zT.toArray).cells T27)
  have th2:(w1.alloc (.cells (Value.agg zT.toArray).cells T27)).there w1.heap.size 0 cs.length:=by rw[hcl];exact there_new w1 zT.toArray T27
  have sz2:=size_alloc w1 (.cells (Value.agg zT.toArray).cells T27)
  generalize w1.alloc (.cells (Value.agg zT.toArray).cells T27)=w2 at f2 th2 sz2 ⊢
  refine wC (wp_storeFlat hT (cs:=cs) (b:=w1.heap.size) (o:=0) hcl (by rw[eTm,gQ]) (by rw[eTm,gR,gR,gQ]) hrt.ones th2 ?_)
  rw[pNo,wCo,wAg,eTm,wNi]
  have f3:=Fr.sets w1.heap.size cs w2 0
  have r3:=World.rangeAt_setCells_same (w:=w2) w1.heap.size 0 cs th2
  have sz3:=f3.size
  have sz1:=f1.size
  have q7:get ((((((a.put (some (m+1)) v).put (some (m+2)) (.tuple #[.agg cs.toArray,.bool (res xs).2])).put (some m) (.tuple #[.agg cs.toArray,.bool (res xs).2])).put (some (m+3)) (.agg cs.toArray)).put (some (m+4)) (.bool (res xs).2)).put (some dt) (.pointer (some ⟨w1.heap.size,0,none⟩))) (m+4) = .bool (res xs).2:=by
    rw[gR,gQ]
  rw[q7]
  refine hK _ _ w1.heap.size cs ?_ (by simp only[sPu]) (by simp only[dPu]) ?_ ?_ ?_ (by omega) (by omega) r3 ?_
  · exact (f1.tr f2).trans f3 (by intro r hr;simp at hr;subst hr;exact .inl (by simp only;omega))
  · intro t h1 h2 h3
    rw[gPn (Ne.symm h3),gPn (Ne.symm h2),gR,gR,gR,gR,gR]
  · rw[gPn (Ne.symm hne),gQ]
  · exact gQ
  · refine (hrt.kept f2 (by simp) (fun _ h=>h)).kept f3 (by intro r hr hA;simp at hr;subst hr;have:=hA.2;simp only at this;omega) (fun b hb=>⟨hb.1,by have:=hb.2;omega⟩)
set_option maxRecDepth 10000 in
theorem lawuk_m {P:Program} {ge f:Nat} {fn:Func} {T3 T4 T22 T26 T35:TypeId} {f8 f11 f12 f13 f14 f15:FuncId} {a0 a1 a2 a3 a4 a5 a6 a7:Array TypeId} {i0 i1 i2 i3 i4 i5 i6 i7 i8:Nat}
    {t0 t1 t2 t3 t4 t5 t6 t7 t8 t9 t10 t11 t12 t13 t14 t15 t16 t17 t18 t19 t20 t21 t22 t23 t24 t25 t26 t27 t28 t29 t30 t31 t32 t33 t34 t35 t36 t37 t38 t39 t40 t41 t42 t43 t44 t45 t46 t47 t48 t49 t50 t51 t52:TypeId} {p0 p1 p2 p3 p4 p5 p6 p7 p8 p9 p10 p11 p12 p13 p14 p15 p16 p17 p18 p19 p20 p21 p22 p23 p24 p25 p26 p27 p28 p29 p30 p31 p32 p33 p34 p35 p36 p37 p38 p39 p40 p41 p42 p43 p44 p45 p46 p47 p48 p49 p50 p51 p52:String} {e0 e1 e2 e3 e4 e5 e6 e7 e8 e9 e10 e11 e12 e13 e14 e15 e16 e17 e18 e19 e20 e21 e22 e23 e24 e25 e26 e27 e28 e29 e30 e31 e32 e33 e34 e35 e36 e37 e38 e39 e40 e41 e42 e43 e44 e45 e46 e47 e48 e49 e50 e51 e52:Array Edge}
    {fx:Int} {fs:List Fd} {enc:Int→Bool→T→List UInt8} {res:List UInt8→T × Bool}
    (hf:P.funcs[f]?=some fn) (hname:(fn.name == "runtime.NumGoroutine")=false) (hres':fn.results = #[.tmp 2]) (hN:fn.ntmps=49)
    (hbody:fn.body=some (.seq (Code.region i0 ⟨[⟨some 2,.assign (.const (.bool false)),t0,p0,e0,none⟩]⟩ false)
  (.seq (.seq (Code.region i1 ⟨[⟨some 9,.move (.tmp 0),t1,p1,e1,none⟩,
    ⟨some 10,.call ⟨.builtin .len,#[(.tmp 9)],#[T22]⟩,t2,p2,e2,none⟩,
    ⟨some 11,.binOp .gtr T3 (.tmp 10) (.const (.int .i64 2147483647)) T3,t3,p3,e3,none⟩]⟩ false)
  (.cond (.tmp 11) (.seq (Code.region i2 ⟨[⟨some 2,.assign (.const (.bool true)),t4,p4,e4,none⟩]⟩ false)
  .ret)
  .skip))
  (.seq (.seq (Code.region i3 ⟨[⟨some 12,.move (.tmp 0),t5,p5,e5,none⟩,
    ⟨some 13,.call ⟨.builtin .len,#[(.tmp 12)],#[T22]⟩,t6,p6,e6,none⟩,
    ⟨some 14,.binOp .gtr T3 (.tmp 13) (.const (.int .i64 1000)) T3,t7,p7,e7,none⟩]⟩ false)
  (.cond (.tmp 14) (.seq (Code.region i4 ⟨[⟨some 2,.assign (.const (.bool true)),t8,p8,e8,none⟩]⟩ false)
  .ret)
  .skip))
  (.seq (Code.region i5 ⟨[⟨some 16,.call ⟨.value (.func f13),#[],a0⟩,t9,p9,e9,none⟩,
    ⟨some 17,.build T26 #[],t10,p10,e10,none⟩,
    ⟨some 18,.call ⟨.value (.func f8),#[(.tmp 16),(.const (.int .i64 0)),(.tmp 17)],a1⟩,t11,p11,e11,none⟩,
    ⟨some 19,.call ⟨.value (.func f12),#[(.tmp 18)],a2⟩,t12,p12,e12,none⟩,
    ⟨some 15,.move (.tmp 19),t13,p13,e13,none⟩,
    ⟨some 20,.extract (.tmp 15) 0,t14,p14,e14,none⟩,
    ⟨some 21,.extract (.tmp 15) 1,t15,p15,e15,none⟩,
    ⟨some 3,.alloc T35,t16,p16,e16,none⟩,
    ⟨none,.store T35 (.tmp 3) (.tmp 20),t17,p17,e17,none⟩,
    ⟨some 4,.assign (.tmp 21),t18,p18,e18,none⟩]⟩ false)
  (.seq (Code.region i6 ⟨[⟨some 23,.move (.tmp 0),t19,p19,e19,none⟩,
    ⟨some 24,.call ⟨.value (.func f12),#[(.tmp 23)],a3⟩,t20,p20,e20,none⟩,
    ⟨some 22,.move (.tmp 24),t21,p21,e21,none⟩,
    ⟨some 25,.extract (.tmp 22) 0,t22,p22,e22,none⟩,
    ⟨some 26,.extract (.tmp 22) 1,t23,p23,e23,none⟩,
    ⟨some 5,.alloc T35,t24,p24,e24,none⟩,
    ⟨none,.store T35 (.tmp 5) (.tmp 25),t25,p25,e25,none⟩,
    ⟨some 6,.assign (.tmp 26),t26,p26,e26,none⟩]⟩ false)
  (.seq (Code.region i7 ⟨[⟨some 28,.move (.tmp 0),t27,p27,e27,none⟩,
    ⟨some 29,.call ⟨.value (.func f14),#[(.tmp 28)],a4⟩,t28,p28,e28,none⟩,
    ⟨some 27,.move (.tmp 29),t29,p29,e29,none⟩,
    ⟨some 30,.extract (.tmp 27) 0,t30,p30,e30,none⟩,
    ⟨some 31,.extract (.tmp 27) 1,t31,p31,e31,none⟩,
    ⟨some 7,.alloc T35,t32,p32,e32,none⟩,
    ⟨none,.store T35 (.tmp 7) (.tmp 30),t33,p33,e33,none⟩,
    ⟨some 8,.assign (.tmp 31),t34,p34,e34,none⟩]⟩ false)
  (.seq (Code.region i8 ⟨[⟨some 32,.move (.tmp 4),t35,p35,e35,none⟩,
    ⟨some 33,.move (.tmp 32),t36,p36,e36,none⟩,
    ⟨some 34,.move (.tmp 6),t37,p37,e37,some (1,true)⟩,
    ⟨some 35,.move (.tmp 8),t38,p38,e38,some (1,true)⟩,
    ⟨some 36,.binOp .eql T4 (.tmp 34) (.tmp 35) T4,t39,p39,e39,some (1,true)⟩,
    ⟨some 37,.pick (.tmp 33) (.tmp 36) (.const (.bool false)),t40,p40,e40,none⟩,
    ⟨some 38,.move (.tmp 37),t41,p41,e41,none⟩,
    ⟨some 39,.move (.tmp 6),t42,p42,e42,some (6,true)⟩,
    ⟨some 40,.unOp .not T4 (.tmp 39),t43,p43,e43,some (6,true)⟩,
    ⟨some 41,.move (.tmp 40),t44,p44,e44,some (6,true)⟩,
    ⟨some 42,.load T35 (.tmp 5),t45,p45,e45,some (9,false)⟩,
    ⟨some 43,.call ⟨.value (.func f11),#[(.tmp 42)],a5⟩,t46,p46,e46,some (9,false)⟩,
    ⟨some 44,.load T35 (.tmp 7),t47,p47,e47,some (9,false)⟩,
    ⟨some 45,.call ⟨.value (.func f11),#[(.tmp 44)],a6⟩,t48,p48,e48,some (9,false)⟩,
    ⟨some 46,.call ⟨.value (.func f15),#[(.tmp 43),(.tmp 45)],a7⟩,t49,p49,e49,some (9,false)⟩,
    ⟨some 47,.pick (.tmp 41) (.const (.bool true)) (.tmp 46),t50,p50,e50,some (6,true)⟩,
    ⟨some 48,.pick (.tmp 38) (.tmp 47) (.const (.bool false)),t51,p51,e51,none⟩,
    ⟨some 2,.assign (.tmp 48),t52,p52,e52,none⟩]⟩ true)
  .ret))))))))
    (hT:Flat P T35 zT) (hT26:Flat P T26 zT) (hT4:boolTy P T4=true) (hs22:slTy P T22=true) (hmx:P.follows .mixedOrders=true)
    (he:edgeOk 0 [e35,e36,e37,e38,e39,e40,e41,e42,e43,e44,e45,e46,e47,e48,e49,e50,e51,e52] [[],[0],[1],[1],[1,2,3],[1,4],[5],[6],[6,7],[6,8],[9],[9,10],[9],[9,12],[9,11,13],[6,9,14],[6,15],List.range 17]=true)
    (hSch:SchM P f13 fs fx) (hKp:KeptM P f8 fs enc) (hd1:DoorK P ge f12 res) (hd2:DoorK P ge f14 res) (hgotE:Enters P f11) (hgot:∀ t,GotCall P f11 t) (hsameE:Enters P f15) (hsame:∀ t,SameCall P f15 t)
    (hlen:(enc 0 (decide (fx≥0) && decide ((0:Int)≥fx)) .zero).length≤2147483648) (hcan:(res (fxW 0 2++enc 0 (decide (fx≥0) && decide ((0:Int)≥fx)) .zero)).2=true):LawUK P ge f:=by
  refine ⟨enters_of hf hname hbody,?_⟩
  intro w A q len cap er ty u hxs her hi
  refine calls_of_wp hf hbody ?_
  generalize ha0:({ tmps:=#[Value.slice q len cap]++Array.replicate (fn.ntmps - #[Value.slice q len cap].size) undef,defers:=[] }:Act)=b0
  have hsz:b0.tmps.size=49:=by subst ha0;simp[hN]
  have hd0:b0.defers=[]:=by subst ha0;rfl
  have g0:get b0 0 = .slice q len cap:=by subst ha0;exact gAr rfl
  refine tId (wp_seq_k fun K1 hK1=>?_)
  refine r_const (m:=2) (by omega) (by omega) fun a1 k1 _=>hK1 a1 w (tUp ?_)
  have hz1:=k1.size
  refine tId (wp_seq_k fun K2 hK2=>?_)
  refine wS fun K3 hK3=>?_
  rw[wCo,wMw,eTm,k1.get 0 (by omega),g0,wCo]
  refine wp_lenS hs22 (q:=q) (n:=len) (cap:=cap) (by rw[eTm,gQ]) ?_
  refine wC (wp_gtr (k1:=.i64) (i:=len) (j:=2147483647) (by rw[eTm,gQ]) (eCo _ _) ?_)
  rw[wNi]
  generalize ha2:((a1.put (some 9) (.slice q len cap)).put (some 10) (.int .i64 len)).put (some 11) (.bool (decide ((len:Int) > 2147483647)))=a2
  have k2:Kept 9 a1 a2:=by subst ha2;exact ((Kept.put0 (by omega) _).put (by omega) _).put (by omega) _
  have q11:get a2 11 = .bool (decide ((len:Int) > 2147483647)):=by subst ha2;exact gQ
  have hz2:=k2.size
  have hdf2:a2.defers=[]:=by rw[k2.defers,k1.defers,hd0]
  refine hK3 a2 w ?_
  refine wp_cond_split (t:=decide ((len:Int) > 2147483647)) (by rw[eTm,q11]) (fun hc=>?_) fun hc=>wp_skip (hK2 a2 w (tUp ?_))
  · refine wp_seq_k fun K4 hK4 => ?_
    refine wp_reg ?_
    rw[wCo,wAg,eCo,wNi]
    refine hK4 _ w (wp_ret ?_)
    exact ⟨by simp only[dPu];exact hdf2,_,rIs hres' (gQ),rfl,Fr.refl _ _⟩
  refine tId (wp_seq_k fun K5 hK5=>?_)
  refine wS fun K6 hK6=>?_
  rw[wCo,wMw,eTm,k2.get 0 (by omega),k1.get 0 (by omega),g0,wCo]
  refine wp_lenS hs22 (q:=q) (n:=len) (cap:=cap) (by rw[eTm,gQ]) ?_
  refine wC (wp_gtr (k1:=.i64) (i:=len) (j:=1000) (by rw[eTm,gQ]) (eCo _ _) ?_)
  rw[wNi]
  generalize ha3:((a2.put (some 12) (.slice q len cap)).put (some 13) (.int .i64 len)).put (some 14) (.bool (decide ((len:Int) > 1000)))=a3
  have k3:Kept 9 a2 a3:=by subst ha3;exact ((Kept.put0 (by omega) _).put (by omega) _).put (by omega) _
  have q14:get a3 14 = .bool (decide ((len:Int) > 1000)):=by subst ha3;exact gQ
  have hz3:=k3.size
  have hdf3:a3.defers=[]:=by rw[k3.defers,hdf2]
  refine hK6 a3 w ?_
  refine wp_cond_split (t:=decide ((len:Int) > 1000)) (by rw[eTm,q14]) (fun hc2=>?_) fun hc2=>wp_skip (hK5 a3 w (tUp ?_))
  · refine wp_seq_k fun K4 hK4 => ?_
    refine wp_reg ?_
    rw[wCo,wAg,eCo,wNi]
    refine hK4 _ w (wp_ret ?_)
    exact ⟨by simp only[dPu];exact hdf3,_,rIs hres' (gQ),rfl,Fr.refl _ _⟩
  have hlen1:len≤1000:=by simp at hc2;omega
  obtain ⟨xs,hv⟩:=hxs hlen1
  have hxl:xs.length≤4294967296:=octE_big hv
  have g03:get a3 0 = .slice q len cap:=by rw[k3.get 0 (by omega),k2.get 0 (by omega),k1.get 0 (by omega),g0]
  -- what is kept of nothing can be read
  refine wT fun K7 hK7=>?_
  rw[wCo]
  refine wp_calls (R:=fun x w'=>∃ v,x = .agg ([v,.int .i64 fx]:List Value).toArray∧Fr [] w w'∧FdsR w' (From w.heap.size w') v fs) hSch.enters (vs:=#[]) (by simp)
    ((hSch.call w).mono (by rintro e' w' ⟨v,rfl,h⟩;exact ⟨_,rfl,v,rfl,h⟩)) ?_
  rintro x w1 ⟨fsv,rfl,f1,hfs⟩
  refine wC (wp_build0 hT26 ?_)
  rw[wCo]
  have sz1:=f1.size
  refine wp_calls (R:=fun x w'=>Fr [] w1 w'∧OctE w' (From w1.heap.size w') x (fxW 0 2++enc 0 (decide (fx≥0) && decide ((0:Int)≥fx)) .zero)) hKp.enters (vs:=#[.agg ([fsv,.int .i64 fx]:List Value).toArray,.int .i64 0,.agg zT.toArray])
    (by simp only[List.map_toArray,List.map_cons,List.map_nil,eTm,eCo];rw[gR,gQ,gQ])
    ((hKp.call w1 (From w.heap.size w1) (fun _=>False) 0 fx fsv zT .zero hfs repT_zero (fun b hb=>hb.2) (fun _ h=>h.elim) (by omega)).mono (by rintro e' w' ⟨v,rfl,h⟩;exact ⟨_,rfl,h⟩)) ?_
  rintro ov w2 ⟨f2,hov⟩
  rw[wCo]
  have sz2:=f2.size
  refine wp_calls (R:=fun x w'=>∃ cs:List Value,x = .tuple #[.agg cs.toArray,.bool true]∧Fr [] w2 w'∧RepT w' (From w2.heap.size w') cs (res (fxW 0 2++enc 0 (decide (fx≥0) && decide ((0:Int)≥fx)) .zero)).1) hd1.enters (vs:=#[ov])
    (by simp only[List.map_toArray,List.map_cons,List.map_nil,eTm];rw[gQ])
    ((hd1.call w2 _ ov _ er ty u hov (octE_big hov) (f2.cell (f1.cell her .nil) .nil) hi).mono (by rintro e' w' ⟨cs,rfl,h⟩;rw[hcan];exact ⟨_,rfl,cs,rfl,h⟩)) ?_
  rintro x w3 ⟨cs,rfl,f3,hrt⟩
  have sz3:=f3.size
  rw[wCo,wMw,eTm,gQ,wCo]
  refine wp_extract (vs:=#[.agg cs.toArray,.bool true]) (i:=0) (v:=.agg cs.toArray) (by rw[eTm,gQ]) rfl ?_
  refine wC (wp_extract (vs:=#[.agg cs.toArray,.bool true]) (i:=1) (v:=.bool true) (by rw[eTm,gR,gQ]) rfl ?_)
  refine wC (wp_alloc hT.zero ?_)
  have hcl:=hrt.length
  have f4:=Fr.alloc [] w3 (.cells (Value.agg zT.toArray).cells T35)
  have th4:(w3.alloc (.cells (Value.agg zT.toArray).cells T35)).there w3.heap.size 0 cs.length:=by rw[hcl];exact there_new w3 zT.toArray T35
  have sz4:=size_alloc w3 (.cells (Value.agg zT.toArray).cells T35)
  generalize w3.alloc (.cells (Value.agg zT.toArray).cells T35)=w4 at f4 th4 sz4 ⊢
  refine wC (wp_storeFlat hT (cs:=cs) (b:=w3.heap.size) (o:=0) hcl (by rw[eTm,gQ]) (by rw[eTm,gR,gR,gQ]) hrt.ones th4 ?_)
  rw[pNo,wCo,wAg,eTm,wNi]
  have f5:=Fr.sets w3.heap.size cs w4 0
  generalize w4.setCells w3.heap.size 0 cs=w5 at f5 ⊢
  have sz5:=f5.size
  have f05:Fr [] w w5:=(((f1.tr f2).tr f3).tr f4).trans f5 (by intro r hr;simp at hr;subst hr;exact .inl (by simp only;omega))
  rw[gR,gQ]
  generalize ha5:(((((((a3.put (some 16) (.agg ([fsv,.int .i64 fx]:List Value).toArray)).put (some 17) (.agg zT.toArray)).put (some 18) ov).put (some 19) (.tuple #[.agg cs.toArray,.bool true])).put (some 15) (.tuple #[.agg cs.toArray,.bool true])).put (some 20) (.agg cs.toArray)).put (some 21) (.bool true)).put (some 3) (.pointer (some ⟨w3.heap.size,0,none⟩))=a5'
  have k5:Kept 3 a3 a5':=by subst ha5;exact (((((((Kept.put0 (by omega) _).put (by omega) _).put (by omega) _).put (by omega) _).put (by omega) _).put (by omega) _).put (by omega) _).put (by omega) _
  have hz5:=k5.size
  have k6:Kept 3 a3 (a5'.put (some 4) (.bool true)):=k5.put (by omega) _
  have q4:get (a5'.put (some 4) (.bool true)) 4 = .bool true:=gQ
  generalize a5'.put (some 4) (.bool true)=a6 at k6 q4 ⊢
  have hz6:=k6.size
  have hdf6:a6.defers=[]:=by rw[k6.defers,hdf3]
  have g06:get a6 0 = .slice q len cap:=by rw[k6.get 0 (by omega),g03]
  refine hK7 a6 w5 (tUp ?_)
  -- both ways
  refine tId (wp_seq_k fun K8 hK8=>?_)
  refine r_toldk (m:=22) (dt:=5) (db:=6) (mz:=1) hT hd1 (A:=A) (xs:=xs) (er:=er) (ty:=ty) (u:=u) (hv.kept f05 (by simp) (fun _ h=>h)) hxl (f05.cell her .nil) hi (by omega) ⟨by omega,by omega,by omega,by omega,by omega⟩ g06 ?_
  intro a7 w7 bl1 c1 f7 hz7 hdf7 kp7 g5 g6 hb1 hb1' r1 tt1
  refine hK8 a7 w7 (tUp ?_)
  have sz7:=f7.size
  refine tId (wp_seq_k fun K9 hK9=>?_)
  refine r_toldk (m:=27) (dt:=7) (db:=8) (mz:=1) hT hd2 (A:=A) (xs:=xs) (er:=er) (ty:=ty) (u:=u) ((hv.kept f05 (by simp) (fun _ h=>h)).kept f7 (by simp) (fun _ h=>h)) hxl (f7.cell (f05.cell her .nil) .nil) hi (by omega) ⟨by omega,by omega,by omega,by omega,by omega⟩ (by rw[kp7 0 (by omega) (by omega) (by omega),g06]) ?_
  intro a8 w8 bl2 c2 f8 hz8 hdf8 kp8 g7 g8 hb2 hb2' r2 tt2
  refine hK9 a8 w8 (tUp ?_)
  have sz8:=f8.size
  refine tId (wp_seq_k fun K10 hK10=>?_)
  refine lawuk_end hmx hT hT4 he hgotE hgot hsameE hsame (b1:=bl1) (b2:=bl2) (c1:=c1) (c2:=c2) (tr:=(res xs).1) (b:=(res xs).2) (B1:=From w5.heap.size w7) (B2:=From w7.heap.size w8) (by omega) (by rw[kp8 4 (by omega) (by omega) (by omega),kp7 4 (by omega) (by omega) (by omega),q4]) (by rw[kp8 5 (by omega) (by omega) (by omega),g5]) (by rw[kp8 6 (by omega) (by omega) (by omega),g6]) g7 g8
    (f8.range r1 .nil) r2 (tt1.kept f8 (by simp) (fun _ h=>h)) tt2 (fun b hb=>by have:=hb.2;omega) (fun b hb=>hb.2) ?_
  intro a9 w9 k9 f9
  have hz9:=k9.size
  refine hK10 _ w9 (wp_ret ?_)
  exact ⟨by simp only[dPu];rw[k9.defers,hdf8,hdf7,hdf6],_,rIs hres' (gQ),rfl,((f05.tr f7).tr f8).tr f9⟩
end Go.Kq

namespace Go.Kq
open Go Go.Proofs
theorem reps_ones {w:World} {A:Nat→Prop}:∀ {tys:List Ty} {cs:List Value} {ys:List V},tys.all Ty.one=true→Reps w A tys cs ys→∀ u ∈ cs,u.oneCell'=true
  | [],cs,ys,_,h,u,hu=>by obtain ⟨rfl,_⟩:=h;simp at hu
  | t :: ts, cs, ys, ho, h, u, hu => by
    obtain ⟨c1,c2,y,r,rfl,rfl,h2,h3⟩:=h
    simp only[List.all_cons,Bool.and_eq_true] at ho
    have hl:=h2.length
    rw[Ty.one_size ho.1] at hl
    obtain ⟨v,rfl⟩:=List.length_eq_one_iff.1 hl
    rcases List.mem_append.1 hu with hu | hu
    · simp at hu;subst hu;exact h2.oneCell ho.1
    · exact reps_ones ho.2 h3 u hu
end Go.Kq

namespace Go.Kq
open Go Go.Proofs
variable {P:Program} {TT TL S TS:TypeId} {N sv st si m n k o kf id id2:Nat}
theorem app_num2 {kd:IntKind} {TE Ti:TypeId} (hT:TreeTys P TT TL) (hTE:scal P TE=true) (hi1:intOf P TE kd=true) (hi2:intOf P Ti .i64=true) (hk64:fits64 kd=true)
    {t0 t1 t2 t3 t4 t5 t6 t7 t8 t9 t10 t11 t12 t13 t14 t15 t16 t17 t18 t19 t20:TypeId} {p0 p1 p2 p3 p4 p5 p6 p7 p8 p9 p10 p11 p12 p13 p14 p15 p16 p17 p18 p19 p20:String} {e0 e1 e2 e3 e4 e5 e6 e7 e8 e9 e10 e11 e12 e13 e14 e15 e16 e17 e18 e19 e20:Array Edge}
    (he:edgeOk 0 [e0,e1,e2,e3,e4,e5,e6,e7,e8,e9,e10,e11,e12,e13,e14,e15,e16,e17,e18,e19,e20] [[],[0],[],[2],[3],[4],[5],[],[7],[8],[9],[],[10,11],[12],[13],[14],[15],[6,16],[1],[18],[0,1,2,3,4,5,6,7,8,9,10,11,12,13,14,15,16,17,18,19]]=true)
    (hS:fieldOf P S kf o=true) (hTS0:sliceN P TS (Ty.size (.int kd))=true) (hscl:scal P TS=true)
    (hb:(decide (sv < n) && decide (st < n) && decide (si < n) && decide (m≤n) && decide (n+20≤N))=true) :
    AppStep P N sv st si m (Code.region id ⟨[⟨some n,.fieldAddr TT (.tmp st) 3,t0,p0,e0,none⟩,⟨some (n+1),.load TL (.tmp n),t1,p1,e1,none⟩,⟨some (n+2),.fieldAddr TT (.tmp st) 3,t2,p2,e2,none⟩,⟨some (n+3),.load TL (.tmp (n+2)),t3,p3,e3,none⟩,
      ⟨some (n+4),.indexAddr TL (.tmp (n+3)) (.const (.int .i64 k)),t4,p4,e4,none⟩,⟨some (n+5),.fieldAddr TT (.tmp (n+4)) 3,t5,p5,e5,none⟩,⟨some (n+6),.load TL (.tmp (n+5)),t6,p6,e6,none⟩,
      ⟨some (n+7),.move (.tmp sv),t7,p7,e7,none⟩,⟨some (n+8),.nilCheck (.tmp (n+7)),t8,p8,e8,none⟩,⟨some (n+9),.fieldAddr S (.tmp (n+8)) kf,t9,p9,e9,none⟩,⟨some (n+10),.load TS (.tmp (n+9)),t10,p10,e10,none⟩,
      ⟨some (n+11),.move (.tmp si),t11,p11,e11,none⟩,⟨some (n+12),.indexAddr TS (.tmp (n+10)) (.tmp (n+11)),t12,p12,e12,none⟩,⟨some (n+13),.load TE (.tmp (n+12)),t13,p13,e13,none⟩,⟨some (n+14),.convert TE Ti (.tmp (n+13)),t14,p14,e14,none⟩,⟨some (n+15),.build TT #[(0,.tmp (n+14))],t15,p15,e15,none⟩,
      ⟨some (n+16),.buildSlice TL 1 #[(0,.tmp (n+15))],t16,p16,e16,none⟩,⟨some (n+17),.call ⟨.builtin .append,#[.tmp (n+6),.tmp (n+16)],#[TL,TL]⟩,t17,p17,e17,none⟩,
      ⟨some (n+18),.indexAddr TL (.tmp (n+1)) (.const (.int .i64 k)),t18,p18,e18,none⟩,⟨some (n+19),.fieldAddr TT (.tmp (n+18)) 3,t19,p19,e19,none⟩,⟨none,.store TL (.tmp (n+19)) (.tmp (n+17)),t20,p20,e20,none⟩]⟩ true) k o (.int kd) tNum:=by
  intro e K Q a w ts s1 b lv l x j y hN hsv hst hsi hm hy hlo hx hj hk hll hK
  obtain ⟨et,es,hTS⟩:=sliceN_is hTS0
  simp only[Bool.and_eq_true,decide_eq_true_eq] at hb
  obtain ⟨⟨⟨⟨b1,b2⟩,b3⟩,b4⟩,b5⟩:=hb
  obtain ⟨c,hc,hrc⟩:=hx.one rfl
  obtain ⟨q,cap,rfl,hq,_,hel⟩:=arr_cell hrc
  have hjl:j < x.items.length:=(List.getElem?_eq_some_iff.1 hj).1
  obtain ⟨qa,rfl⟩:∃ qa,q=some qa:=by
    cases q with
    | some qa=>exact ⟨qa,rfl⟩
    | none=>cases x <;> simp[V.isNil] at hq;simp[V.items] at hjl
  obtain ⟨sb,so,rfl,hB,hels⟩:=hel _ rfl
  obtain ⟨ce,hce,hcl,iy,rfl,rfl,hy1,hy2⟩:=hels j y hj
  have hi : -9223372036854775808≤iy∧iy≤9223372036854775807:=by
    simp only[fits64,Bool.and_eq_true,decide_eq_true_eq] at hk64;exact ⟨by omega,by omega⟩
  have hBs:=hm.bs sb hB
  have hs01:e.s0≤s1:=hm.s0
  have hs1:s1≤w.heap.size:=hm.top
  have hsp:∀ r ∈ spare lv 5,From s1 w r.b:=hlo.spare_in
  have hpb:e.pb < e.s0:=hm.ps
  have hfp:∀ w',Fr (spare lv 5) w w'→w'.cell? ⟨e.pb,e.po+o,none⟩=some (.slice (some ⟨sb,so,none⟩) x.items.length cap):=fun w' hf'=>hf'.cell hc (fun r hr=>.inl (by have:=hsp r hr;unfold From at this;omega))
  have hzero:=hT.zero
  refine wp_drawE (os:=[⟨some n,.fieldAddr TT (.tmp st) 3,t0,p0,e0,none⟩,⟨some (n+1),.load TL (.tmp n),t1,p1,e1,none⟩,⟨some (n+2),.fieldAddr TT (.tmp st) 3,t2,p2,e2,none⟩,⟨some (n+3),.load TL (.tmp (n+2)),t3,p3,e3,none⟩,
      ⟨some (n+4),.indexAddr TL (.tmp (n+3)) (.const (.int .i64 k)),t4,p4,e4,none⟩,⟨some (n+5),.fieldAddr TT (.tmp (n+4)) 3,t5,p5,e5,none⟩,⟨some (n+6),.load TL (.tmp (n+5)),t6,p6,e6,none⟩,
      ⟨some (n+7),.move (.tmp sv),t7,p7,e7,none⟩,⟨some (n+8),.nilCheck (.tmp (n+7)),t8,p8,e8,none⟩,⟨some (n+9),.fieldAddr S (.tmp (n+8)) kf,t9,p9,e9,none⟩,⟨some (n+10),.load TS (.tmp (n+9)),t10,p10,e10,none⟩,
      ⟨some (n+11),.move (.tmp si),t11,p11,e11,none⟩,⟨some (n+12),.indexAddr TS (.tmp (n+10)) (.tmp (n+11)),t12,p12,e12,none⟩,⟨some (n+13),.load TE (.tmp (n+12)),t13,p13,e13,none⟩,⟨some (n+14),.convert TE Ti (.tmp (n+13)),t14,p14,e14,none⟩,⟨some (n+15),.build TT #[(0,.tmp (n+14))],t15,p15,e15,none⟩,
      ⟨some (n+16),.buildSlice TL 1 #[(0,.tmp (n+15))],t16,p16,e16,none⟩,⟨some (n+17),.call ⟨.builtin .append,#[.tmp (n+6),.tmp (n+16)],#[TL,TL]⟩,t17,p17,e17,none⟩,
      ⟨some (n+18),.indexAddr TL (.tmp (n+1)) (.const (.int .i64 k)),t18,p18,e18,none⟩,⟨some (n+19),.fieldAddr TT (.tmp (n+18)) 3,t19,p19,e19,none⟩])
    [spC [] (.pointer (some ⟨e.tb,0+3,none⟩)),spC [0] (.slice (some ⟨e.lb,0,none⟩) e.n e.n),spC [] (.pointer (some ⟨e.tb,0+3,none⟩)),spC [2] (.slice (some ⟨e.lb,0,none⟩) e.n e.n),
      spC [3] (.pointer (some ⟨e.lb,0+(k:Int).toNat * 5,none⟩)),spC [4] (.pointer (some ⟨e.lb,0+(k:Int).toNat * 5+3,none⟩)),spC [5] lv,
      spC [] (.pointer (some ⟨e.pb,e.po,none⟩)),spC [7] (.pointer (some ⟨e.pb,e.po,none⟩)),spC [8] (.pointer (some ⟨e.pb,e.po+o,none⟩)),spC [9] (.slice (some ⟨sb,so,none⟩) x.items.length cap),
      spC [] (.int .i64 j),spC [10,11] (.pointer (some ⟨sb,so+(j:Int).toNat * Ty.size (.int kd),none⟩)),spC [12] (.int kd iy),spC [13] (.int .i64 iy),spR [14] (fun v w'=>∃ cs:List Value,v = .agg cs.toArray∧RepT w' (From w.heap.size w') cs (tNum (.n iy))),
      spR [15] (fun v w'=>∃ (b:Nat) (cs:List Value),v = .slice (some ⟨b,0,none⟩) 1 1∧w.heap.size≤b∧w'.rangeAt b 0 cs∧RepT w' (From w.heap.size w') cs (tNum (.n iy))),
      spW [6,16] (fun v w'=>LOwn w' (From s1 w') v (l++[tNum (.n iy)])),
      spC [1] (.pointer (some ⟨e.lb,0+(k:Int).toNat * 5,none⟩)),spC [18] (.pointer (some ⟨e.lb,0+(k:Int).toNat * 5+3,none⟩))] n (spare lv 5) hT.mixed he (by simp[shape]) rfl
    (by simp[spC,spR,spW]) (by simp;omega)
    ⟨lCc _ _ _,lCc _ _ _,lCc _ _ _,lCc _ _ _,lCc _ _ _,lCc _ _ _,lCc _ _ _,lCc _ _ _,lCc _ _ _,lCc _ _ _,lCc _ _ _,lCc _ _ _,lCc _ _ _,lCc _ _ _,lCc _ _ _,?_,?_,?_,lCc _ _ _,lCc _ _ _,trivial⟩ ?_ ?_
  · rintro v w1 w2 hf12 ⟨cs, h1, h2⟩
    exact ⟨cs,h1,h2.kept hf12 (fun r hr hF=>by have:=hsp r hr;unfold From at this hF;omega) (From.mono hf12.size)⟩
  · rintro v w1 w2 hf12 ⟨b, cs, h1, h2, h3, h4⟩
    exact ⟨b,cs,h1,h2,hf12.range h3 (fun r hr=>.inl (by have:=hsp r hr;unfold From at this;omega)),h4.kept hf12 (fun r hr hF=>by have:=hsp r hr;unfold From at this hF;omega) (From.mono hf12.size)⟩
  · intro v w1 w2 hf12 h1
    have hf12:Fr [] w1 w2:=hf12
    have h1:LOwn w1 (From s1 w1) v (l++[tNum (.n iy)]):=h1
    exact h1.kept hf12 (by simp) (From.mono hf12.size)
  · refine ⟨op_c fun a' w' hk' hf' hd' K' hK'=>?_,op_c fun a' w' hk' hf' hd' K' hK'=>?_,op_c fun a' w' hk' hf' hd' K' hK'=>?_,op_c fun a' w' hk' hf' hd' K' hK'=>?_,op_c fun a' w' hk' hf' hd' K' hK'=>?_,
      op_c fun a' w' hk' hf' hd' K' hK'=>?_,op_c fun a' w' hk' hf' hd' K' hK'=>?_,op_c fun a' w' hk' hf' hd' K' hK'=>?_,op_c fun a' w' hk' hf' hd' K' hK'=>?_,op_c fun a' w' hk' hf' hd' K' hK'=>?_,
      op_c fun a' w' hk' hf' hd' K' hK'=>?_,op_c fun a' w' hk' hf' hd' K' hK'=>?_,op_c fun a' w' hk' hf' hd' K' hK'=>?_,op_c fun a' w' hk' hf' hd' K' hK'=>?_,op_c fun a' w' hk' hf' hd' K' hK'=>?_,op_r fun a' w' hk' hf' hd' K' hK'=>?_,op_r fun a' w' hk' hf' hd' K' hK'=>?_,
      op_w fun a' w' hk' hf' hd' K' hK'=>?_,op_c fun a' w' hk' hf' hd' K' hK'=>?_,op_c fun a' w' hk' hf' hd' K' hK'=>?_,trivial⟩
    · exact wFa (hT.flat.field (by decide)) (by rw[eTm,hk'.get st b2,hst]) hK'
    · exact wp_load hT.scl (by rw[eTm];exact hd'.c 0 (by simp) rfl) ((hm.kept hf' (fun r hr=>(hsp r hr).1)).tree 3 _ rfl) hK'
    · exact wFa (hT.flat.field (by decide)) (by rw[eTm,hk'.get st b2,hst]) hK'
    · exact wp_load hT.scl (by rw[eTm];exact hd'.c 2 (by simp) rfl) ((hm.kept hf' (fun r hr=>(hsp r hr).1)).tree 3 _ rfl) hK'
    · exact wp_indexAddr hT.sl (by rw[eTm];exact hd'.c 3 (by simp) rfl) rfl (by omega) (by omega) hK'
    · exact wFa (hT.flat.field (by decide)) (by rw[eTm];exact hd'.c 4 (by simp) rfl) hK'
    · obtain ⟨es, h4, rfl, _⟩ := (hm.kept hf' (fun r hr => (hsp r hr).1)).els k _ hy
      refine wp_load hT.scl (by rw[eTm];exact hd'.c 5 (by simp) rfl) ?_ hK'
      have:=h4 3 lv rfl
      simpa using this
    · rw[wMw,eTm,hk'.get sv b1,hsv];exact hK'
    · exact wNc (by rw[eTm];exact hd'.c 7 (by simp) rfl) hK'
    · exact wFa hS (by rw[eTm];exact hd'.c 8 (by simp) rfl) hK'
    · exact wp_load hscl (by rw[eTm];exact hd'.c 9 (by simp) rfl) (hfp w' hf') hK'
    · rw[wMw,eTm,hk'.get si b3,hsi];exact hK'
    · exact wp_indexAddr hTS (by rw[eTm];exact hd'.c 10 (by simp) rfl) (by rw[eTm];exact hd'.c 11 (by simp) rfl) (by omega) (by omega) hK'
    · exact wp_load hTE (by rw[eTm];exact hd'.c 12 (by simp) rfl) (by have:=(hf'.range hce (fun r hr=>.inl (by have:=hsp r hr;unfold From at this;omega))) 0 _ rfl;simpa [Ty.size] using this) hK'
    · refine wCv hi1 hi2 (by rw [eTm]; exact hd'.c 13 (by simp) rfl) ?_
      rw[wrap64 hi];exact hK'
    · exact wp_build1 hT.flat (by decide) (by rw[eTm];exact hd'.c 14 (by simp) rfl) rfl (hK' _ _ ⟨_,rfl,repT_num hi⟩ (Fr.refl _ _))
    · obtain ⟨cs, h1, h2⟩ := hd'.at (d := 15) (by simp) rfl
      have hwf:=hf'.size
      refine wp_slice1 hT.sl hzero rfl (by omega) (cs:=cs) (by rw[eTm,h1];rfl) h2.length fun _=>?_
      have hal:=Fr.alloc [] w' (.cells cs.toArray TT)
      exact hK' _ _ ⟨_,cs,rfl,hwf,range_new w' cs.toArray TT (0,0),h2.kept hal (by simp) (From.mono hal.size)⟩ hal
    · obtain ⟨bb, cs, h1, h2, h3, h4⟩ := hd'.at (d := 16) (by simp) rfl
      have hlv:get a' (n+6)=lv:=hd'.c 6 (by simp) rfl
      have hwf:=hf'.size
      obtain ⟨flat,ho1,ho2⟩:=hlo.spares hf' (A':=From s1 w') (From.mono hf'.size)
      have hc4:=h4.length
      refine wp_append (A:=From s1 w') (z:=zT) hT.sl hzero rfl (by rw[eTm,hlv]) (by rw[eTm,h1]) ho1 (by omega) (news:=cs) (by omega) h3 h4.ones (by omega) (by simp only[maxLen];omega) ?_
      intro v' w2 hf2 ho' hbk
      refine hK' _ _ ?_ hf2
      have hf2s:=hf2.size
      refine LOwn.app (A':=From s1 w2) ho2 ho1 hf2 ?_ hbk (fun b hb=>⟨From.mono hf2s b hb,hb.2⟩) h4 ?_
      · obtain ⟨ha, hb⟩ := ho'
        refine ⟨ha,hb.imp (fun h=>h) ?_⟩
        rintro ⟨g',o',cap',hg',hrest⟩
        refine ⟨g',o',cap',?_,hrest⟩
        rcases hg' with hg' | hg'
        · exact From.mono hf2s _ hg'
        · exact ⟨by have:=hg'.1;omega,hg'.2⟩
      · intro b hb
        refine ⟨⟨by have:=hb.1;omega,hb.2⟩,fun hbl=>?_⟩
        have:=(hlo.blk_in hbl).2
        have:=hb.1
        omega
    · exact wp_indexAddr hT.sl (by rw[eTm];exact hd'.c 1 (by simp) rfl) rfl (by omega) (by omega) hK'
    · exact wFa (hT.flat.field (by decide)) (by rw[eTm];exact hd'.c 18 (by simp) rfl) hK'
  · intro a' w' hk' hf' hd'
    have h17:get a' (n+19) = .pointer (some ⟨e.lb,k * 5+3,none⟩):=by
      have:=hd'.c (nd':=[18]) (x:=.pointer (some ⟨e.lb,0+(k:Int).toNat * 5+3,none⟩)) 19 (by simp) rfl
      rw[this];simp
    have h15:LOwn w' (From s1 w') (get a' (n+17)) (l++[tNum (.n iy)]):=hd'.at (d:=17) (by simp) rfl
    have hmw:=hm.kept hf' (fun r hr=>(hsp r hr).1)
    have hth:w'.there e.lb (k * 5) 5:=there_part hmw.thL (by omega) (by omega)
    refine wp_store hT.scl (by rw[eTm,h17]) rfl h15.one (there_part hth (by omega) (by omega)) ?_
    obtain ⟨h5,h6⟩:=hmw.setL hk hy h15.one
    refine hK _ _ _ (hk'.mono b4) ⟨spare lv 5,fun r hr=>(hsp r hr).1,?_⟩ h5 (h15.kept h6 ?_ (From.mono h6.size))
    · refine (hf'.mono (l' := ⟨e.lb, k * 5, k * 5 + 5⟩ :: spare lv 5) (fun r hr => Rng.in_self (List.mem_cons_of_mem _ hr))).trans h6 ?_
      intro r hr;simp at hr;subst hr;exact Rng.in_self (by simp)
    · intro r hr hF;simp at hr;subst hr;have:=hF.1;have:=hm.ls;simp only at *;omega
theorem app_num1 {kd:IntKind} {TE Ti:TypeId} (hT:TreeTys P TT TL) (hTE:scal P TE=true) (hi1:intOf P TE kd=true) (hi2:intOf P Ti .i64=true) (hk64:fits64 kd=true) {zt:Array Value} (hzt:zt.toList=zT)
    {t0 t1 t2 t3 t4 t5 t6 t7 t8 t9 t10 t11 t12 t13 t14 t15 t16 t17 t18 t19 t20 t21:TypeId} {p0 p1 p2 p3 p4 p5 p6 p7 p8 p9 p10 p11 p12 p13 p14 p15 p16 p17 p18 p19 p20 p21:String} {e0 e1 e2 e3 e4 e5 e6 e7 e8 e9 e10 e11 e12 e13 e14 e15 e16 e17 e18 e19 e20 e21:Array Edge}
    (he:edgeOk 0 [e0,e1,e2,e3,e4,e5,e6,e7,e8,e9,e10,e11,e12,e13,e14,e15,e16,e17,e18,e19] [[],[0],[1],[2],[3],[],[5],[6],[7],[],[8,9],[10],[11],[12],[4],[],[0,1,2,3,4,5,6,7,8,9,10,11,12,13,14,15],[0,1,2,3,4,5,6,7,8,9,10,11,12,13,14,15,16],[0,1,2,3,4,5,6,7,8,9,10,11,12,13,14,15,16,17],[0,1,2,3,4,5,6,7,8,9,10,11,12,13,14,15,16,17,18]]=true)
    (hS:fieldOf P S kf o=true) (hTS0:sliceN P TS (Ty.size (.int kd))=true) (hscl:scal P TS=true)
    (hb:(decide (sv < n) && decide (st < n) && decide (si < n) && decide (m≤n) && decide (n+20≤N))=true) :
    AppStep P N sv st si m (.seq (Code.region id ⟨[⟨some n,.fieldAddr TT (.tmp st) 3,t0,p0,e0,none⟩,⟨some (n+1),.load TL (.tmp n),t1,p1,e1,none⟩,
      ⟨some (n+2),.indexAddr TL (.tmp (n+1)) (.const (.int .i64 k)),t2,p2,e2,none⟩,⟨some (n+3),.fieldAddr TT (.tmp (n+2)) 3,t3,p3,e3,none⟩,⟨some (n+4),.load TL (.tmp (n+3)),t4,p4,e4,none⟩,
      ⟨some (n+5),.move (.tmp sv),t5,p5,e5,none⟩,⟨some (n+6),.nilCheck (.tmp (n+5)),t6,p6,e6,none⟩,⟨some (n+7),.fieldAddr S (.tmp (n+6)) kf,t7,p7,e7,none⟩,⟨some (n+8),.load TS (.tmp (n+7)),t8,p8,e8,none⟩,
      ⟨some (n+9),.move (.tmp si),t9,p9,e9,none⟩,⟨some (n+10),.indexAddr TS (.tmp (n+8)) (.tmp (n+9)),t10,p10,e10,none⟩,⟨some (n+11),.load TE (.tmp (n+10)),t11,p11,e11,none⟩,⟨some (n+12),.convert TE Ti (.tmp (n+11)),t12,p12,e12,none⟩,⟨some (n+13),.build TT #[(0,.tmp (n+12))],t13,p13,e13,none⟩,
      ⟨some (n+14),.call ⟨.builtin .len,#[.tmp (n+4)],#[TL]⟩,t14,p14,e14,none⟩,⟨some (n+15),.buildSlice TL 1 #[(0,.const (.agg zt))],t15,p15,e15,none⟩,
      ⟨some (n+16),.call ⟨.builtin .append,#[.tmp (n+4),.tmp (n+15)],#[TL,TL]⟩,t16,p16,e16,none⟩,
      ⟨some (n+17),.indexAddr TL (.tmp (n+1)) (.const (.int .i64 k)),t17,p17,e17,none⟩,⟨some (n+18),.fieldAddr TT (.tmp (n+17)) 3,t18,p18,e18,none⟩,⟨none,.store TL (.tmp (n+18)) (.tmp (n+16)),t19,p19,e19,none⟩]⟩ true)
      (Code.region id2 ⟨[⟨some (n+19),.indexAddr TL (.tmp (n+16)) (.tmp (n+14)),t20,p20,e20,none⟩,⟨none,.store TT (.tmp (n+19)) (.tmp (n+13)),t21,p21,e21,none⟩]⟩ false)) k o (.int kd) tNum:=by
  intro e K Q a w ts s1 b lv l x j y hN hsv hst hsi hm hy hlo hx hj hk hll hK
  obtain ⟨et,es,hTS⟩:=sliceN_is hTS0
  simp only[Bool.and_eq_true,decide_eq_true_eq] at hb
  obtain ⟨⟨⟨⟨b1,b2⟩,b3⟩,b4⟩,b5⟩:=hb
  obtain ⟨c,hc,hrc⟩:=hx.one rfl
  obtain ⟨q,cap,rfl,hq,_,hel⟩:=arr_cell hrc
  have hjl:j < x.items.length:=(List.getElem?_eq_some_iff.1 hj).1
  obtain ⟨qa,rfl⟩:∃ qa,q=some qa:=by
    cases q with
    | some qa=>exact ⟨qa,rfl⟩
    | none=>cases x <;> simp[V.isNil] at hq;simp[V.items] at hjl
  obtain ⟨sb,so,rfl,hB,hels⟩:=hel _ rfl
  obtain ⟨ce,hce,hcl,iy,rfl,rfl,hy1,hy2⟩:=hels j y hj
  have hi : -9223372036854775808≤iy∧iy≤9223372036854775807:=by
    simp only[fits64,Bool.and_eq_true,decide_eq_true_eq] at hk64;exact ⟨by omega,by omega⟩
  have hBs:=hm.bs sb hB
  have hs01:e.s0≤s1:=hm.s0
  have hs1:s1≤w.heap.size:=hm.top
  have hpb:e.pb < e.s0:=hm.ps
  have hzero:=hT.zero
  have hloc:=hlo
  obtain ⟨flat0,ho0,hel0⟩:=hloc
  have hlvq:∃ lq lcap,lv = .slice lq l.length lcap:=by
    obtain ⟨_,h | ⟨g',o',cap',_,h,_⟩⟩:=ho0
    · exact ⟨none,0,by rw[h.1,h.2]⟩
    · exact ⟨_,_,h⟩
  obtain ⟨lq,lcap,hlv0⟩:=hlvq
  have hztc:(Value.agg zt).cells=zT.toArray:=by show zt=zT.toArray;rw[← hzt]
  refine wp_seq_k fun K1 hK1=>?_
  refine wp_drawR (os:=[⟨some n,.fieldAddr TT (.tmp st) 3,t0,p0,e0,none⟩,⟨some (n+1),.load TL (.tmp n),t1,p1,e1,none⟩,
      ⟨some (n+2),.indexAddr TL (.tmp (n+1)) (.const (.int .i64 k)),t2,p2,e2,none⟩,⟨some (n+3),.fieldAddr TT (.tmp (n+2)) 3,t3,p3,e3,none⟩,⟨some (n+4),.load TL (.tmp (n+3)),t4,p4,e4,none⟩,
      ⟨some (n+5),.move (.tmp sv),t5,p5,e5,none⟩,⟨some (n+6),.nilCheck (.tmp (n+5)),t6,p6,e6,none⟩,⟨some (n+7),.fieldAddr S (.tmp (n+6)) kf,t7,p7,e7,none⟩,⟨some (n+8),.load TS (.tmp (n+7)),t8,p8,e8,none⟩,
      ⟨some (n+9),.move (.tmp si),t9,p9,e9,none⟩,⟨some (n+10),.indexAddr TS (.tmp (n+8)) (.tmp (n+9)),t10,p10,e10,none⟩,⟨some (n+11),.load TE (.tmp (n+10)),t11,p11,e11,none⟩,⟨some (n+12),.convert TE Ti (.tmp (n+11)),t12,p12,e12,none⟩,⟨some (n+13),.build TT #[(0,.tmp (n+12))],t13,p13,e13,none⟩,
      ⟨some (n+14),.call ⟨.builtin .len,#[.tmp (n+4)],#[TL]⟩,t14,p14,e14,none⟩,⟨some (n+15),.buildSlice TL 1 #[(0,.const (.agg zt))],t15,p15,e15,none⟩])
    (rest:=[⟨some (n+16),.call ⟨.builtin .append,#[.tmp (n+4),.tmp (n+15)],#[TL,TL]⟩,t16,p16,e16,none⟩,
      ⟨some (n+17),.indexAddr TL (.tmp (n+1)) (.const (.int .i64 k)),t17,p17,e17,none⟩,⟨some (n+18),.fieldAddr TT (.tmp (n+17)) 3,t18,p18,e18,none⟩,⟨none,.store TL (.tmp (n+18)) (.tmp (n+16)),t19,p19,e19,none⟩])
    [spC [] (.pointer (some ⟨e.tb,0+3,none⟩)),spC [0] (.slice (some ⟨e.lb,0,none⟩) e.n e.n),
      spC [1] (.pointer (some ⟨e.lb,0+(k:Int).toNat * 5,none⟩)),spC [2] (.pointer (some ⟨e.lb,0+(k:Int).toNat * 5+3,none⟩)),spC [3] lv,
      spC [] (.pointer (some ⟨e.pb,e.po,none⟩)),spC [5] (.pointer (some ⟨e.pb,e.po,none⟩)),spC [6] (.pointer (some ⟨e.pb,e.po+o,none⟩)),spC [7] (.slice (some ⟨sb,so,none⟩) x.items.length cap),
      spC [] (.int .i64 j),spC [8,9] (.pointer (some ⟨sb,so+(j:Int).toNat * Ty.size (.int kd),none⟩)),spC [10] (.int kd iy),spC [11] (.int .i64 iy),spR [12] (fun v w'=>∃ cs:List Value,v = .agg cs.toArray∧RepT w' (From w.heap.size w') cs (tNum (.n iy))),
      spC [4] (.int .i64 l.length),spR [] (fun v w'=>∃ (b:Nat),v = .slice (some ⟨b,0,none⟩) 1 1∧w.heap.size≤b∧w'.rangeAt b 0 zT)] n [] hT.mixed he (by simp[shape]) rfl
    (by simp[spC,spR]) (by simp;omega)
    ⟨lCc _ _ _,lCc _ _ _,lCc _ _ _,lCc _ _ _,lCc _ _ _,lCc _ _ _,lCc _ _ _,lCc _ _ _,lCc _ _ _,lCc _ _ _,lCc _ _ _,lCc _ _ _,lCc _ _ _,?_,lCc _ _ _,?_,trivial⟩ ?_ ?_
  · rintro v w1 w2 hf12 ⟨cs, h1, h2⟩
    have hf12:Fr [] w1 w2:=hf12
    exact ⟨cs,h1,h2.kept hf12 (by simp) (From.mono hf12.size)⟩
  · rintro v w1 w2 hf12 ⟨b, h1, h2, h3⟩
    have hf12:Fr [] w1 w2:=hf12
    exact ⟨b,h1,h2,hf12.range h3 .nil⟩
  · refine ⟨op_c fun a' w' hk' hf' hd' K' hK'=>?_,op_c fun a' w' hk' hf' hd' K' hK'=>?_,op_c fun a' w' hk' hf' hd' K' hK'=>?_,op_c fun a' w' hk' hf' hd' K' hK'=>?_,op_c fun a' w' hk' hf' hd' K' hK'=>?_,
      op_c fun a' w' hk' hf' hd' K' hK'=>?_,op_c fun a' w' hk' hf' hd' K' hK'=>?_,op_c fun a' w' hk' hf' hd' K' hK'=>?_,op_c fun a' w' hk' hf' hd' K' hK'=>?_,op_c fun a' w' hk' hf' hd' K' hK'=>?_,
      op_c fun a' w' hk' hf' hd' K' hK'=>?_,op_c fun a' w' hk' hf' hd' K' hK'=>?_,op_c fun a' w' hk' hf' hd' K' hK'=>?_,op_r fun a' w' hk' hf' hd' K' hK'=>?_,op_c fun a' w' hk' hf' hd' K' hK'=>?_,op_r fun a' w' hk' hf' hd' K' hK'=>?_,trivial⟩
    · exact wFa (hT.flat.field (by decide)) (by rw[eTm,hk'.get st b2,hst]) hK'
    · exact wp_load hT.scl (by rw[eTm];exact hd'.c 0 (by simp) rfl) ((hm.kept hf' (by simp)).tree 3 _ rfl) hK'
    · exact wp_indexAddr hT.sl (by rw[eTm];exact hd'.c 1 (by simp) rfl) rfl (by omega) (by omega) hK'
    · exact wFa (hT.flat.field (by decide)) (by rw[eTm];exact hd'.c 2 (by simp) rfl) hK'
    · obtain ⟨es, h4, rfl, _⟩ := (hm.kept hf' (by simp)).els k _ hy
      refine wp_load hT.scl (by rw[eTm];exact hd'.c 3 (by simp) rfl) ?_ hK'
      have:=h4 3 lv rfl
      simpa using this
    · rw[wMw,eTm,hk'.get sv b1,hsv];exact hK'
    · exact wNc (by rw[eTm];exact hd'.c 5 (by simp) rfl) hK'
    · exact wFa hS (by rw[eTm];exact hd'.c 6 (by simp) rfl) hK'
    · exact wp_load hscl (by rw[eTm];exact hd'.c 7 (by simp) rfl) (hf'.cell hc .nil) hK'
    · rw[wMw,eTm,hk'.get si b3,hsi];exact hK'
    · exact wp_indexAddr hTS (by rw[eTm];exact hd'.c 8 (by simp) rfl) (by rw[eTm];exact hd'.c 9 (by simp) rfl) (by omega) (by omega) hK'
    · exact wp_load hTE (by rw[eTm];exact hd'.c 10 (by simp) rfl) (by have:=(hf'.range hce .nil) 0 _ rfl;simpa [Ty.size] using this) hK'
    · refine wCv hi1 hi2 (by rw [eTm]; exact hd'.c 11 (by simp) rfl) ?_
      rw[wrap64 hi];exact hK'
    · exact wp_build1 hT.flat (by decide) (by rw[eTm];exact hd'.c 12 (by simp) rfl) rfl (hK' _ _ ⟨_,rfl,repT_num hi⟩ (Fr.refl _ _))
    · have hlv : get a' (n + 4) = lv := hd'.c 4 (by simp) rfl
      exact wp_len hT.sl (by rw[eTm,hlv,hlv0]) hK'
    · have hwf := hf'.size
      refine wp_slice1 hT.sl hzero rfl (by omega) (cs:=zT) (by rw[eCo,hztc]) rfl fun _=>?_
      have hal:=Fr.alloc [] w' (.cells zT.toArray TT)
      exact hK' _ _ ⟨_,rfl,hwf,range_new w' zT.toArray TT (0,0)⟩ hal
  · intro a' w' hk' hf' hd'
    obtain ⟨cs,hv11,hr11⟩:=hd'.at (d:=13) (by simp) rfl
    obtain ⟨bb,hv13,hbb,hz13⟩:=hd'.at (d:=15) (by simp) rfl
    have hlv:get a' (n+4)=lv:=hd'.c (nd':=[3]) 4 (by simp) rfl
    have g1:get a' (n+1) = .slice (some ⟨e.lb,0,none⟩) e.n e.n:=hd'.c (nd':=[0]) 1 (by simp) rfl
    have g12:get a' (n+14) = .int .i64 l.length:=hd'.c (nd':=[4]) 14 (by simp) rfl
    have hsz:=hk'.size
    have hwf:=hf'.size
    have hmw:=hm.kept hf' (by simp)
    have hlo':=hlo.kept hf' (by simp) (A':=From s1 w') (From.mono hwf)
    have hloc:=hlo'
    obtain ⟨flat,ho1,ho2⟩:=hloc
    have hlb:∀ b,blk lv=some b→b < w.heap.size:=fun b hb=>(hlo.blk_in hb).2
    refine wC (wp_append (A:=From s1 w') (z:=zT) hT.sl hzero rfl (by rw[eTm,hlv]) (by rw[eTm,hv13]) ho1 (by omega) (news:=zT) rfl hz13 (repT_zero (w:=w') (A:=fun _=>False)).ones (by omega) (by simp only[maxLen];omega) ?_)
    intro v' w2 hf2 ho' hbk
    have hf2s:=hf2.size
    have hsp:∀ r ∈ spare lv 5,From s1 w' r.b:=hlo'.spare_in
    have hsp2:∀ r ∈ spare lv 5,r.b < w.heap.size:=fun r hr=>(hlo.spare_in r hr).2
    have hlo2:LOwn w2 (From s1 w2) v' (l++[.zero]):=by
      refine LOwn.app (A':=From s1 w2) ho2 ho1 hf2 ?_ hbk (fun b hb=>⟨From.mono hf2s b hb,hb.2⟩) (C:=fun _=>False) repT_zero (fun _ h=>h.elim)
      obtain ⟨ha,hb⟩:=ho'
      refine ⟨ha,hb.imp (fun h=>h) ?_⟩
      rintro ⟨g',o',cap',hg',hrest⟩
      refine ⟨g',o',cap',?_,hrest⟩
      rcases hg' with hg' | hg'
      · exact From.mono hf2s _ hg'
      · exact ⟨by have:=hg'.1;omega,hg'.2⟩
    have hr2:RepT w2 (fun b=>From w.heap.size w2 b∧blk v' ≠ some b) cs (tNum (.n iy)):=by
      refine hr11.kept hf2 (fun r hr hF=>by have:=hsp2 r hr;have:=hF.1;omega) (fun b hb=>⟨From.mono hf2s b hb,fun hbl=>?_⟩)
      rcases hbk with h | h
      · rw[h] at hbl;have:=hlb b hbl;have:=hb.1;omega
      · rw[h] at hbl;simp at hbl;have:=hb.2;omega
    have hm2:=hmw.kept hf2 (fun r hr=>(hsp r hr).1)
    rw[wCo]
    have hn15:n+16 < a'.tmps.size:=by omega
    refine wp_indexAddr hT.sl (by rw[eTm,gR,g1]) rfl (by omega) (by omega) ?_
    refine wC (wFa (hT.flat.field (k:=3) (by decide)) (by rw[eTm,gQ]) ?_)
    rw[wCo]
    have hth:w2.there e.lb (k * 5) 5:=there_part hm2.thL (by omega) (by omega)
    refine wp_store hT.scl (b:=e.lb) (o:=k * 5+3) (v:=v') (by rw[eTm,gQ];simp) (by rw[eTm,gR,gR,gPs hn15]) hlo2.one (there_part hth (by omega) (by omega)) ?_
    obtain ⟨h5,h6⟩:=hm2.setL hk hy hlo2.one
    have h6s:=h6.size
    generalize w2.setCell ⟨e.lb,k * 5+3,none⟩ v'=w3 at h5 h6 h6s ⊢
    generalize ha3:((a'.put (some (n+16)) v').put (some (n+17)) (.pointer (some ⟨e.lb,0+(k:Int).toNat * 5,none⟩))).put (some (n+18)) (.pointer (some ⟨e.lb,0+(k:Int).toNat * 5+3,none⟩))=a3
    have k3:Kept (n+16) a' a3:=by subst ha3;exact ((Kept.put0 (Nat.le_refl _) _).put (by omega) _).put (by omega) _
    have g14:get a3 (n+16)=v':=by subst ha3;rw[gR,gR,gPs hn15]
    have hlbs:e.lb < s1:=by have:=hm.ls;omega
    have hnlb:∀ r ∈ [(⟨e.lb,k * 5,k * 5+5⟩:Rng)],∀ s,s1≤s→¬ s≤r.b:=by
      intro r hr s hs;simp at hr;subst hr;simp only;omega
    have hlo3:=hlo2.kept h6 (A':=From s1 w3) (fun r hr hF=>hnlb r hr s1 (Nat.le_refl _) hF.1) (From.mono h6s)
    have hr3:RepT w3 (fun b=>From w.heap.size w3 b∧blk v' ≠ some b) cs (tNum (.n iy)):=hr2.kept h6 (fun r hr hF=>hnlb r hr _ hs1 hF.1.1) (fun b hb=>⟨From.mono h6s b hb.1,hb.2⟩)
    rw[wNi]
    refine hK1 (a3.put none undef) w3 ?_
    rw[pNo]
    obtain ⟨g',o',cap',hv',hg',hth',hlo4⟩:=hlo3.setLast hr3 (fun b hb=>⟨⟨by have:=hb.1.1;omega,hb.1.2⟩,hb.2⟩)
    have hs3:=k3.size
    refine wp_reg ?_
    refine wC (wp_indexAddr (k1:=.i64) (i:=l.length) hT.sl (by rw[eTm,g14,hv']) (by rw[eTm,k3.get (n+14) (by omega),g12]) (by omega) (by omega) ?_)
    rw[wCo]
    have hcl5:=hr3.length
    refine wp_storeFlat hT.flat (cs:=cs) (b:=g') (o:=o'+l.length * 5) (by rw[hcl5];rfl) (by rw[eTm,gQ];simp) (by rw[eTm,gR,k3.get (n+13) (by omega),hv11]) hr3.ones (by rw[hcl5];exact hth') ?_
    have hf4:=Fr.sets g' cs w3 (o'+l.length * 5)
    rw[hcl5] at hf4
    have hgs:s1≤g':=hg'.1
    have hsz4:=hf4.size
    refine hK _ _ v' ?_ ⟨spare lv 5++[⟨g',o'+l.length * 5,o'+l.length * 5+5⟩],?_,?_⟩ (h5.kept hf4 (by intro r hr;simp at hr;subst hr;exact hgs)) (hlo4.kept (Fr.refl [] _) (by simp) (From.mono hsz4))
    · exact ((hk'.mono b4).trans (k3.mono (by omega))).trans ((Kept.put0 (by omega) _))
    · intro r hr
      rcases List.mem_append.1 hr with h | h
      · exact (hsp r h).1
      · simp at h;subst h;exact hgs
    · have f1 : Fr (⟨e.lb, k * 5, k * 5 + 5⟩ :: (spare lv 5 ++ [⟨g', o' + l.length * 5, o' + l.length * 5 + 5⟩])) w w2 := (hf'.nil (l := _)).tr (hf2.mono (fun r hr => Rng.in_self (List.mem_cons_of_mem _ (List.mem_append_left _ hr))))
      have f2:Fr (⟨e.lb,k * 5,k * 5+5⟩::(spare lv 5++[⟨g',o'+l.length * 5,o'+l.length * 5+5⟩])) w w3:=f1.trans h6 (by intro r hr;simp at hr;subst hr;exact Rng.in_self (by simp))
      refine f2.trans hf4 ?_
      intro r hr;simp at hr;subst hr;exact Rng.in_self (by simp)
end Go.Kq
