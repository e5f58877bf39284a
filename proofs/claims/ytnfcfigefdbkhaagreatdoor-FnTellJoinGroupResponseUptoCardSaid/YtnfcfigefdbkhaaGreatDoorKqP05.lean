/- A part of the library: rules of reasoning about the program's operations and what its shared functions do. -/
import Derived.Test.YtnfcfigefdbkhaaGreatDoorKqP04
import Derived.Test.YtnfcfigefdbkhaaGreatDoorKqP02
import Derived.Below
import Derived.ChangeSame
import Derived.ChangeSlices
import Derived.ChangeArms
import Derived.LaidLaws
import Derived.OpenShut
import Derived.WideKeyArgs
import Derived.WalkKit
import Derived.ProofKit
import Derived.Test.YtnfcfigefdbkhaaGreatDoorKqP03
set_option linter.unusedVariables false
set_option linter.unusedSimpArgs false
namespace Go.Kq
open Go Go.Proofs
theorem take_flatMap {f:T→List UInt8}:∀ {l:List T} {j:Nat} {t:T},l[j]?=some t→(l.take (j+1)).flatMap f=(l.take j).flatMap f++f t
  | [],_,_,h=>by simp at h
  | x::l,0,t,h=>by simp at h;subst h;simp
  | x :: l, j + 1, t, h => by
    have:=take_flatMap (f:=f) (l:=l) (j:=j) (t:=t) (by simpa using h);simp only[List.take_succ_cons,List.flatMap_cons,this,List.append_assoc]
theorem take_flatMap_le {f:T→List UInt8}:∀ {l:List T} (j:Nat),((l.take j).flatMap f).length≤(l.flatMap f).length
  | [],_=>by simp
  | x::l,0=>by simp
  | x :: l, j + 1 => by
    have:=take_flatMap_le (f:=f) (l:=l) j;simp only[List.take_succ_cons,List.flatMap_cons,List.length_append];omega
theorem flatMap_part {f:T→List UInt8} {l:List T} {j:Nat} {t:T} (h:l[j]?=some t):(f t).length≤(l.flatMap f).length:=by
  have h1:=take_flatMap (f:=f) h;have h2:=take_flatMap_le (f:=f) (l:=l) (j+1);rw[h1,List.length_append] at h2;omega
structure FieldM (P:Program) (f:FuncId) (fd:Fd) (enc:Int→Bool→T→List UInt8):Prop where
  enters:Enters P f
  call:∀ (w:World) (A B:Nat→Prop) (ver:Int) (flex:Bool) (cs ct:List Value) (t:T),RepF w A cs fd→RepT w B ct t→(∀ b,A b→b < w.heap.size)→(∀ b,B b→b < w.heap.size)→(enc ver flex t).length≤4294967296 →
    Calls P f #[.agg cs.toArray,.int .i64 ver,.bool flex,.agg ct.toArray] w (Fresh w (enc ver flex t))
set_option maxHeartbeats 4000000 in
theorem field_m {P:Program} {f:FuncId} {fn:Func} {T3 T22 T23 T26 T29 T45:TypeId} {f26 f72 f73 f74 f75 f76:FuncId} {a0:Array TypeId} {a1:Array TypeId} {a2:Array TypeId} {a3:Array TypeId} {a4:Array TypeId} {a5:Array TypeId} {a6:Array TypeId} {a7:Array TypeId} {i0 i1 i2 i3 i4 i5 i6 i7 i8 i9 i10 i11 i12 i13 i14 i15 i16 i17:Nat} {t0 t1 t2 t3 t4 t5 t6 t7 t8 t9 t10 t11 t12 t13 t14 t15 t16 t17 t18 t19 t20 t21 t22 t23 t24 t25 t26 t27 t28 t29 t30 t31 t32 t33 t34 t35 t36 t37 t38 t39 t40 t41 t42 t43 t44 t45 t46 t47 t48 t49 t50 t51 t52 t53 t54 t55 t56 t57 t58 t59 t60 t61 t62 t63 t64 t65 t66 t67 t68 t69 t70 t71 t72 t73 t74 t75 t76:TypeId} {p0 p1 p2 p3 p4 p5 p6 p7 p8 p9 p10 p11 p12 p13 p14 p15 p16 p17 p18 p19 p20 p21 p22 p23 p24 p25 p26 p27 p28 p29 p30 p31 p32 p33 p34 p35 p36 p37 p38 p39 p40 p41 p42 p43 p44 p45 p46 p47 p48 p49 p50 p51 p52 p53 p54 p55 p56 p57 p58 p59 p60 p61 p62 p63 p64 p65 p66 p67 p68 p69 p70 p71 p72 p73 p74 p75 p76:String} {e0 e1 e2 e3 e4 e5 e6 e7 e8 e9 e10 e11 e12 e13 e14 e15 e16 e17 e18 e19 e20 e21 e22 e23 e24 e25 e26 e27 e28 e29 e30 e31 e32 e33 e34 e35 e36 e37 e38 e39 e40 e41 e42 e43 e44 e45 e46 e47 e48 e49 e50 e51 e52 e53 e54 e55 e56 e57 e58 e59 e60 e61 e62 e63 e64 e65 e66 e67 e68 e69 e70 e71 e72 e73 e74 e75 e76:Array Edge} {te te5:TypeId} {tb:Nat} {fd:Fd} {sub:Int→Bool→T→List UInt8}
    (hf:P.funcs[f]?=some fn) (hname:(fn.name == "runtime.NumGoroutine")=false) (hres:fn.results = #[.tmp 8]) (hN:fn.ntmps=76)
    (hbody:fn.body=some (.seq (Code.region i0 ⟨[⟨some 4,.box T45 (.tmp 0),t0,p0,e0,none⟩,⟨some 7,.box T26 (.tmp 3),t1,p1,e1,none⟩,
    oA 8 (.const (.slice none 0 0)) t2 p2 e2]⟩ false) (.seq (Code.region i1 ⟨[oL 13 T45 4 t3 p3 e3,
    oM 14 1 t4 p4 e4,
    oL 15 T26 7 t5 p5 e5,
    oC 16 f72 #[(.tmp 13),(.tmp 14),(.tmp 15)] a0 t6 p6 e6,
    oT 9 16 t7 p7 e7]⟩ false) (.seq (.seq (Code.region i2 ⟨[oF 17 T45 4 0 t8 p8 e8,
    oL 18 T3 17 t9 p9 e9,⟨some 19,.binOp .eql T3 (.tmp 18) (.const (.int .i64 11)) T3,t10,p10,e10,none⟩]⟩ false) (.cond (.tmp 19) (.seq (Code.region i3 ⟨[oF 20 T26 7 3 t11 p11 e11,
    oL 21 T23 20 t12 p12 e12,
    oC 22 f73 #[(.tmp 21)] a1 t13 p13 e13,
    oT 10 22 t14 p14 e14]⟩ false) (.seq (.seq (Code.region i4 ⟨[oM 23 9 t15 p15 e15]⟩ false) (.cond (.tmp 23) (Code.region i5 ⟨[oA 10 (.const (.slice none 0 0)) t16 p16 e16]⟩ false) .skip)) (.seq (Code.region i6 ⟨[oM 24 2 t17 p17 e17,
    oM 25 9 t18 p18 e18,
    oM 26 10 t19 p19 e19,⟨some 27,.call ⟨.builtin .len,#[(.tmp 26)],#[T23]⟩,t20,p20,e20,none⟩,
    oC 28 f74 #[(.tmp 24),(.tmp 25),(.tmp 27),(.const (.int .i64 4))] a2 t21 p21 e21,
    oT 11 28 t22 p22 e22]⟩ false) (.seq (.seq (Code.region i7 ⟨[oM 29 10 t23 p23 e23,⟨some 30,.call ⟨.builtin .len,#[(.tmp 29)],#[T23]⟩,t24,p24,e24,none⟩,⟨some 31,.move (.const (.int .i64 0)),t25,p25,e25,none⟩]⟩ false) (.block 0 (.loop (.seq (Code.region i8 ⟨[⟨some 32,.binOp .lss T3 (.tmp 31) (.tmp 30) T3,t26,p26,e26,none⟩]⟩ false) (.seq (.cond (.tmp 32) .skip
  (.exit 0)) (.seq (.block 1 (.seq (Code.region i9 ⟨[oM 33 31 t27 p27 e27,
    oT 12 33 t28 p28 e28]⟩ false)
  (Code.region i10 ⟨[oM 34 11 t29 p29 e29,
    oF 35 T45 4 6 t30 p30 e30,
    oL 36 T3 35 t31 p31 e31,
    oF 37 T45 4 7 t32 p32 e32,
    oL 38 T29 37 t33 p33 e33,
    oM 39 1 t34 p34 e34,
    oM 40 2 t35 p35 e35,
    oM 41 10 t36 p36 e36,
    oM 42 12 t37 p37 e37,⟨some 43,.indexAddr T23 (.tmp 41) (.tmp 42),t38,p38,e38,none⟩,
    oL 44 T26 43 t39 p39 e39,
    oC 45 f75 #[(.tmp 36),(.tmp 38),(.const (.bool false)),(.tmp 39),(.tmp 40),(.tmp 44)] a3 t40 p40 e40,⟨some 46,.call ⟨.builtin .append,#[(.tmp 34),(.tmp 45)],#[T22,T22]⟩,t41,p41,e41,none⟩,
    oT 11 46 t42 p42 e42]⟩ true)))
  (Code.region i11 ⟨[⟨some 47,.binOp .add T3 (.tmp 31) (.const (.int .i64 1)) T3,t43,p43,e43,none⟩,
    oM 31 47 t44 p44 e44]⟩ false))))))) (.seq (Code.region i12 ⟨[oM 48 11 t45 p45 e45,
    oT 8 48 t46 p46 e46]⟩ false) .ret))))) .skip)) (.seq (.seq (Code.region i13 ⟨[oF 49 T45 4 0 t47 p47 e47,
    oL 50 T3 49 t48 p48 e48,⟨some 51,.binOp .eql T3 (.tmp 50) (.const (.int .i64 10)) T3,t49,p49,e49,none⟩,
    oM 52 51 t50 p50 e50,⟨some 53,.fieldAddr T45 (.tmp 4) 3,t51,p51,e51,some (3,true)⟩,⟨some 54,.load T3 (.tmp 53),t52,p52,e52,some (3,true)⟩,⟨some 55,.binOp .geq T3 (.tmp 54) (.const (.int .i64 0)) T3,t53,p53,e53,some (3,true)⟩,⟨some 56,.pick (.tmp 52) (.tmp 55) (.const (.bool false)),t54,p54,e54,none⟩]⟩ false) (.cond (.tmp 56) (.seq (.seq (Code.region i14 ⟨[oM 57 9 t55 p55 e55]⟩ false) (.cond (.tmp 57) (.seq (Code.region i15 ⟨[oC 58 f76 #[(.const (.int .i64 (-1))),(.const (.int .i64 1))] a4 t56 p56 e56,
    oT 8 58 t57 p57 e57]⟩ false) .ret) .skip)) (.seq (Code.region i16 ⟨[oC 59 f76 #[(.const (.int .i64 1)),(.const (.int .i64 1))] a5 t58 p58 e58,
    oF 60 T45 4 7 t59 p59 e59,
    oL 61 T29 60 t60 p60 e60,
    oM 62 1 t61 p61 e61,
    oM 63 2 t62 p62 e62,
    oL 64 T26 7 t63 p63 e63,
    oC 65 f26 #[(.tmp 61),(.tmp 62),(.tmp 63),(.tmp 64)] a6 t64 p64 e64,⟨some 66,.call ⟨.builtin .append,#[(.tmp 59),(.tmp 65)],#[T22,T22]⟩,t65,p65,e65,none⟩,
    oT 8 66 t66 p66 e66]⟩ true) .ret)) .skip)) (.seq (Code.region i17 ⟨[oF 67 T45 4 0 t67 p67 e67,
    oL 68 T3 67 t68 p68 e68,
    oF 69 T45 4 7 t69 p69 e69,
    oL 70 T29 69 t70 p70 e70,
    oM 71 9 t71 p71 e71,
    oM 72 1 t72 p72 e72,
    oM 73 2 t73 p73 e73,
    oL 74 T26 7 t74 p74 e74,
    oC 75 f75 #[(.tmp 68),(.tmp 70),(.tmp 71),(.tmp 72),(.tmp 73),(.tmp 74)] a7 t75 p75 e75,
    oT 8 75 t76 p76 e76]⟩ false) .ret))))))
    (hs_T22:sliceOf P T22 te 1 1=true) (hz_T22:zeroIs P te [.int .u8 0]) (hFlT45:Flat P T45 zF) (hFlT26:Flat P T26 zT) (hcT3:scal P T3=true) (hcT23:scal P T23=true) (hsT23:slTy P T23=true) (hcT29:scal P T29=true) (hs_T23:sliceOf P T23 te5 5 tb=true) (he10:edgeOk 0 [e29,e30,e31,e32,e33,e34,e35,e36,e37,e38,e39,e40,e41,e42] [[],[],[1],[],[3],[],[],[],[],[7,8],[9],[2,4,5,6,10],[0,1,2,3,4,5,6,7,8,9,10,11],[0,1,2,3,4,5,6,7,8,9,10,11,12]]=true) (hmx:P.follows .mixedOrders=true) (he16:edgeOk 0 [e58,e59,e60,e61,e62,e63,e64,e65,e66] [[],[],[1],[],[],[],[2,3,4,5],[0,1,2,3,4,5,6],[0,1,2,3,4,5,6,7]]=true) (hNu:NullM P f72) (hTh:ThingsM P f73) (hCo:CountM P f74) (hVa:ValueM P f75 fd.sub sub) (hPa:PartM P f26 fd.sub sub) (hFx:FixM P f76):FieldM P f fd (fun ver flex t=>fieldV fd.kind fd.nul fd.of (sub ver flex) ver flex t):=by
  refine ⟨enters_of hf hname hbody,?_⟩;intro w A B ver flex cs ct t hr ht hA hB hlen
  cases t with
  | mk n s nl l u =>
  have ht0:=ht;obtain ⟨sv,lv,uv,rfl,hn,hs,hl,hu⟩:=repT_iff.1 ht;obtain ⟨fsv,rfl,hsub⟩:=repF_iff.1 hr;obtain ⟨nu,hnu⟩:∃ b,b=nullW fd.nul ver (.mk n s nl l u):=⟨_,rfl⟩;obtain ⟨tl,htl⟩:∃ x,x=thingsW nu (.mk n s nl l u):=⟨_,rfl⟩;refine calls_of_wp hf hbody ?_;generalize ha0:({ tmps:=#[Value.agg ([.int .i64 fd.kind,.int .i64 fd.fr,.int .i64 fd.to,.int .i64 fd.nul,.int .i64 fd.tag,.int .i64 fd.df,.int .i64 fd.of,fsv]:List Value).toArray,Value.int .i64 ver,Value.bool flex,Value.agg ([.int .i64 n,sv,.bool nl,lv,uv]:List Value).toArray]++Array.replicate (fn.ntmps - (#[Value.agg ([.int .i64 fd.kind,.int .i64 fd.fr,.int .i64 fd.to,.int .i64 fd.nul,.int .i64 fd.tag,.int .i64 fd.df,.int .i64 fd.of,fsv]:List Value).toArray,Value.int .i64 ver,Value.bool flex,Value.agg ([.int .i64 n,sv,.bool nl,lv,uv]:List Value).toArray]:Array Value).size) undef,defers:=[] }:Act)=a0;have hz0:a0.tmps.size=76:=by subst ha0;simp[hN]
  have hd0:a0.defers=[]:=by subst ha0;rfl
  have g0_0:get a0 0 = .agg ([.int .i64 fd.kind,.int .i64 fd.fr,.int .i64 fd.to,.int .i64 fd.nul,.int .i64 fd.tag,.int .i64 fd.df,.int .i64 fd.of,fsv]:List Value).toArray:=by subst ha0;exact gAr rfl
  have g0_1:get a0 1 = .int .i64 ver:=by subst ha0;exact gAr rfl
  have g0_2:get a0 2 = .bool flex:=by subst ha0;exact gAr rfl
  have g0_3:get a0 3 = .agg ([.int .i64 n,sv,.bool nl,lv,uv]:List Value).toArray:=by subst ha0;exact gAr rfl
  refine wT fun K1 hK1=>?_;refine wC (wp_boxL (cs:=[.int .i64 fd.kind,.int .i64 fd.fr,.int .i64 fd.to,.int .i64 fd.nul,.int .i64 fd.tag,.int .i64 fd.df,.int .i64 fd.of,fsv]) (eK g0_0) ?_);rintro w2 f2 sz2 r2 th2;have hF3:Fr [] w w2:=f2;refine wC (wp_boxL (cs:=[.int .i64 n,sv,.bool nl,lv,uv]) (eK g0_3) ?_);rintro w4 f4 sz4 r4 th4;have hF5:Fr [] w w4:=hF3.tr f4;have rb6:=f4.range r2 .nil;refine wC (wAs (v:=.slice none 0 0) rfl ?_);refine wEk hz0 hd0 fun a7 ha7 hz7 hd7=>?_;have g7_0:=kP ha7 g0_0;have g7_1:=kP ha7 g0_1;have g7_2:=kP ha7 g0_2;have g7_3:=kP ha7 g0_3;have g7_4:get a7 4 = .pointer (some ⟨w.heap.size,0,none⟩):=kG ha7 hz0;have g7_7:get a7 7 = .pointer (some ⟨w2.heap.size,0,none⟩):=kG ha7 hz0;have g7_8:get a7 8 = .slice none 0 0:=kG ha7 hz0;refine hK1 a7 w4 (tUp ?_);refine tId (wp_seq_k fun K8 hK8=>?_);have hS0:w.heap.size+2≤w4.heap.size:=by omega
  refine wp_reg ?_;refine wC (wp_loadFlat (cs:=[.int .i64 fd.kind,.int .i64 fd.fr,.int .i64 fd.to,.int .i64 fd.nul,.int .i64 fd.tag,.int .i64 fd.df,.int .i64 fd.of,fsv]) (b:=w.heap.size) (o:=0) hFlT45 rfl (eK g7_4) rb6 ?_);refine wC (wMv (v:=.int .i64 ver) (eK g7_1) ?_);refine wC (wp_loadFlat (cs:=[.int .i64 n,sv,.bool nl,lv,uv]) (b:=w2.heap.size) (o:=0) hFlT26 rfl (eK g7_7) r4 ?_);refine wC (wCr (R:=fun x wz=>x = .bool nu∧Fr [] w4 wz) (vs:=#[.agg ([.int .i64 fd.kind,.int .i64 fd.fr,.int .i64 fd.to,.int .i64 fd.nul,.int .i64 fd.tag,.int .i64 fd.df,.int .i64 fd.of,fsv]:List Value).toArray,.int .i64 ver,.agg ([.int .i64 n,sv,.bool nl,lv,uv]:List Value).toArray]) hNu.enters (mX3 (eS hz7) (eS hz7) (eS hz7)) ((hNu.call w4 A B _ _ fd (.mk n s nl l u) ver (hr.kept hF5 (by simp) (fun _ h=>h)) (ht0.kept hF5 (by simp) (fun _ h=>h))).mono (by rintro e w' ⟨rfl,hf⟩;exact ⟨_,rfl,by rw[hnu],hf⟩)) ?_);rintro x9 w9 ⟨rfl,fr9⟩;have hF10:Fr [] w w9:=hF5.tr fr9;have hL10_w4:Fr [] w4 w9:=(Fr.refl [] w4).tr fr9;have rb11:=fr9.range rb6 .nil;have rb12:=fr9.range r4 .nil;refine wC (wAs (v:=.bool nu) (eS hz7) ?_);refine wEk hz7 hd7 fun a13 ha13 hz13 hd13=>?_;have g13_0:=kP ha13 g7_0;have g13_1:=kP ha13 g7_1;have g13_2:=kP ha13 g7_2;have g13_3:=kP ha13 g7_3;have g13_4:=kP ha13 g7_4;have g13_7:=kP ha13 g7_7;have g13_8:=kP ha13 g7_8;have g13_9:get a13 9 = .bool nu:=kG ha13 hz7;refine hK8 a13 w9 (tUp ?_);refine tId (wp_seq_k fun K14 hK14=>?_);refine wS fun K15 hK15=>?_;refine wC (wFa (b:=w.heap.size) (i:=0) (hFlT45.fld (by decide)) (eK g13_4) ?_);rw[show (0+0:Nat)=0 from rfl];refine wC (wL0 (j:=0) (v:=.int .i64 fd.kind) hcT3 (eS hz13) rb11 rfl ?_);refine wC (wp_eql (k1:=.i64) (i:=fd.kind) (j:=11) (eS hz13) rfl ?_);refine wEk hz13 hd13 fun a16 ha16 hz16 hd16=>?_;have g16_0:=kP ha16 g13_0;have g16_1:=kP ha16 g13_1;have g16_2:=kP ha16 g13_2;have g16_3:=kP ha16 g13_3;have g16_4:=kP ha16 g13_4;have g16_7:=kP ha16 g13_7;have g16_8:=kP ha16 g13_8;have g16_9:=kP ha16 g13_9;have g16_19:get a16 19 = .bool ((fd.kind:Int)==(11:Int)):=kG ha16 hz13;refine hK15 a16 w9 ?_;refine wp_cond_split (t:=((fd.kind:Int)==(11:Int))) (eK g16_19) (fun hc17=>?_) (fun hc17=>?_)
  · have h11 : fd.kind = 11 := by simpa using hc17
    refine wS fun K18 hK18=>?_;refine wC (wFa (b:=w2.heap.size) (i:=0) (hFlT26.fld (by decide)) (eK g16_7) ?_);rw[show (0+3:Nat)=3 from rfl];refine wC (wL0 (j:=3) (v:=lv) hcT23 (eS hz16) rb12 rfl ?_);refine wC (wCr (R:=fun x wz=>Things wz B x (l.take 32767)∧w9=wz) (vs:=#[lv]) hTh.enters (mX1 (eS hz16)) ((hTh.call w9 B lv l (hl.kept hF10 (by simp) (fun _ h=>h))).mono (by rintro e w' ⟨x,rfl,h1,rfl⟩;exact ⟨x,rfl,h1,rfl⟩)) ?_);rintro x19 _ ⟨hx19,rfl⟩;obtain ⟨q19,c19,rfl,-,-,-⟩:=hx19.sl2;have hxw19:=hx19;refine wC (wAs (v:=.slice q19 ((l.take 32767).length) c19) (eS hz16) ?_);refine wEk hz16 hd16 fun a20 ha20 hz20 hd20=>?_;have g20_0:=kP ha20 g16_0;have g20_1:=kP ha20 g16_1;have g20_2:=kP ha20 g16_2;have g20_3:=kP ha20 g16_3;have g20_4:=kP ha20 g16_4;have g20_7:=kP ha20 g16_7;have g20_8:=kP ha20 g16_8;have g20_9:=kP ha20 g16_9;have g20_10:get a20 10 = .slice q19 ((l.take 32767).length) c19:=kG ha20 hz16;refine hK18 a20 w9 ?_;refine wp_seq_k fun K21 hK21=>?_;have hJ22:∀ (a':Act) (w':World),(∃ (q:Option Addr) (c:Nat),a'.tmps.size=76∧a'.defers=[]∧get a' 0 = .agg ([.int .i64 fd.kind,.int .i64 fd.fr,.int .i64 fd.to,.int .i64 fd.nul,.int .i64 fd.tag,.int .i64 fd.df,.int .i64 fd.of,fsv]:List Value).toArray∧get a' 1 = .int .i64 ver∧get a' 2 = .bool flex∧get a' 3 = .agg ([.int .i64 n,sv,.bool nl,lv,uv]:List Value).toArray∧get a' 4 = .pointer (some ⟨w.heap.size,0,none⟩)∧get a' 7 = .pointer (some ⟨w2.heap.size,0,none⟩)∧get a' 8 = .slice none 0 0∧get a' 9 = .bool nu∧get a' 10 = .slice q tl.length c∧Things w' B (.slice q tl.length c) tl∧w'.rangeAt w.heap.size 0 [.int .i64 fd.kind,.int .i64 fd.fr,.int .i64 fd.to,.int .i64 fd.nul,.int .i64 fd.tag,.int .i64 fd.df,.int .i64 fd.of,fsv]∧Fr [] w w'∧w4.heap.size≤w'.heap.size)→K21 a' w':=by
      rintro a22 w22 ⟨q,c,hz22,hd22,g22_0,g22_1,g22_2,g22_3,g22_4,g22_7,g22_8,g22_9,g22_10,htj,hbj,hfj,hszj⟩;have hfS:w4.heap.size≤w22.heap.size:=by have:=hszj;omega
      refine hK21 a22 w22 ?_;refine wp_seq_k fun K23 hK23=>?_;have htlb:tl.length < 4294967296:=by rw[htl];unfold thingsW;split <;> simp;omega
      have hW:fieldV fd.kind fd.nul fd.of (sub ver flex) ver flex (.mk n s nl l u)=countedW flex nu tl.length 4++tl.flatMap (valueW fd.of (sub ver flex) false flex):=by rw[fieldV,if_pos h11,← hnu,← htl]
      rw[hW] at hlen;rw[List.length_append] at hlen;refine wp_reg ?_;refine wC (wMv (v:=.bool flex) (eK g22_2) ?_);refine wC (wMv (v:=.bool nu) (eK g22_9) ?_);refine wC (wMv (v:=.slice q tl.length c) (eK g22_10) ?_);refine wC (wp_lenS (n:=tl.length) hsT23 (eS hz22) ?_);refine wC (wCr (R:=fun x wz=>Fr [] w22 wz∧Own wz (From w22.heap.size wz) 1 x (countedW flex nu tl.length 4).length (octets (countedW flex nu tl.length 4))) (vs:=#[.bool flex,.bool nu,.int .i64 ((tl.length:Nat):Int),.int .i64 4]) hCo.enters (by simp only[List.map_toArray,List.map_cons,List.map_nil];rw[eTm,nZ (by decide),nZ (by decide),nZ (by decide),sZ hz22 (by decide),eTm,nZ (by decide),nZ (by decide),sZ (zZ hz22) (by decide),eTm,sZ (zZ (zZ (zZ hz22))) (by decide),show ((((a22.put (some 24) (.bool flex)).put (some 25) (.bool nu)).put (some 26) (.slice q tl.length c)).put (some 27) (.int .i64 ((tl.length:Nat):Int))).eval (.const (.int .i64 4))=Value.int .i64 4 from rfl]) (calls_fresh (hCo.call w22 flex nu tl.length 4 htlb (by decide))) ?_);rintro x24 w24 ⟨fr24,ow24⟩;have hF25:Fr [] w w24:=hfj.tr fr24;have hL25_w22:Fr [] w22 w24:=(Fr.refl [] w22).tr fr24;have rb26:=fr24.range hbj .nil;refine wC (wAs (v:=x24) (eS hz22) ?_);refine wEk hz22 hd22 fun a27 ha27 hz27 hd27=>?_;have g27_0:=kP ha27 g22_0;have g27_1:=kP ha27 g22_1;have g27_2:=kP ha27 g22_2;have g27_3:=kP ha27 g22_3;have g27_4:=kP ha27 g22_4;have g27_7:=kP ha27 g22_7;have g27_8:=kP ha27 g22_8;have g27_9:=kP ha27 g22_9;have g27_10:=kP ha27 g22_10;have g27_11:get a27 11=x24:=kG ha27 hz22;refine hK23 a27 w24 ?_;refine wp_seq_k fun K28 hK28=>?_;refine wS fun K29 hK29=>?_;refine wC (wMv (v:=.slice q tl.length c) (eK g27_10) ?_);refine wC (wp_lenS (n:=tl.length) hsT23 (eS hz27) ?_);refine wC (wMv (v:=.int .i64 0) rfl ?_);refine wEk hz27 hd27 fun a30 ha30 hz30 hd30=>?_;have g30_0:=kP ha30 g27_0;have g30_1:=kP ha30 g27_1;have g30_2:=kP ha30 g27_2;have g30_3:=kP ha30 g27_3;have g30_4:=kP ha30 g27_4;have g30_7:=kP ha30 g27_7;have g30_8:=kP ha30 g27_8;have g30_9:=kP ha30 g27_9;have g30_10:=kP ha30 g27_10;have g30_11:=kP ha30 g27_11;have g30_30:get a30 30 = .int .i64 ((tl.length:Nat):Int):=kG ha30 hz27;have g30_31:get a30 31 = .int .i64 0:=kG ha30 hz27;refine hK29 a30 w24 ?_;refine wp_block (wp_loop_ghost (fun (m:Nat) a' w'=>∃ (j:Nat) (v11:Value),a'.tmps.size=76∧a'.defers=[]∧get a' 0 = .agg ([.int .i64 fd.kind,.int .i64 fd.fr,.int .i64 fd.to,.int .i64 fd.nul,.int .i64 fd.tag,.int .i64 fd.df,.int .i64 fd.of,fsv]:List Value).toArray∧get a' 1 = .int .i64 ver∧get a' 2 = .bool flex∧get a' 3 = .agg ([.int .i64 n,sv,.bool nl,lv,uv]:List Value).toArray∧get a' 4 = .pointer (some ⟨w.heap.size,0,none⟩)∧get a' 7 = .pointer (some ⟨w2.heap.size,0,none⟩)∧get a' 8 = .slice none 0 0∧get a' 9 = .bool nu∧get a' 10 = .slice q tl.length c∧get a' 11=v11∧get a' 30 = .int .i64 ((tl.length:Nat):Int)∧get a' 31 = .int .i64 (j:Int)∧j+m=tl.length∧Own w' (From w4.heap.size w') 1 v11 (countedW flex nu tl.length 4++(tl.take j).flatMap (valueW fd.of (sub ver flex) false flex)).length (octets (countedW flex nu tl.length 4++(tl.take j).flatMap (valueW fd.of (sub ver flex) false flex)))∧w'.rangeAt w.heap.size 0 [.int .i64 fd.kind,.int .i64 fd.fr,.int .i64 fd.to,.int .i64 fd.nul,.int .i64 fd.tag,.int .i64 fd.df,.int .i64 fd.of,fsv]∧Things w' B (.slice q tl.length c) tl∧Fr [] w w'∧w4.heap.size≤w'.heap.size) tl.length ?_ ?_)
      · exact ⟨0,x24,hz30,hd30,g30_0,g30_1,g30_2,g30_3,g30_4,g30_7,g30_8,g30_9,g30_10,g30_11,g30_30,g30_31,by omega,by simpa using ow24.from hfS,rb26,htj.kept hL25_w22 (by simp) (fun _ h=>h),hF25,Nat.le_trans hfS hL25_w22.size⟩
      rintro m a31 w31 ⟨j,v11,hz31,hd31,g31_0,g31_1,g31_2,g31_3,g31_4,g31_7,g31_8,g31_9,g31_10,g31_11,g31_30,g31_31,hjm,ho,hbl4,htj2,hfl,hSl⟩;refine wS fun K32 hK32=>?_;refine wC (wp_lss (k1:=.i64) (i:=(j:Int)) (j:=((tl.length:Nat):Int)) (eK g31_31) (eK g31_30) ?_);refine wEk hz31 hd31 fun a33 ha33 hz33 hd33=>?_;have g33_0:=kP ha33 g31_0;have g33_1:=kP ha33 g31_1;have g33_2:=kP ha33 g31_2;have g33_3:=kP ha33 g31_3;have g33_4:=kP ha33 g31_4;have g33_7:=kP ha33 g31_7;have g33_8:=kP ha33 g31_8;have g33_9:=kP ha33 g31_9;have g33_10:=kP ha33 g31_10;have g33_11:=kP ha33 g31_11;have g33_30:=kP ha33 g31_30;have g33_31:=kP ha33 g31_31;have g33_32:get a33 32 = .bool (decide (((j:Int):Int) < (((tl.length:Nat):Int):Int))):=kG ha33 hz31;refine hK32 a33 w31 ?_;refine wp_seq_k fun K34 hK34=>?_;refine wp_cond_split (t:=decide (((j:Int):Int) < (((tl.length:Nat):Int):Int))) (eK g33_32) (fun hc35=>?_) (fun hc35=>?_)
      · have hjl : j < tl.length := by simpa using hc35
        obtain ⟨te',hte⟩:∃ t,tl[j]?=some t:=⟨tl[j],by simp[hjl]⟩;obtain ⟨q',c',hqc,-,-,hk⟩:=htj2.sl2;obtain ⟨bl,ol,cl,hq,hbl,hrl,hrt⟩:=hk j te' hte
        cases hqc
        rw[hq] at g33_10;have hel:=flatMap_part (f:=valueW fd.of (sub ver flex) false flex) hte;have htk:=take_flatMap (f:=valueW fd.of (sub ver flex) false flex) hte;have hpl:=take_flatMap_le (f:=valueW fd.of (sub ver flex) false flex) (l:=tl) (j+1);refine wp_skip ?_;refine hK34 a33 w31 ?_;refine wp_seq_k fun K36 hK36=>?_;refine wp_blockT ?_;refine wS fun K37 hK37=>?_;refine wC (wMv (v:=.int .i64 (j:Int)) (eK g33_31) ?_);refine wC (wAs (v:=.int .i64 (j:Int)) (eS hz33) ?_);refine wEk hz33 hd33 fun a38 ha38 hz38 hd38=>?_;have g38_0:=kP ha38 g33_0;have g38_1:=kP ha38 g33_1;have g38_2:=kP ha38 g33_2;have g38_3:=kP ha38 g33_3;have g38_4:=kP ha38 g33_4;have g38_7:=kP ha38 g33_7;have g38_8:=kP ha38 g33_8;have g38_9:=kP ha38 g33_9;have g38_10:=kP ha38 g33_10;have g38_11:=kP ha38 g33_11;have g38_12:get a38 12 = .int .i64 (j:Int):=kG ha38 hz33;have g38_30:=kP ha38 g33_30;have g38_31:=kP ha38 g33_31;refine hK37 a38 w31 ?_;refine wp_drawR (os:=[oM 34 11 t29 p29 e29,oF 35 T45 4 6 t30 p30 e30,oL 36 T3 35 t31 p31 e31,oF 37 T45 4 7 t32 p32 e32,oL 38 T29 37 t33 p33 e33,oM 39 1 t34 p34 e34,oM 40 2 t35 p35 e35,oM 41 10 t36 p36 e36,oM 42 12 t37 p37 e37,⟨some 43,.indexAddr T23 (.tmp 41) (.tmp 42),t38,p38,e38,none⟩,oL 44 T26 43 t39 p39 e39,oC 45 f75 #[(.tmp 36),(.tmp 38),(.const (.bool false)),(.tmp 39),(.tmp 40),(.tmp 44)] a3 t40 p40 e40]) (rest:=[⟨some 46,.call ⟨.builtin .append,#[(.tmp 34),(.tmp 45)],#[T22,T22]⟩,t41,p41,e41,none⟩,oT 11 46 t42 p42 e42]) [spC [] (v11),spC [] (.pointer (some ⟨w.heap.size,6,none⟩)),spC [1] (.int .i64 fd.of),spC [] (.pointer (some ⟨w.heap.size,7,none⟩)),spC [3] (fsv),spC [] (.int .i64 ver),spC [] (.bool flex),spC [] (.slice (some ⟨bl,ol,none⟩) tl.length c),spC [] (.int .i64 (j:Int)),spC [7,8] (.pointer (some ⟨bl,ol+j * 5,none⟩)),spC [9] (.agg (cl).toArray),spR [2,4,5,6,10] (fun x w'=>Own w' (From w31.heap.size w') 1 x (valueW fd.of (sub ver flex) false flex te').length (octets (valueW fd.of (sub ver flex) false flex te')))] 34 [] hmx he10 (by simp[shape]) (by simp[plainO]) (by simp[spC,spR]) (by simp;omega) ⟨lCc _ _ _,lCc _ _ _,lCc _ _ _,lCc _ _ _,lCc _ _ _,lCc _ _ _,lCc _ _ _,lCc _ _ _,lCc _ _ _,lCc _ _ _,lCc _ _ _,(fun v w1 w2 f h=>h.upTo f (From.mono f.size)),trivial⟩ ?_ ?_
        · refine oCs ?_ ?_
          · refine op_c fun a' w' hk' hf' hd' K' hK'=>?_;refine wMv (v:=v11) (by rw[eTm,hk'.get 11 (by omega),g38_11]) ?_;exact hK'
          refine oCs ?_ ?_
          · refine op_c fun a' w' hk' hf' hd' K' hK'=>?_;refine wFa (b:=w.heap.size) (i:=0) (hFlT45.fld (by decide)) (by rw[eTm,hk'.get 4 (by omega),g38_4]) ?_;rw[show (0+6:Nat)=6 from rfl];exact hK'
          refine oCs ?_ ?_
          · refine op_c fun a' w' hk' hf' hd' K' hK'=>?_;refine wL0 (j:=6) (v:=.int .i64 fd.of) hcT3 (by rw[eTm];exact hd'.c (nd':=[]) 1 (by simp) rfl) (hf'.range hbl4 .nil) rfl ?_;exact hK'
          refine oCs ?_ ?_
          · refine op_c fun a' w' hk' hf' hd' K' hK'=>?_;refine wFa (b:=w.heap.size) (i:=0) (hFlT45.fld (by decide)) (by rw[eTm,hk'.get 4 (by omega),g38_4]) ?_;rw[show (0+7:Nat)=7 from rfl];exact hK'
          refine oCs ?_ ?_
          · refine op_c fun a' w' hk' hf' hd' K' hK'=>?_;refine wL0 (j:=7) (v:=fsv) hcT29 (by rw[eTm];exact hd'.c (nd':=[]) 3 (by simp) rfl) (hf'.range hbl4 .nil) rfl ?_;exact hK'
          refine oCs ?_ ?_
          · refine op_c fun a' w' hk' hf' hd' K' hK'=>?_;refine wMv (v:=.int .i64 ver) (by rw[eTm,hk'.get 1 (by omega),g38_1]) ?_;exact hK'
          refine oCs ?_ ?_
          · refine op_c fun a' w' hk' hf' hd' K' hK'=>?_;refine wMv (v:=.bool flex) (by rw[eTm,hk'.get 2 (by omega),g38_2]) ?_;exact hK'
          refine oCs ?_ ?_
          · refine op_c fun a' w' hk' hf' hd' K' hK'=>?_;refine wMv (v:=.slice (some ⟨bl,ol,none⟩) tl.length c) (by rw[eTm,hk'.get 10 (by omega),g38_10]) ?_;exact hK'
          refine oCs ?_ ?_
          · refine op_c fun a' w' hk' hf' hd' K' hK'=>?_;refine wMv (v:=.int .i64 (j:Int)) (by rw[eTm,hk'.get 12 (by omega),g38_12]) ?_;exact hK'
          refine oCs ?_ ?_
          · refine op_c fun a' w' hk' hf' hd' K' hK'=>?_;refine wp_ixN (b:=bl) (o:=ol) (i:=j) hs_T23 (by rw[eTm];exact hd'.c (nd':=[]) 7 (by simp) rfl) (by rw[eTm];exact hd'.c (nd':=[]) 8 (by simp) rfl) hjl ?_;exact hK'
          refine oCs ?_ ?_
          · refine op_c fun a' w' hk' hf' hd' K' hK'=>?_;refine wp_loadFlat (cs:=cl) (b:=bl) (o:=ol+j * 5) hFlT26 hrt.length (by rw[eTm];exact hd'.c (nd':=[7,8]) 9 (by simp) rfl) (hf'.range hrl .nil) ?_;exact hK'
          refine oCs ?_ ?_
          · refine op_r fun a' w' hk' hf' hd' K' hK'=>?_;refine wCr (R:=fun x wz=>Fr [] w' wz∧Own wz (From w'.heap.size wz) 1 x (valueW fd.of (sub ver flex) false flex te').length (octets (valueW fd.of (sub ver flex) false flex te'))) (vs:=#[.int .i64 fd.of,fsv,.bool false,.int .i64 ver,.bool flex,.agg (cl).toArray]) hVa.enters (by simp only[List.map_toArray,List.map_cons,List.map_nil];rw[show a'.eval (.tmp 36)=Value.int .i64 fd.of from (by rw[eTm];exact hd'.c (nd':=[1]) 2 (by simp) rfl),show a'.eval (.tmp 38)=fsv from (by rw[eTm];exact hd'.c (nd':=[3]) 4 (by simp) rfl),show a'.eval (.const (.bool false))=Value.bool false from rfl,show a'.eval (.tmp 39)=Value.int .i64 ver from (by rw[eTm];exact hd'.c (nd':=[]) 5 (by simp) rfl),show a'.eval (.tmp 40)=Value.bool flex from (by rw[eTm];exact hd'.c (nd':=[]) 6 (by simp) rfl),show a'.eval (.tmp 44)=Value.agg (cl).toArray from (by rw[eTm];exact hd'.c (nd':=[9]) 10 (by simp) rfl)]) (calls_fresh (hVa.call w' A B fsv ver flex false fd.of cl te' (hsub.kept (hfl.tr hf') (by simp) (fun _ h=>h)) (hrt.kept hf' (by simp) (fun _ h=>h)) (fun b hb=>Nat.lt_of_lt_of_le (hA b hb) (hfl.tr hf').size) (fun b hb=>Nat.lt_of_lt_of_le (hB b hb) (hfl.tr hf').size) (by omega))) ?_;rintro x39 w39 ⟨fr39,ow39⟩;exact hK' x39 w39 (ow39.from hf'.size) fr39
          exact opsOk_nil
        intro a40 w40 k40 f40 hd_40;have g40_0:get a40 0 = .agg ([.int .i64 fd.kind,.int .i64 fd.fr,.int .i64 fd.to,.int .i64 fd.nul,.int .i64 fd.tag,.int .i64 fd.df,.int .i64 fd.of,fsv]:List Value).toArray:=by rw[k40.get 0 (by omega),g38_0]
        have g40_1:get a40 1 = .int .i64 ver:=by rw[k40.get 1 (by omega),g38_1]
        have g40_2:get a40 2 = .bool flex:=by rw[k40.get 2 (by omega),g38_2]
        have g40_3:get a40 3 = .agg ([.int .i64 n,sv,.bool nl,lv,uv]:List Value).toArray:=by rw[k40.get 3 (by omega),g38_3]
        have g40_4:get a40 4 = .pointer (some ⟨w.heap.size,0,none⟩):=by rw[k40.get 4 (by omega),g38_4]
        have g40_7:get a40 7 = .pointer (some ⟨w2.heap.size,0,none⟩):=by rw[k40.get 7 (by omega),g38_7]
        have g40_8:get a40 8 = .slice none 0 0:=by rw[k40.get 8 (by omega),g38_8]
        have g40_9:get a40 9 = .bool nu:=by rw[k40.get 9 (by omega),g38_9]
        have g40_10:get a40 10 = .slice (some ⟨bl,ol,none⟩) tl.length c:=by rw[k40.get 10 (by omega),g38_10]
        have g40_30:get a40 30 = .int .i64 ((tl.length:Nat):Int):=by rw[k40.get 30 (by omega),g38_30]
        have g40_31:get a40 31 = .int .i64 (j:Int):=by rw[k40.get 31 (by omega),g38_31]
        have hz40:a40.tmps.size=76:=k40.size.trans hz38;have hd40:a40.defers=[]:=k40.defers.trans hd38;have g40_34:get a40 34=v11:=hd_40.c (nd':=[]) 0 (by simp) rfl;have hF41:Fr [] w w40:=hfl.tr f40;have hL41_w31:Fr [] w31 w40:=(Fr.refl [] w31).tr f40;have rb42:=f40.range hbl4 .nil;have hv:Own w40 (From w31.heap.size w40) 1 (get a40 45) (valueW fd.of (sub ver flex) false flex te').length (octets (valueW fd.of (sub ver flex) false flex te')):=hd_40.at (d:=11) (by simp) rfl;rw[wCo];have ob43:=ho.upTo hL41_w31 (From.mono hL41_w31.size);have hSl43:w4.heap.size≤w40.heap.size:=Nat.le_trans hSl hL41_w31.size;refine wp_appO hs_T22 hz_T22 (eK g40_34) rfl ob43 (hv.octE (by omega)) (by rw[htk,List.length_append] at hpl;rw[List.length_append];omega) ?_;rintro v43 w43 fa43 oa43 sp43 bk43;have ho43:=oa43.imp_A (new_or hSl43 fa43.size);have hF43:Fr [] w w43:=fr_own hF41 fa43 (ob43.from (s0:=w.heap.size) (by omega)) (fun b hb=>hb.1);have rb44:=fa43.range rb42 (fun r hr=>.inl fun e=>by have:=(ob43.spare_in r hr).1;have:=hS0;omega);have htN:=(htj2.kept hL41_w31 (by simp) (fun _ h=>h):Things _ B _ _).kept fa43 (A':=B) (fun r hr hb=>by have:=hB _ hb;have:=(ob43.spare_in r hr).1;omega) (fun _ h=>h);have hSN:=Nat.le_trans hSl43 fa43.size;refine wC (wAs (v:=v43) (eS hz40) ?_);refine wEk hz40 hd40 fun a45 ha45 hz45 hd45=>?_;have g45_0:=kP ha45 g40_0;have g45_1:=kP ha45 g40_1;have g45_2:=kP ha45 g40_2;have g45_3:=kP ha45 g40_3;have g45_4:=kP ha45 g40_4;have g45_7:=kP ha45 g40_7;have g45_8:=kP ha45 g40_8;have g45_9:=kP ha45 g40_9;have g45_10:=kP ha45 g40_10;have g45_11:get a45 11=v43:=kG ha45 hz40;have g45_30:=kP ha45 g40_30;have g45_31:=kP ha45 g40_31;refine hK36 a45 w43 ?_;refine wp_reg ?_;refine wC (wp_add (k1:=.i64) (i:=(j:Int)) (j:=1) (eK g45_31) rfl ?_);rw[show (IntKind.i64.wrap (((j:Int):Int)+(1:Int)):Int)=(((j+1:Nat):Int):Int) from by simp only[IntKind.wrap,IntKind.bits,IntKind.signed];simp;omega];refine wC (wMv (v:=.int .i64 ((j+1:Nat):Int)) (eS hz45) ?_);refine wEk hz45 hd45 fun a46 ha46 hz46 hd46=>?_;have g46_0:=kP ha46 g45_0;have g46_1:=kP ha46 g45_1;have g46_2:=kP ha46 g45_2;have g46_3:=kP ha46 g45_3;have g46_4:=kP ha46 g45_4;have g46_7:=kP ha46 g45_7;have g46_8:=kP ha46 g45_8;have g46_9:=kP ha46 g45_9;have g46_10:=kP ha46 g45_10;have g46_11:=kP ha46 g45_11;have g46_30:=kP ha46 g45_30;have g46_31:get a46 31 = .int .i64 ((j+1:Nat):Int):=kG ha46 hz45;rw[← hq] at g46_10;refine ⟨m - 1,by omega,j+1,_,hz46,hd46,g46_0,g46_1,g46_2,g46_3,g46_4,g46_7,g46_8,g46_9,g46_10,g46_11,g46_30,g46_31,by omega,?_,rb44,htN.kept (Fr.refl [] w43) (by simp) (fun _ h=>h),hF43,Nat.le_trans hSN (Fr.refl [] w43).size⟩;rw[htk,← List.append_assoc];exact ho43.upTo (Fr.refl [] w43) (From.mono (Fr.refl [] w43).size)
      have hj0:j=tl.length:=by simp at hc35;omega
      rw[hj0,List.take_length] at ho;refine wp_exit ?_;show K28 a33 w31
      refine hK28 a33 w31 ?_;refine wS fun K47 hK47=>?_;refine wC (wMv (v:=v11) (eK g33_11) ?_);refine wC (wAs (v:=v11) (eS hz33) ?_);refine wEk hz33 hd33 fun a48 ha48 hz48 hd48=>?_;have g48_8:get a48 8=v11:=kG ha48 hz33;refine hK47 a48 w31 ?_;refine wp_ret ?_;rw[hW];exact ⟨hd48,_,rIs hres g48_8,_,rfl,hfl,ho.from (by omega)⟩
    refine wS fun K49 hK49=>?_;refine wC (wMv (v:=.bool nu) (eK g20_9) ?_);refine wEk hz20 hd20 fun a50 ha50 hz50 hd50=>?_;have g50_0:=kP ha50 g20_0;have g50_1:=kP ha50 g20_1;have g50_2:=kP ha50 g20_2;have g50_3:=kP ha50 g20_3;have g50_4:=kP ha50 g20_4;have g50_7:=kP ha50 g20_7;have g50_8:=kP ha50 g20_8;have g50_9:=kP ha50 g20_9;have g50_10:=kP ha50 g20_10;have g50_23:get a50 23 = .bool nu:=kG ha50 hz20;refine hK49 a50 w9 ?_;refine wp_cond_split (t:=nu) (eK g50_23) (fun hc51=>?_) (fun hc51=>?_)
    · have hnt : nu = true := hc51;have htl0 : tl = [] := by rw [htl, hnt]; rfl
      refine wp_reg ?_;refine wC (wAs (v:=.slice none 0 0) rfl ?_);refine wEk hz50 hd50 fun a52 ha52 hz52 hd52=>?_;have g52_0:=kP ha52 g50_0;have g52_1:=kP ha52 g50_1;have g52_2:=kP ha52 g50_2;have g52_3:=kP ha52 g50_3;have g52_4:=kP ha52 g50_4;have g52_7:=kP ha52 g50_7;have g52_8:=kP ha52 g50_8;have g52_9:=kP ha52 g50_9;have g52_10:get a52 10 = .slice none 0 0:=kG ha52 hz50;have hq10:=g52_10;rw[show (.slice none 0 0:Value) = .slice none tl.length 0 from by rw[htl0];rfl] at hq10;exact hJ22 a52 w9 ⟨none,0,hz52,hd52,g52_0,g52_1,g52_2,g52_3,g52_4,g52_7,g52_8,g52_9,hq10,by rw[htl0];exact .inl ⟨.inl rfl,rfl⟩,rb11,hF10,hL10_w4.size⟩
    have hnf:nu=false:=hc51;have htl0:tl=l.take 32767:=by rw[htl,hnf];rfl
    refine wp_skip ?_;have hq10:=g50_10;rw[show (.slice q19 ((l.take 32767).length) c19:Value) = .slice q19 tl.length c19 from by rw[htl0]] at hq10;exact hJ22 a50 w9 ⟨q19,c19,hz50,hd50,g50_0,g50_1,g50_2,g50_3,g50_4,g50_7,g50_8,g50_9,hq10,by rw[htl0];exact hx19.kept (Fr.refl [] w9) (by simp) (fun _ h=>h),rb11,hF10,hL10_w4.size⟩
  have n11:fd.kind ≠ 11:=by simpa using hc17
  refine wp_skip ?_;refine hK14 a16 w9 (tUp ?_);refine tId (wp_seq_k fun K53 hK53=>?_);refine wp_seq_k fun K54 hK54=>?_
  by_cases h10:fd.kind=10;rotate_left
  · refine wp_regG ?_;refine gCn ?_;refine wFa (b := w.heap.size) (i := 0) (hFlT45.fld (by decide)) (eK g16_4) ?_;rw [show (0 + 0 : Nat) = 0 from rfl];refine gCn ?_;refine wL0 (j := 0) (v := .int .i64 fd.kind) hcT3 (eS hz16) rb11 rfl ?_;refine gCn ?_;refine wp_eqlF (k1 := .i64) (i := fd.kind) (j := 10) h10 (eS hz16) rfl ?_;refine gCn ?_;refine wMv (v := .bool false) (eS hz16) ?_;refine wg_noT (dj := 52) rfl (lZ hz16) (gS hz16) ?_;refine wg_noT (dj := 52) rfl (lZ hz16) (gS hz16) ?_;refine wg_noT (dj := 52) rfl (lZ hz16) (gS hz16) ?_;refine gCn ?_;refine wp_pickNo (v := .bool false) (eS hz16) rfl ?_;refine wg_end fun a55 ha55 => ?_;have hz55 := kS ha55 hz16;have hd55 := kD ha55 hd16;have g55_1 := kP ha55 g16_1;have g55_2 := kP ha55 g16_2;have g55_4 := kP ha55 g16_4;have g55_7 := kP ha55 g16_7;have g55_9 := kP ha55 g16_9;have g55_56 : get a55 56 = .bool false := kG ha55 hz16;refine hK54 a55 w9 ?_;refine wp_cond_split (t := false) (eK g55_56) (fun h => by cases h) (fun _ => ?_);refine wp_skip ?_;refine hK53 a55 w9 (tUp ?_);refine tId (wp_seq_k fun K57 hK57 => ?_);have hW : fieldV fd.kind fd.nul fd.of (sub ver flex) ver flex (.mk n s nl l u) = valueW fd.kind (sub ver flex) nu flex (.mk n s nl l u) := by rw [fieldV, if_neg n11, if_neg (fun h => h10 h.1), ← hnu]
    rw[hW] at hlen;refine wp_reg ?_;refine wC (wFa (b:=w.heap.size) (i:=0) (hFlT45.fld (by decide)) (eK g55_4) ?_);rw[show (0+0:Nat)=0 from rfl];refine wC (wL0 (j:=0) (v:=.int .i64 fd.kind) hcT3 (eS hz55) rb11 rfl ?_);refine wC (wFa (b:=w.heap.size) (i:=0) (hFlT45.fld (by decide)) (eK g55_4) ?_);rw[show (0+7:Nat)=7 from rfl];refine wC (wL0 (j:=7) (v:=fsv) hcT29 (eS hz55) rb11 rfl ?_);refine wC (wMv (v:=.bool nu) (eK g55_9) ?_);refine wC (wMv (v:=.int .i64 ver) (eK g55_1) ?_);refine wC (wMv (v:=.bool flex) (eK g55_2) ?_);refine wC (wp_loadFlat (cs:=[.int .i64 n,sv,.bool nl,lv,uv]) (b:=w2.heap.size) (o:=0) hFlT26 rfl (eK g55_7) rb12 ?_);refine wC (wCr (R:=fun x wz=>Fr [] w9 wz∧Own wz (From w9.heap.size wz) 1 x (valueW fd.kind (sub ver flex) nu flex (.mk n s nl l u)).length (octets (valueW fd.kind (sub ver flex) nu flex (.mk n s nl l u)))) (vs:=#[.int .i64 fd.kind,fsv,.bool nu,.int .i64 ver,.bool flex,.agg ([.int .i64 n,sv,.bool nl,lv,uv]:List Value).toArray]) hVa.enters (by simp only[List.map_toArray,List.map_cons,List.map_nil];rw[eTm,nZ (by decide),nZ (by decide),nZ (by decide),nZ (by decide),nZ (by decide),nZ (by decide),sZ (zZ hz55) (by decide),eTm,nZ (by decide),nZ (by decide),nZ (by decide),nZ (by decide),sZ (zZ (zZ (zZ hz55))) (by decide),eTm,nZ (by decide),nZ (by decide),nZ (by decide),sZ (zZ (zZ (zZ (zZ hz55)))) (by decide),eTm,nZ (by decide),nZ (by decide),sZ (zZ (zZ (zZ (zZ (zZ hz55))))) (by decide),eTm,nZ (by decide),sZ (zZ (zZ (zZ (zZ (zZ (zZ hz55)))))) (by decide),eTm,sZ (zZ (zZ (zZ (zZ (zZ (zZ (zZ hz55))))))) (by decide)]) (calls_fresh (hVa.call w9 A B fsv ver flex nu fd.kind _ (.mk n s nl l u) (hsub.kept hF10 (by simp) (fun _ h=>h)) (ht0.kept hF10 (by simp) (fun _ h=>h)) (fun b hb=>Nat.lt_of_lt_of_le (hA b hb) hF10.size) (fun b hb=>Nat.lt_of_lt_of_le (hB b hb) hF10.size) hlen)) ?_);rintro x58 w58 ⟨fr58,ow58⟩;have hF59:Fr [] w w58:=hF10.tr fr58;have rb60:=fr58.range rb11 .nil;have rb61:=fr58.range rb12 .nil;refine wC (wAs (v:=x58) (eS hz55) ?_);refine wEk hz55 hd55 fun a62 ha62 hz62 hd62=>?_;have g62_8:get a62 8=x58:=kG ha62 hz55;refine hK57 a62 w58 (tUp ?_);refine wp_ret ?_;rw[hW];exact ⟨hd62,_,rIs hres g62_8,_,rfl,hF59,ow58.from (by have:=hF10.size;omega)⟩
  by_cases hnn:fd.nul≥0
  · refine wp_regG ?_;refine gCn ?_;refine wFa (b := w.heap.size) (i := 0) (hFlT45.fld (by decide)) (eK g16_4) ?_;rw [show (0 + 0 : Nat) = 0 from rfl];refine gCn ?_;refine wL0 (j := 0) (v := .int .i64 fd.kind) hcT3 (eS hz16) rb11 rfl ?_;refine gCn ?_;refine wp_eqlT (k1 := .i64) (i := fd.kind) (j := 10) h10 (eS hz16) rfl ?_;refine gCn ?_;refine wMv (v := .bool true) (eS hz16) ?_;refine wg_yes (dj := 52) rfl (lZ hz16) (gS hz16) ?_;refine wFa (b := w.heap.size) (i := 0) (hFlT45.fld (by decide)) (eK g16_4) ?_;rw [show (0 + 3 : Nat) = 3 from rfl];refine wg_yes (dj := 52) rfl (lZ hz16) (gS hz16) ?_;refine wL0 (j := 3) (v := .int .i64 fd.nul) hcT3 (eS hz16) rb11 rfl ?_;refine wg_yes (dj := 52) rfl (lZ hz16) (gS hz16) ?_;refine wp_geqT (k1 := .i64) (i := fd.nul) (j := 0) hnn (eS hz16) rfl ?_;refine gCn ?_;refine wp_pickYes (v := .bool true) (eS hz16) (eS hz16) ?_;refine wg_end fun a63 ha63 => ?_;have hz63 := kS ha63 hz16;have hd63 := kD ha63 hd16;have g63_1 := kP ha63 g16_1;have g63_2 := kP ha63 g16_2;have g63_4 := kP ha63 g16_4;have g63_7 := kP ha63 g16_7;have g63_9 := kP ha63 g16_9;have g63_56 : get a63 56 = .bool true := kG ha63 hz16;refine hK54 a63 w9 ?_;refine wp_cond_split (t := true) (eK g63_56) (fun _ => ?_) (fun h => by cases h);refine wp_seq_k fun K65 hK65 => ?_;refine wS fun K66 hK66 => ?_;refine wC (wMv (v := .bool nu) (eK g63_9) ?_);refine wEk hz63 hd63 fun a67 ha67 hz67 hd67 => ?_;have g67_1 := kP ha67 g63_1;have g67_2 := kP ha67 g63_2;have g67_4 := kP ha67 g63_4;have g67_7 := kP ha67 g63_7;have g67_57 : get a67 57 = .bool nu := kG ha67 hz63;refine hK66 a67 w9 ?_;refine wp_cond_split (t := nu) (eK g67_57) (fun hc68 => ?_) (fun hc68 => ?_)
    · have hnt : nu = true := hc68;refine wp_seq_k fun K69 hK69 => ?_;have hW : fieldV fd.kind fd.nul fd.of (sub ver flex) ver flex (.mk n s nl l u) = fxW (-1) 1 := by rw [fieldV, if_neg n11, if_pos ⟨h10, hnn⟩, ← hnu, hnt]; rfl
      refine wp_reg ?_;refine wC (wCr (R:=fun x wz=>Fr [] w9 wz∧Own wz (From w9.heap.size wz) 1 x (fxW (-1) 1).length (octets (fxW (-1) 1))) (vs:=#[.int .i64 (-1),.int .i64 1]) hFx.enters (by simp[eCo]) (calls_fresh (hFx.call w9 (-1) 1 (by decide))) ?_);rintro x70 w70 ⟨fr70,ow70⟩;have hF71:Fr [] w w70:=hF10.tr fr70;have rb72:=fr70.range rb11 .nil;have rb73:=fr70.range rb12 .nil;refine wC (wAs (v:=x70) (eS hz67) ?_);refine wEk hz67 hd67 fun a74 ha74 hz74 hd74=>?_;have g74_8:get a74 8=x70:=kG ha74 hz67;refine hK69 a74 w70 ?_;refine wp_ret ?_;rw[hW];exact ⟨hd74,_,rIs hres g74_8,_,rfl,hF71,ow70.from (by have:=hF10.size;omega)⟩
    have hnf:nu=false:=hc68;refine wp_skip ?_;refine hK65 a67 w9 ?_;refine wp_seq_k fun K75 hK75=>?_;have hW:fieldV fd.kind fd.nul fd.of (sub ver flex) ver flex (.mk n s nl l u)=fxW 1 1++sub ver flex (.mk n s nl l u):=by rw[fieldV,if_neg n11,if_pos ⟨h10,hnn⟩,← hnu,hnf];rfl
    rw[hW,List.length_append] at hlen;have hle0:=hF10.size;refine wp_drawR (os:=[oC 59 f76 #[(.const (.int .i64 1)),(.const (.int .i64 1))] a5 t58 p58 e58,oF 60 T45 4 7 t59 p59 e59,oL 61 T29 60 t60 p60 e60,oM 62 1 t61 p61 e61,oM 63 2 t62 p62 e62,oL 64 T26 7 t63 p63 e63,oC 65 f26 #[(.tmp 61),(.tmp 62),(.tmp 63),(.tmp 64)] a6 t64 p64 e64]) (rest:=[⟨some 66,.call ⟨.builtin .append,#[(.tmp 59),(.tmp 65)],#[T22,T22]⟩,t65,p65,e65,none⟩,oT 8 66 t66 p66 e66]) [spR [] (fun x w'=>Own w' (From w9.heap.size w') 1 x (fxW 1 1).length (octets (fxW 1 1))),spC [] (.pointer (some ⟨w.heap.size,7,none⟩)),spC [1] (fsv),spC [] (.int .i64 ver),spC [] (.bool flex),spC [] (.agg ([.int .i64 n,sv,.bool nl,lv,uv]:List Value).toArray),spR [2,3,4,5] (fun x w'=>Own w' (From w9.heap.size w') 1 x (sub ver flex (.mk n s nl l u)).length (octets (sub ver flex (.mk n s nl l u))))] 59 [] hmx he16 (by simp[shape]) (by simp[plainO]) (by simp[spC,spR]) (by simp;omega) ⟨(fun v w1 w2 f h=>h.upTo f (From.mono f.size)),lCc _ _ _,lCc _ _ _,lCc _ _ _,lCc _ _ _,lCc _ _ _,(fun v w1 w2 f h=>h.upTo f (From.mono f.size)),trivial⟩ ?_ ?_
    · refine oCs ?_ ?_
      · refine op_r fun a' w' hk' hf' hd' K' hK'=>?_;refine wCr (R:=fun x wz=>Fr [] w' wz∧Own wz (From w'.heap.size wz) 1 x (fxW 1 1).length (octets (fxW 1 1))) (vs:=#[.int .i64 1,.int .i64 1]) hFx.enters (by simp[eCo]) (calls_fresh (hFx.call w' 1 1 (by decide))) ?_;rintro x76 w76 ⟨fr76,ow76⟩;exact hK' x76 w76 (ow76.from hf'.size) fr76
      refine oCs ?_ ?_
      · refine op_c fun a' w' hk' hf' hd' K' hK'=>?_;refine wFa (b:=w.heap.size) (i:=0) (hFlT45.fld (by decide)) (by rw[eTm,hk'.get 4 (by omega),g67_4]) ?_;rw[show (0+7:Nat)=7 from rfl];exact hK'
      refine oCs ?_ ?_
      · refine op_c fun a' w' hk' hf' hd' K' hK'=>?_;refine wL0 (j:=7) (v:=fsv) hcT29 (by rw[eTm];exact hd'.c (nd':=[]) 1 (by simp) rfl) (hf'.range rb11 .nil) rfl ?_;exact hK'
      refine oCs ?_ ?_
      · refine op_c fun a' w' hk' hf' hd' K' hK'=>?_;refine wMv (v:=.int .i64 ver) (by rw[eTm,hk'.get 1 (by omega),g67_1]) ?_;exact hK'
      refine oCs ?_ ?_
      · refine op_c fun a' w' hk' hf' hd' K' hK'=>?_;refine wMv (v:=.bool flex) (by rw[eTm,hk'.get 2 (by omega),g67_2]) ?_;exact hK'
      refine oCs ?_ ?_
      · refine op_c fun a' w' hk' hf' hd' K' hK'=>?_;refine wp_loadFlat (cs:=[.int .i64 n,sv,.bool nl,lv,uv]) (b:=w2.heap.size) (o:=0) hFlT26 rfl (by rw[eTm,hk'.get 7 (by omega),g67_7]) (hf'.range rb12 .nil) ?_;exact hK'
      refine oCs ?_ ?_
      · refine op_r fun a' w' hk' hf' hd' K' hK'=>?_;refine wCr (R:=fun x wz=>Fr [] w' wz∧Own wz (From w'.heap.size wz) 1 x (sub ver flex (.mk n s nl l u)).length (octets (sub ver flex (.mk n s nl l u)))) (vs:=#[fsv,.int .i64 ver,.bool flex,.agg ([.int .i64 n,sv,.bool nl,lv,uv]:List Value).toArray]) hPa.enters (by simp only[List.map_toArray,List.map_cons,List.map_nil];rw[show a'.eval (.tmp 61)=fsv from (by rw[eTm];exact hd'.c (nd':=[1]) 2 (by simp) rfl),show a'.eval (.tmp 62)=Value.int .i64 ver from (by rw[eTm];exact hd'.c (nd':=[]) 3 (by simp) rfl),show a'.eval (.tmp 63)=Value.bool flex from (by rw[eTm];exact hd'.c (nd':=[]) 4 (by simp) rfl),show a'.eval (.tmp 64)=Value.agg ([.int .i64 n,sv,.bool nl,lv,uv]:List Value).toArray from (by rw[eTm];exact hd'.c (nd':=[]) 5 (by simp) rfl)]) (calls_fresh (hPa.call w' A B fsv ver flex _ (.mk n s nl l u) (hsub.kept (hF10.tr hf') (by simp) (fun _ h=>h)) (ht0.kept (hF10.tr hf') (by simp) (fun _ h=>h)) (fun b hb=>Nat.lt_of_lt_of_le (hA b hb) (hF10.tr hf').size) (fun b hb=>Nat.lt_of_lt_of_le (hB b hb) (hF10.tr hf').size) (by omega))) ?_;rintro x77 w77 ⟨fr77,ow77⟩;exact hK' x77 w77 (ow77.from hf'.size) fr77
      exact opsOk_nil
    intro a78 w78 k78 f78 hd_78;have hz78:a78.tmps.size=76:=k78.size.trans hz67;have hd78:a78.defers=[]:=k78.defers.trans hd67;have hF79:Fr [] w w78:=hF10.tr f78;have hL79_w9:Fr [] w9 w78:=(Fr.refl [] w9).tr f78;have rb80:=f78.range rb11 .nil;have rb81:=f78.range rb12 .nil;have hv0:Own w78 (From w9.heap.size w78) 1 (get a78 59) (fxW 1 1).length (octets (fxW 1 1)):=hd_78.at (d:=0) (by simp) rfl;have hv6:Own w78 (From w9.heap.size w78) 1 (get a78 65) (sub ver flex (.mk n s nl l u)).length (octets (sub ver flex (.mk n s nl l u))):=hd_78.at (d:=6) (by simp) rfl;rw[wCo];have ob82:=hv0;have hSl82:w9.heap.size≤w78.heap.size:=hL79_w9.size;refine wp_appO hs_T22 hz_T22 rfl rfl ob82 (hv6.octE (by omega)) (by omega) ?_;rintro v82 w82 fa82 oa82 sp82 bk82;have ho82:=oa82.imp_A (new_or hSl82 fa82.size);have hF82:Fr [] w w82:=fr_own hF79 fa82 (ob82.from (s0:=w.heap.size) (by omega)) (fun b hb=>hb.1);refine wC (wAs (v:=v82) (eS hz78) ?_);refine wEk hz78 hd78 fun a83 ha83 hz83 hd83=>?_;have g83_8:get a83 8=v82:=kG ha83 hz78;refine hK75 a83 w82 ?_;refine wp_ret ?_;rw[hW];exact ⟨hd83,_,rIs hres g83_8,_,rfl,hF82,ho82.from (by omega)⟩
  refine wp_regG ?_;refine gCn ?_;refine wFa (b:=w.heap.size) (i:=0) (hFlT45.fld (by decide)) (eK g16_4) ?_;rw[show (0+0:Nat)=0 from rfl];refine gCn ?_;refine wL0 (j:=0) (v:=.int .i64 fd.kind) hcT3 (eS hz16) rb11 rfl ?_;refine gCn ?_;refine wp_eqlT (k1:=.i64) (i:=fd.kind) (j:=10) h10 (eS hz16) rfl ?_;refine gCn ?_;refine wMv (v:=.bool true) (eS hz16) ?_;refine wg_yes (dj:=52) rfl (lZ hz16) (gS hz16) ?_;refine wFa (b:=w.heap.size) (i:=0) (hFlT45.fld (by decide)) (eK g16_4) ?_;rw[show (0+3:Nat)=3 from rfl];refine wg_yes (dj:=52) rfl (lZ hz16) (gS hz16) ?_;refine wL0 (j:=3) (v:=.int .i64 fd.nul) hcT3 (eS hz16) rb11 rfl ?_;refine wg_yes (dj:=52) rfl (lZ hz16) (gS hz16) ?_;refine wp_geqF (k1:=.i64) (i:=fd.nul) (j:=0) hnn (eS hz16) rfl ?_;refine gCn ?_;refine wp_pickYes (v:=.bool false) (eS hz16) (eS hz16) ?_;refine wg_end fun a84 ha84=>?_;have hz84:=kS ha84 hz16;have hd84:=kD ha84 hd16;have g84_1:=kP ha84 g16_1;have g84_2:=kP ha84 g16_2;have g84_4:=kP ha84 g16_4;have g84_7:=kP ha84 g16_7;have g84_9:=kP ha84 g16_9;have g84_56:get a84 56 = .bool false:=kG ha84 hz16;refine hK54 a84 w9 ?_;refine wp_cond_split (t:=false) (eK g84_56) (fun h=>by cases h) (fun _=>?_);refine wp_skip ?_;refine hK53 a84 w9 (tUp ?_);refine tId (wp_seq_k fun K86 hK86=>?_);have hW:fieldV fd.kind fd.nul fd.of (sub ver flex) ver flex (.mk n s nl l u)=valueW fd.kind (sub ver flex) nu flex (.mk n s nl l u):=by rw[fieldV,if_neg n11,if_neg (fun h=>hnn h.2),← hnu]
  rw[hW] at hlen;refine wp_reg ?_;refine wC (wFa (b:=w.heap.size) (i:=0) (hFlT45.fld (by decide)) (eK g84_4) ?_);rw[show (0+0:Nat)=0 from rfl];refine wC (wL0 (j:=0) (v:=.int .i64 fd.kind) hcT3 (eS hz84) rb11 rfl ?_);refine wC (wFa (b:=w.heap.size) (i:=0) (hFlT45.fld (by decide)) (eK g84_4) ?_);rw[show (0+7:Nat)=7 from rfl];refine wC (wL0 (j:=7) (v:=fsv) hcT29 (eS hz84) rb11 rfl ?_);refine wC (wMv (v:=.bool nu) (eK g84_9) ?_);refine wC (wMv (v:=.int .i64 ver) (eK g84_1) ?_);refine wC (wMv (v:=.bool flex) (eK g84_2) ?_);refine wC (wp_loadFlat (cs:=[.int .i64 n,sv,.bool nl,lv,uv]) (b:=w2.heap.size) (o:=0) hFlT26 rfl (eK g84_7) rb12 ?_);refine wC (wCr (R:=fun x wz=>Fr [] w9 wz∧Own wz (From w9.heap.size wz) 1 x (valueW fd.kind (sub ver flex) nu flex (.mk n s nl l u)).length (octets (valueW fd.kind (sub ver flex) nu flex (.mk n s nl l u)))) (vs:=#[.int .i64 fd.kind,fsv,.bool nu,.int .i64 ver,.bool flex,.agg ([.int .i64 n,sv,.bool nl,lv,uv]:List Value).toArray]) hVa.enters (by simp only[List.map_toArray,List.map_cons,List.map_nil];rw[eTm,nZ (by decide),nZ (by decide),nZ (by decide),nZ (by decide),nZ (by decide),nZ (by decide),sZ (zZ hz84) (by decide),eTm,nZ (by decide),nZ (by decide),nZ (by decide),nZ (by decide),sZ (zZ (zZ (zZ hz84))) (by decide),eTm,nZ (by decide),nZ (by decide),nZ (by decide),sZ (zZ (zZ (zZ (zZ hz84)))) (by decide),eTm,nZ (by decide),nZ (by decide),sZ (zZ (zZ (zZ (zZ (zZ hz84))))) (by decide),eTm,nZ (by decide),sZ (zZ (zZ (zZ (zZ (zZ (zZ hz84)))))) (by decide),eTm,sZ (zZ (zZ (zZ (zZ (zZ (zZ (zZ hz84))))))) (by decide)]) (calls_fresh (hVa.call w9 A B fsv ver flex nu fd.kind _ (.mk n s nl l u) (hsub.kept hF10 (by simp) (fun _ h=>h)) (ht0.kept hF10 (by simp) (fun _ h=>h)) (fun b hb=>Nat.lt_of_lt_of_le (hA b hb) hF10.size) (fun b hb=>Nat.lt_of_lt_of_le (hB b hb) hF10.size) hlen)) ?_);rintro x87 w87 ⟨fr87,ow87⟩;have hF88:Fr [] w w87:=hF10.tr fr87;have rb89:=fr87.range rb11 .nil;have rb90:=fr87.range rb12 .nil;refine wC (wAs (v:=x87) (eS hz84) ?_);refine wEk hz84 hd84 fun a91 ha91 hz91 hd91=>?_;have g91_8:get a91 8=x87:=kG ha91 hz84;refine hK86 a91 w87 (tUp ?_);refine wp_ret ?_;rw[hW];exact ⟨hd91,_,rIs hres g91_8,_,rfl,hF88,ow87.from (by have:=hF10.size;omega)⟩
end Go.Kq

namespace Go.Kq
open Go Go.Proofs
theorem wrap_u64n {n:Nat} (h:n < 18446744073709551616):IntKind.u64.wrap (n:Int)=n:=by
  simp only[IntKind.wrap,IntKind.bits,IntKind.signed];simp;omega
theorem knownW_free:∀ {fs:List Fd},(∀ f ∈ fs,f.tag < 0)→knownW fs=0
  | [],_=>rfl
  | f :: fs, h => by
    have:=h f (by simp);rw[knownW,if_neg (by omega)];exact knownW_free fun g hg=>h g (by simp[hg])
theorem partW_free {fs:List Fd} (h:knownW fs=0) (ver:Int) (flex:Bool) (t:T):partW fs ver flex t=if flex then bodyW fs ver (fieldsW fs ver flex t.l 0) fs.length++(uvW (unksW fs t).length++(unksW fs t).flatMap pairW) else bodyW fs ver (fieldsW fs ver flex t.l 0) fs.length:=by
  have hk:knownsW fs t (fieldsW fs ver flex t.l 0)=[]:=by simp[knownsW,h]
  unfold partW joinW;rw[hk];simp
theorem bodyW_succ {fs:List Fd} {ver:Int} {encs:List (List UInt8)} {j:Nat} {fd:Fd} (h:fs[j]?=some fd) (ht:fd.tag < 0):bodyW fs ver encs (j+1)=bodyW fs ver encs j++if fd.has ver then encs.getD j [] else []:=by
  unfold bodyW;rw[List.range_succ,List.flatMap_append];simp[h,ht]
theorem bodyW_le {fs:List Fd} {ver:Int} {encs:List (List UInt8)}:∀ {m n:Nat},n≤m→(bodyW fs ver encs n).length≤(bodyW fs ver encs m).length
  | 0, n, h => by have : n = 0 := by omega
                  subst this;exact Nat.le_refl _
  | m + 1, n, h => by
    by_cases hn:n=m+1
    · subst hn;exact Nat.le_refl _
    refine Nat.le_trans (bodyW_le (m:=m) (by omega)) ?_;unfold bodyW;rw[List.range_succ,List.flatMap_append,List.length_append];omega
theorem take_pair {fs:List Fd} {t:T} {j:Nat} {p:Nat × List UInt8} (h:(unksW fs t)[j]?=some p):((unksW fs t).take (j+1)).flatMap pairW=((unksW fs t).take j).flatMap pairW++pairW p:=by
  rw[List.take_add_one,h,List.flatMap_append];simp
theorem take_pair_le {fs:List Fd} {t:T} (j:Nat):(((unksW fs t).take j).flatMap pairW).length≤((unksW fs t).flatMap pairW).length:=by
  conv=>rhs;rw[← List.take_append_drop j (unksW fs t),List.flatMap_append,List.length_append]
  omega
set_option maxHeartbeats 8000000 in
theorem part_m {P:Program} {f:FuncId} {fn:Func} {T3 T4 T22 T24 T26 T29 T45 T58 T60 T73:TypeId} {f47 f48 f49 f50 f51 f52 f53 f54:FuncId} {a0:Array TypeId} {a1:Array TypeId} {a2:Array TypeId} {a3:Array TypeId} {a4:Array TypeId} {a5:Array TypeId} {a6:Array TypeId} {a7:Array TypeId} {a8:Array TypeId} {a9:Array TypeId} {a10:Array TypeId} {a11:Array TypeId} {a12:Array TypeId} {a13:Array TypeId} {a14:Array TypeId} {i0 i1 i2 i3 i4 i5 i6 i7 i8 i9 i10 i11 i12 i13 i14 i15 i16 i17 i18 i19 i20 i21 i22 i23 i24 i25 i26 i27 i28 i29 i30:Nat} {t0 t1 t2 t3 t4 t5 t6 t7 t8 t9 t10 t11 t12 t13 t14 t15 t16 t17 t18 t19 t20 t21 t22 t23 t24 t25 t26 t27 t28 t29 t30 t31 t32 t33 t34 t35 t36 t37 t38 t39 t40 t41 t42 t43 t44 t45 t46 t47 t48 t49 t50 t51 t52 t53 t54 t55 t56 t57 t58 t59 t60 t61 t62 t63 t64 t65 t66 t67 t68 t69 t70 t71 t72 t73 t74 t75 t76 t77 t78 t79 t80 t81 t82 t83 t84 t85 t86 t87 t88 t89 t90 t91 t92 t93 t94 t95 t96 t97 t98 t99 t100 t101 t102 t103 t104 t105 t106 t107 t108 t109 t110 t111 t112 t113 t114 t115 t116 t117 t118 t119 t120 t121 t122 t123 t124 t125 t126 t127 t128 t129 t130 t131 t132 t133 t134 t135 t136 t137:TypeId} {p0 p1 p2 p3 p4 p5 p6 p7 p8 p9 p10 p11 p12 p13 p14 p15 p16 p17 p18 p19 p20 p21 p22 p23 p24 p25 p26 p27 p28 p29 p30 p31 p32 p33 p34 p35 p36 p37 p38 p39 p40 p41 p42 p43 p44 p45 p46 p47 p48 p49 p50 p51 p52 p53 p54 p55 p56 p57 p58 p59 p60 p61 p62 p63 p64 p65 p66 p67 p68 p69 p70 p71 p72 p73 p74 p75 p76 p77 p78 p79 p80 p81 p82 p83 p84 p85 p86 p87 p88 p89 p90 p91 p92 p93 p94 p95 p96 p97 p98 p99 p100 p101 p102 p103 p104 p105 p106 p107 p108 p109 p110 p111 p112 p113 p114 p115 p116 p117 p118 p119 p120 p121 p122 p123 p124 p125 p126 p127 p128 p129 p130 p131 p132 p133 p134 p135 p136 p137:String} {e0 e1 e2 e3 e4 e5 e6 e7 e8 e9 e10 e11 e12 e13 e14 e15 e16 e17 e18 e19 e20 e21 e22 e23 e24 e25 e26 e27 e28 e29 e30 e31 e32 e33 e34 e35 e36 e37 e38 e39 e40 e41 e42 e43 e44 e45 e46 e47 e48 e49 e50 e51 e52 e53 e54 e55 e56 e57 e58 e59 e60 e61 e62 e63 e64 e65 e66 e67 e68 e69 e70 e71 e72 e73 e74 e75 e76 e77 e78 e79 e80 e81 e82 e83 e84 e85 e86 e87 e88 e89 e90 e91 e92 e93 e94 e95 e96 e97 e98 e99 e100 e101 e102 e103 e104 e105 e106 e107 e108 e109 e110 e111 e112 e113 e114 e115 e116 e117 e118 e119 e120 e121 e122 e123 e124 e125 e126 e127 e128 e129 e130 e131 e132 e133 e134 e135 e136 e137:Array Edge} {te te8 teT:TypeId} {tb:Nat} {fs:List Fd}
    (hf:P.funcs[f]?=some fn) (hname:(fn.name == "runtime.NumGoroutine")=false) (hres:fn.results = #[.tmp 8]) (hN:fn.ntmps=132)
    (hbody:fn.body=some (.seq (Code.region i0 ⟨[⟨some 7,.box T26 (.tmp 3),t0,p0,e0,none⟩,
    oA 8 (.const (.slice none 0 0)) t1 p1 e1]⟩ false) (.seq (Code.region i1 ⟨[oA 9 (.const (.slice none 0 0)) t2 p2 e2,
    oA 10 (.const (.slice none 0 0)) t3 p3 e3]⟩ false) (.seq (Code.region i2 ⟨[oA 11 (.const (.int .i64 0)) t4 p4 e4]⟩ false) (.seq (.seq (Code.region i3 ⟨[oM 21 0 t5 p5 e5,⟨some 22,.call ⟨.builtin .len,#[(.tmp 21)],#[T29]⟩,t6,p6,e6,none⟩,⟨some 23,.move (.const (.int .i64 0)),t7,p7,e7,none⟩]⟩ false) (.block 0 (.loop (.seq (Code.region i4 ⟨[⟨some 24,.binOp .lss T3 (.tmp 23) (.tmp 22) T3,t8,p8,e8,none⟩]⟩ false) (.seq (.cond (.tmp 24) .skip
  (.exit 0)) (.seq (.block 1 (.seq (Code.region i5 ⟨[oM 25 23 t9 p9 e9,⟨some 26,.indexAddr T29 (.tmp 21) (.tmp 23),t10,p10,e10,none⟩,
    oL 27 T45 26 t11 p11 e11,⟨some 13,.alloc T45,t12,p12,e12,none⟩,
    oT 12 25 t13 p13 e13,
    oS T45 13 27 t14 p14 e14]⟩ false) (.seq (Code.region i6 ⟨[oF 28 T45 13 4 t15 p15 e15,
    oL 29 T3 28 t16 p16 e16,⟨some 30,.binOp .lss T3 (.tmp 29) (.const (.int .i64 0)) T3,t17,p17,e17,none⟩,
    oM 31 30 t18 p18 e18,⟨some 32,.load T45 (.tmp 13),t19,p19,e19,some (3,true)⟩,⟨some 33,.move (.tmp 1),t20,p20,e20,some (3,true)⟩,⟨some 34,.call ⟨.value (.func f47),#[(.tmp 32),(.tmp 33)],a0⟩,t21,p21,e21,some (3,true)⟩,⟨some 35,.pick (.tmp 31) (.tmp 34) (.const (.bool false)),t22,p22,e22,none⟩]⟩ false) (.cond (.tmp 35) (Code.region i7 ⟨[oM 36 9 t23 p23 e23,
    oL 37 T45 13 t24 p24 e24,
    oM 38 1 t25 p25 e25,
    oM 39 2 t26 p26 e26,
    oL 40 T26 7 t27 p27 e27,
    oM 41 12 t28 p28 e28,
    oC 42 f49 #[(.tmp 40),(.tmp 41)] a1 t29 p29 e29,
    oC 43 f48 #[(.tmp 37),(.tmp 38),(.tmp 39),(.tmp 42)] a2 t30 p30 e30,⟨some 44,.call ⟨.builtin .append,#[(.tmp 36),(.tmp 43)],#[T22,T22]⟩,t31,p31,e31,none⟩,
    oT 9 44 t32 p32 e32]⟩ true) .skip))))
  (Code.region i8 ⟨[⟨some 45,.binOp .add T3 (.tmp 23) (.const (.int .i64 1)) T3,t33,p33,e33,none⟩,
    oM 23 45 t34 p34 e34]⟩ false))))))) (.seq (.seq (Code.region i9 ⟨[oM 46 2 t35 p35 e35,⟨some 47,.unOp .not T4 (.tmp 46),t36,p36,e36,none⟩]⟩ false) (.cond (.tmp 47) (.seq (Code.region i10 ⟨[oM 48 9 t37 p37 e37,
    oT 8 48 t38 p38 e38]⟩ false) .ret) .skip)) (.seq (.seq (Code.region i11 ⟨[oM 49 0 t39 p39 e39,
    oC 50 f50 #[(.tmp 49)] a3 t40 p40 e40,⟨some 51,.convert T58 T3 (.tmp 50),t41,p41,e41,none⟩,⟨some 52,.move (.const (.int .i64 0)),t42,p42,e42,none⟩]⟩ false) (.block 2 (.loop (.seq (Code.region i12 ⟨[⟨some 53,.binOp .lss T3 (.tmp 52) (.tmp 51) T3,t43,p43,e43,none⟩]⟩ false) (.seq (.cond (.tmp 53) .skip
  (.exit 2)) (.seq (.block 3 (.seq (Code.region i13 ⟨[oM 54 52 t44 p44 e44,
    oT 14 54 t45 p45 e45]⟩ false) (.seq (Code.region i14 ⟨[oM 55 0 t46 p46 e46,⟨some 56,.call ⟨.builtin .len,#[(.tmp 55)],#[T29]⟩,t47,p47,e47,none⟩,⟨some 57,.move (.const (.int .i64 0)),t48,p48,e48,none⟩]⟩ false) (.block 4 (.loop (.seq (Code.region i15 ⟨[⟨some 58,.binOp .lss T3 (.tmp 57) (.tmp 56) T3,t49,p49,e49,none⟩]⟩ false) (.seq (.cond (.tmp 58) .skip
  (.exit 4)) (.seq (.block 5 (.seq (Code.region i16 ⟨[oM 59 57 t50 p50 e50,⟨some 60,.indexAddr T29 (.tmp 55) (.tmp 57),t51,p51,e51,none⟩,
    oL 61 T45 60 t52 p52 e52,⟨some 16,.alloc T45,t53,p53,e53,none⟩,
    oT 15 59 t54 p54 e54,
    oS T45 16 61 t55 p55 e55]⟩ false) (.seq (Code.region i17 ⟨[oF 62 T45 16 4 t56 p56 e56,
    oL 63 T3 62 t57 p57 e57,
    oM 64 14 t58 p58 e58,⟨some 65,.binOp .eql T3 (.tmp 63) (.tmp 64) T3,t59,p59,e59,none⟩,
    oM 66 65 t60 p60 e60,⟨some 67,.load T45 (.tmp 16),t61,p61,e61,some (4,true)⟩,⟨some 68,.load T26 (.tmp 7),t62,p62,e62,some (4,true)⟩,⟨some 69,.move (.tmp 15),t63,p63,e63,some (4,true)⟩,⟨some 70,.call ⟨.value (.func f49),#[(.tmp 68),(.tmp 69)],a4⟩,t64,p64,e64,some (4,true)⟩,⟨some 71,.call ⟨.value (.func f51),#[(.tmp 67),(.tmp 70)],a5⟩,t65,p65,e65,some (4,true)⟩,⟨some 72,.unOp .not T4 (.tmp 71),t66,p66,e66,some (4,true)⟩,⟨some 73,.pick (.tmp 66) (.tmp 72) (.const (.bool false)),t67,p67,e67,none⟩]⟩ true) (.cond (.tmp 73) (.seq (Code.region i18 ⟨[oL 74 T45 16 t68 p68 e68,
    oM 75 1 t69 p69 e69,
    oM 76 2 t70 p70 e70,
    oL 77 T26 7 t71 p71 e71,
    oM 78 15 t72 p72 e72,
    oC 79 f49 #[(.tmp 77),(.tmp 78)] a6 t73 p73 e73,
    oC 80 f48 #[(.tmp 74),(.tmp 75),(.tmp 76),(.tmp 79)] a7 t74 p74 e74,
    oT 17 80 t75 p75 e75]⟩ true) (.seq (Code.region i19 ⟨[oM 81 10 t76 p76 e76,
    oM 82 14 t77 p77 e77,⟨some 83,.convert T3 T73 (.tmp 82),t78,p78,e78,none⟩,
    oC 84 f52 #[(.tmp 83)] a8 t79 p79 e79,⟨some 85,.call ⟨.builtin .append,#[(.tmp 81),(.tmp 84)],#[T22,T22]⟩,t80,p80,e80,none⟩,
    oM 86 17 t81 p81 e81,⟨some 87,.call ⟨.builtin .len,#[(.tmp 86)],#[T22]⟩,t82,p82,e82,none⟩,⟨some 88,.convert T3 T73 (.tmp 87),t83,p83,e83,none⟩,
    oC 89 f52 #[(.tmp 88)] a9 t84 p84 e84,⟨some 90,.call ⟨.builtin .append,#[(.tmp 85),(.tmp 89)],#[T22,T22]⟩,t85,p85,e85,none⟩,
    oM 91 17 t86 p86 e86,⟨some 92,.call ⟨.builtin .append,#[(.tmp 90),(.tmp 91)],#[T22,T22]⟩,t87,p87,e87,none⟩,
    oT 10 92 t88 p88 e88]⟩ false)
  (Code.region i20 ⟨[oM 93 11 t89 p89 e89,⟨some 94,.binOp .add T3 (.tmp 93) (.const (.int .i64 1)) T3,t90,p90,e90,none⟩,
    oT 11 94 t91 p91 e91]⟩ false))) .skip))))
  (Code.region i21 ⟨[⟨some 95,.binOp .add T3 (.tmp 57) (.const (.int .i64 1)) T3,t92,p92,e92,none⟩,
    oM 57 95 t93 p93 e93]⟩ false)))))))))
  (Code.region i22 ⟨[⟨some 96,.binOp .add T3 (.tmp 52) (.const (.int .i64 1)) T3,t94,p94,e94,none⟩,
    oM 52 96 t95 p95 e95]⟩ false))))))) (.seq (.seq (Code.region i23 ⟨[oM 97 0 t96 p96 e96,
    oF 98 T26 7 4 t97 p97 e97,
    oL 99 T24 98 t98 p98 e98,
    oC 100 f53 #[(.tmp 97),(.tmp 99)] a10 t99 p99 e99,⟨some 101,.call ⟨.builtin .len,#[(.tmp 100)],#[T24]⟩,t100,p100,e100,none⟩,⟨some 102,.move (.const (.int .i64 0)),t101,p101,e101,none⟩]⟩ false) (.block 6 (.loop (.seq (Code.region i24 ⟨[⟨some 103,.binOp .lss T3 (.tmp 102) (.tmp 101) T3,t102,p102,e102,none⟩]⟩ false) (.seq (.cond (.tmp 103) .skip
  (.exit 6)) (.seq (.block 7 (.seq (Code.region i25 ⟨[⟨some 104,.indexAddr T24 (.tmp 100) (.tmp 102),t103,p103,e103,none⟩,
    oL 105 T60 104 t104 p104 e104,⟨some 19,.alloc T60,t105,p105,e105,none⟩,
    oS T60 19 105 t106 p106 e106]⟩ false) (.seq (Code.region i26 ⟨[oF 106 T60 19 1 t107 p107 e107,
    oL 107 T22 106 t108 p108 e108,
    oC 108 f54 #[(.tmp 107)] a11 t109 p109 e109,
    oT 20 108 t110 p110 e110]⟩ false) (.seq (Code.region i27 ⟨[oM 109 10 t111 p111 e111,
    oF 110 T60 19 0 t112 p112 e112,
    oL 111 T58 110 t113 p113 e113,⟨some 112,.convert T58 T73 (.tmp 111),t114,p114,e114,none⟩,
    oC 113 f52 #[(.tmp 112)] a12 t115 p115 e115,⟨some 114,.call ⟨.builtin .append,#[(.tmp 109),(.tmp 113)],#[T22,T22]⟩,t116,p116,e116,none⟩,
    oM 115 20 t117 p117 e117,⟨some 116,.call ⟨.builtin .len,#[(.tmp 115)],#[T22]⟩,t118,p118,e118,none⟩,⟨some 117,.convert T3 T73 (.tmp 116),t119,p119,e119,none⟩,
    oC 118 f52 #[(.tmp 117)] a13 t120 p120 e120,⟨some 119,.call ⟨.builtin .append,#[(.tmp 114),(.tmp 118)],#[T22,T22]⟩,t121,p121,e121,none⟩,
    oM 120 20 t122 p122 e122,⟨some 121,.call ⟨.builtin .append,#[(.tmp 119),(.tmp 120)],#[T22,T22]⟩,t123,p123,e123,none⟩,
    oT 10 121 t124 p124 e124]⟩ false)
  (Code.region i28 ⟨[oM 122 11 t125 p125 e125,⟨some 123,.binOp .add T3 (.tmp 122) (.const (.int .i64 1)) T3,t126,p126,e126,none⟩,
    oT 11 123 t127 p127 e127]⟩ false)))))
  (Code.region i29 ⟨[⟨some 124,.binOp .add T3 (.tmp 102) (.const (.int .i64 1)) T3,t128,p128,e128,none⟩,
    oM 102 124 t129 p129 e129]⟩ false))))))) (.seq (Code.region i30 ⟨[oM 125 9 t130 p130 e130,
    oM 126 11 t131 p131 e131,⟨some 127,.convert T3 T73 (.tmp 126),t132,p132,e132,none⟩,
    oC 128 f52 #[(.tmp 127)] a14 t133 p133 e133,⟨some 129,.call ⟨.builtin .append,#[(.tmp 125),(.tmp 128)],#[T22,T22]⟩,t134,p134,e134,none⟩,
    oM 130 10 t135 p135 e135,⟨some 131,.call ⟨.builtin .append,#[(.tmp 129),(.tmp 130)],#[T22,T22]⟩,t136,p136,e136,none⟩,
    oT 8 131 t137 p137 e137]⟩ false) .ret)))))))))
    (hs_T22:sliceOf P T22 te 1 1=true) (hz_T22:zeroIs P te [.int .u8 0]) (hsT29:slTy P T29=true) (hs_T29:sliceOf P T29 te8 8 tb=true) (hFlT45:Flat P T45 zF) (hcT3:scal P T3=true) (hFlT26:Flat P T26 zT) (he7:edgeOk 0 [e23,e24,e25,e26,e27,e28,e29,e30,e31,e32] [[],[],[],[],[],[],[4,5],[1,2,3,6],[0,1,2,3,4,5,6,7],[0,1,2,3,4,5,6,7,8]]=true) (hmx:P.follows .mixedOrders=true) (hT58_u32:intOf P T58 .u32=true) (hT3_i64:intOf P T3 .i64=true) (hcT24:scal P T24=true) (hsT24:slTy P T24=true) (hs_T24:sliceOf P T24 teT 2 32=true) (hFlT60:Flat P T60 zTag) (hcT22:scal P T22=true) (hcT58:scal P T58=true) (hT73_u64:intOf P T73 .u64=true) (hsT22:slTy P T22=true) (hfree:∀ f ∈ fs,f.tag < 0) (hFi:∀ fd ∈ fs,FieldM P f48 fd (fieldW fd)) (hHa:HasM P f47) (hAt:AtM P f49) (hKn:KnownM P f50) (hUn:UnkM P f53) (hWh:WholeM P f54) (hUv:UvWM P f52):PartM P f fs (partW fs):=by
  refine ⟨enters_of hf hname hbody,?_⟩;intro w A B v ver flex ct t hfs ht hA hB hlen
  cases t with
  | mk n s nl l u =>
  have ht0:=ht;obtain ⟨sv,lv,uv,rfl,hn,hs,hl,hu⟩:=repT_iff.1 ht;obtain ⟨encs,hencs⟩:∃ x,x=fieldsW fs ver flex l 0:=⟨_,rfl⟩;obtain ⟨q,cap,hv,hbig,hk⟩:=hfs.slice;subst hv;have hkn0:knownW fs=0:=knownW_free hfree;have htg:∀ f ∈ fs,f.tag < 4294967295:=fun f hf=>by have:=hfree f hf;omega
  have hPW:partW fs ver flex (.mk n s nl l u)=if flex then bodyW fs ver encs fs.length++(uvW (unksW fs (.mk n s nl l u)).length++(unksW fs (.mk n s nl l u)).flatMap pairW) else bodyW fs ver encs fs.length:=by rw[hencs];exact partW_free hkn0 ver flex (.mk n s nl l u)
  rw[hPW] at hlen;have hb0:(bodyW fs ver encs fs.length).length≤4294967296:=by
    split at hlen
    · simp only[List.length_append] at hlen;omega
    exact hlen
  refine calls_of_wp hf hbody ?_;generalize ha0:({ tmps:=#[Value.slice q fs.length cap,Value.int .i64 ver,Value.bool flex,Value.agg ([.int .i64 n,sv,.bool nl,lv,uv]:List Value).toArray]++Array.replicate (fn.ntmps - (#[Value.slice q fs.length cap,Value.int .i64 ver,Value.bool flex,Value.agg ([.int .i64 n,sv,.bool nl,lv,uv]:List Value).toArray]:Array Value).size) undef,defers:=[] }:Act)=a0;have hz0:a0.tmps.size=132:=by subst ha0;simp[hN]
  have hd0:a0.defers=[]:=by subst ha0;rfl
  have g0_0:get a0 0 = .slice q fs.length cap:=by subst ha0;exact gAr rfl
  have g0_1:get a0 1 = .int .i64 ver:=by subst ha0;exact gAr rfl
  have g0_2:get a0 2 = .bool flex:=by subst ha0;exact gAr rfl
  have g0_3:get a0 3 = .agg ([.int .i64 n,sv,.bool nl,lv,uv]:List Value).toArray:=by subst ha0;exact gAr rfl
  refine wT fun K1 hK1=>?_;refine wC (wp_boxL (cs:=[.int .i64 n,sv,.bool nl,lv,uv]) (eK g0_3) ?_);rintro w2 f2 sz2 r2 th2;have hF3:Fr [] w w2:=f2;refine wC (wAs (v:=.slice none 0 0) rfl ?_);refine wEk hz0 hd0 fun a4 ha4 hz4 hd4=>?_;have g4_0:=kP ha4 g0_0;have g4_1:=kP ha4 g0_1;have g4_2:=kP ha4 g0_2;have g4_3:=kP ha4 g0_3;have g4_7:get a4 7 = .pointer (some ⟨w.heap.size,0,none⟩):=kG ha4 hz0;have g4_8:get a4 8 = .slice none 0 0:=kG ha4 hz0;refine hK1 a4 w2 (tUp ?_);refine tId (wp_seq_k fun K5 hK5=>?_);have hS0:w.heap.size+1≤w2.heap.size:=by omega
  refine wp_reg ?_;refine wC (wAs (v:=.slice none 0 0) rfl ?_);refine wC (wAs (v:=.slice none 0 0) rfl ?_);refine wEk hz4 hd4 fun a6 ha6 hz6 hd6=>?_;have g6_0:=kP ha6 g4_0;have g6_1:=kP ha6 g4_1;have g6_2:=kP ha6 g4_2;have g6_3:=kP ha6 g4_3;have g6_7:=kP ha6 g4_7;have g6_8:=kP ha6 g4_8;have g6_9:get a6 9 = .slice none 0 0:=kG ha6 hz4;have g6_10:get a6 10 = .slice none 0 0:=kG ha6 hz4;refine hK5 a6 w2 (tUp ?_);refine wT fun K7 hK7=>?_;refine wC (wAs (v:=.int .i64 0) rfl ?_);refine wEk hz6 hd6 fun a8 ha8 hz8 hd8=>?_;have g8_0:=kP ha8 g6_0;have g8_1:=kP ha8 g6_1;have g8_2:=kP ha8 g6_2;have g8_3:=kP ha8 g6_3;have g8_7:=kP ha8 g6_7;have g8_8:=kP ha8 g6_8;have g8_9:=kP ha8 g6_9;have g8_10:=kP ha8 g6_10;have g8_11:get a8 11 = .int .i64 0:=kG ha8 hz6;refine hK7 a8 w2 (tUp ?_);refine tId (wp_seq_k fun K9 hK9=>?_);refine wS fun K10 hK10=>?_;refine wC (wMv (v:=.slice q fs.length cap) (eK g8_0) ?_);refine wC (wp_lenS (n:=fs.length) hsT29 (eS hz8) ?_);refine wC (wMv (v:=.int .i64 0) rfl ?_);refine wEk hz8 hd8 fun a11 ha11 hz11 hd11=>?_;have g11_0:=kP ha11 g8_0;have g11_1:=kP ha11 g8_1;have g11_2:=kP ha11 g8_2;have g11_3:=kP ha11 g8_3;have g11_7:=kP ha11 g8_7;have g11_8:=kP ha11 g8_8;have g11_9:=kP ha11 g8_9;have g11_10:=kP ha11 g8_10;have g11_11:=kP ha11 g8_11;have g11_21:get a11 21 = .slice q fs.length cap:=kG ha11 hz8;have g11_22:get a11 22 = .int .i64 ((fs.length:Nat):Int):=kG ha11 hz8;have g11_23:get a11 23 = .int .i64 0:=kG ha11 hz8;refine hK10 a11 w2 ?_;refine wp_block (wp_loop_ghost (fun (m:Nat) a' w'=>∃ (j:Nat) (v9:Value),a'.tmps.size=132∧a'.defers=[]∧get a' 0 = .slice q fs.length cap∧get a' 1 = .int .i64 ver∧get a' 2 = .bool flex∧get a' 3 = .agg ([.int .i64 n,sv,.bool nl,lv,uv]:List Value).toArray∧get a' 7 = .pointer (some ⟨w.heap.size,0,none⟩)∧get a' 8 = .slice none 0 0∧get a' 9=v9∧get a' 10 = .slice none 0 0∧get a' 11 = .int .i64 0∧get a' 21 = .slice q fs.length cap∧get a' 22 = .int .i64 ((fs.length:Nat):Int)∧get a' 23 = .int .i64 (j:Int)∧j+m=fs.length∧Own w' (From w2.heap.size w') 1 v9 (bodyW fs ver encs j).length (octets (bodyW fs ver encs j))∧w'.rangeAt w.heap.size 0 [.int .i64 n,sv,.bool nl,lv,uv]∧Fr [] w w'∧w2.heap.size≤w'.heap.size) fs.length ?_ ?_)
  · exact ⟨0,.slice none 0 0,hz11,hd11,g11_0,g11_1,g11_2,g11_3,g11_7,g11_8,g11_9,g11_10,g11_11,g11_21,g11_22,g11_23,by omega,Own.nil,r2,hF3,(Fr.refl [] w2).size⟩
  rintro m a12 w12 ⟨j,v9,hz12,hd12,g12_0,g12_1,g12_2,g12_3,g12_7,g12_8,g12_9,g12_10,g12_11,g12_21,g12_22,g12_23,hjm,ho,hbl,hfl,hSl⟩;refine wS fun K13 hK13=>?_;refine wC (wp_lss (k1:=.i64) (i:=(j:Int)) (j:=((fs.length:Nat):Int)) (eK g12_23) (eK g12_22) ?_);refine wEk hz12 hd12 fun a14 ha14 hz14 hd14=>?_;have g14_0:=kP ha14 g12_0;have g14_1:=kP ha14 g12_1;have g14_2:=kP ha14 g12_2;have g14_3:=kP ha14 g12_3;have g14_7:=kP ha14 g12_7;have g14_8:=kP ha14 g12_8;have g14_9:=kP ha14 g12_9;have g14_10:=kP ha14 g12_10;have g14_11:=kP ha14 g12_11;have g14_21:=kP ha14 g12_21;have g14_22:=kP ha14 g12_22;have g14_23:=kP ha14 g12_23;have g14_24:get a14 24 = .bool (decide (((j:Int):Int) < (((fs.length:Nat):Int):Int))):=kG ha14 hz12;refine hK13 a14 w12 ?_;refine wp_seq_k fun K15 hK15=>?_;refine wp_cond_split (t:=decide (((j:Int):Int) < (((fs.length:Nat):Int):Int))) (eK g14_24) (fun hc16=>?_) (fun hc16=>?_)
  · have hjl : j < fs.length := by simpa using hc16
    obtain ⟨fd,hfd⟩:∃ fd,fs[j]?=some fd:=⟨fs[j],by simp[hjl]⟩;obtain ⟨bl,ol,cl,hq,hbl2,hrl,hrep⟩:=hk j fd hfd;obtain ⟨fsv,rfl,hsub⟩:=repF_iff.1 hrep;have hft:=hfree fd (List.mem_of_getElem? hfd);have hFm:=hFi fd (List.mem_of_getElem? hfd);have hbs:=bodyW_succ (ver:=ver) (encs:=encs) hfd hft;have hble:=bodyW_le (ver:=ver) (encs:=encs) (fs:=fs) (n:=j+1) (m:=fs.length) (by omega);have henc:encs.getD j []=fieldW fd ver flex (atT l j):=by rw[hencs,fieldsW_at fs ver flex l 0 j fd hfd,Nat.zero_add]
    rw[henc] at hbs;refine wp_skip ?_;refine hK15 a14 w12 ?_;refine wp_seq_k fun K17 hK17=>?_;refine wp_blockT ?_;refine wS fun K18 hK18=>?_;refine wC (wMv (v:=.int .i64 (j:Int)) (eK g14_23) ?_);refine wC (wp_ixN (b:=bl) (o:=ol) (i:=j) hs_T29 (by rw[eTm,nZ (by decide),g14_21,hq]) (eK g14_23) hjl ?_);refine wC (wp_loadFlat (cs:=[.int .i64 fd.kind,.int .i64 fd.fr,.int .i64 fd.to,.int .i64 fd.nul,.int .i64 fd.tag,.int .i64 fd.df,.int .i64 fd.of,fsv]) (b:=bl) (o:=ol+j * 8) hFlT45 rfl (eS hz14) (hfl.range hrl .nil) ?_);refine wC (wp_allocL hFlT45 ?_);rintro w19 f19 sz19 r19 th19;have hF20:Fr [] w w19:=hfl.tr f19;have hL20_w12:Fr [] w12 w19:=(Fr.refl [] w12).tr f19;have rb21:=f19.range hbl .nil;refine wC (wAs (v:=.int .i64 (j:Int)) (eS hz14) ?_);refine wC (wp_storeL (cs:=[.int .i64 fd.kind,.int .i64 fd.fr,.int .i64 fd.to,.int .i64 fd.nul,.int .i64 fd.tag,.int .i64 fd.df,.int .i64 fd.of,fsv]) (o:=0) hFlT45 rfl (eS hz14) (eS hz14) (by intro u hu;simp at hu;rcases hu with rfl | rfl | rfl | rfl | rfl | rfl | rfl | rfl <;> first | rfl | exact hsub.one) th19 ?_);rintro w22 f22 sz22 r22 th22;have hF22:Fr [] w w22:=hF20.trans f22 (fun r hr=>.inl (by simp at hr;subst hr;have:=hfl.size;simp only;omega));have rb23:=f22.range rb21 (.cons (.inl (by simp only;omega)) .nil);have hL22_w12:Fr [] w12 w22:=hL20_w12.trans f22 (fun r hr=>.inl (by simp at hr;subst hr;have:=(Fr.refl [] w12).size;simp only;omega));refine wEk hz14 hd14 fun a24 ha24 hz24 hd24=>?_;have g24_0:=kP ha24 g14_0;have g24_1:=kP ha24 g14_1;have g24_2:=kP ha24 g14_2;have g24_3:=kP ha24 g14_3;have g24_7:=kP ha24 g14_7;have g24_8:=kP ha24 g14_8;have g24_9:=kP ha24 g14_9;have g24_10:=kP ha24 g14_10;have g24_11:=kP ha24 g14_11;have g24_12:get a24 12 = .int .i64 (j:Int):=kG ha24 hz14;have g24_13:get a24 13 = .pointer (some ⟨w12.heap.size,0,none⟩):=kG ha24 hz14;have g24_21:=kP ha24 g14_21;have g24_22:=kP ha24 g14_22;have g24_23:=kP ha24 g14_23;refine hK18 a24 w22 ?_;refine wp_seq_k fun K25 hK25=>?_;refine wp_regG ?_;refine gCn ?_;refine wFa (b:=w12.heap.size) (i:=0) (hFlT45.fld (by decide)) (eK g24_13) ?_;rw[show (0+4:Nat)=4 from rfl];refine gCn ?_;refine wL0 (j:=4) (v:=.int .i64 fd.tag) hcT3 (eS hz24) r22 rfl ?_;refine gCn ?_;refine wp_lssT (k1:=.i64) (i:=fd.tag) (j:=0) hft (eS hz24) rfl ?_;refine gCn ?_;refine wMv (v:=.bool true) (eS hz24) ?_;refine wg_yes (dj:=31) rfl (lZ hz24) (gS hz24) ?_;refine wp_loadFlat (cs:=[.int .i64 fd.kind,.int .i64 fd.fr,.int .i64 fd.to,.int .i64 fd.nul,.int .i64 fd.tag,.int .i64 fd.df,.int .i64 fd.of,fsv]) (b:=w12.heap.size) (o:=0) hFlT45 rfl (eK g24_13) r22 ?_;refine wg_yes (dj:=31) rfl (lZ hz24) (gS hz24) ?_;refine wMv (v:=.int .i64 ver) (eK g24_1) ?_;refine wg_yes (dj:=31) rfl (lZ hz24) (gS hz24) ?_;refine wCr (R:=fun x wz=>x = .bool (fd.has ver)∧Fr [] w22 wz) (vs:=#[.agg ([.int .i64 fd.kind,.int .i64 fd.fr,.int .i64 fd.to,.int .i64 fd.nul,.int .i64 fd.tag,.int .i64 fd.df,.int .i64 fd.of,fsv]:List Value).toArray,.int .i64 ver]) hHa.enters (mX2 (eS hz24) (eS hz24)) ((hHa.call w22 A _ fd ver (hrep.kept hF22 (by simp) (fun _ h=>h))).mono (by rintro e w' ⟨rfl,hf⟩;exact ⟨_,rfl,rfl,hf⟩)) ?_;rintro x26 w26 ⟨rfl,fr26⟩;have hF27:Fr [] w w26:=hF22.tr fr26;have hL27_w12:Fr [] w12 w26:=hL22_w12.tr fr26;have rb28:=fr26.range rb23 .nil;have rb29:=fr26.range r22 .nil;refine gCn ?_;refine wp_pickYes (v:=.bool (fd.has ver)) (eS hz24) (eS hz24) ?_;refine wg_end fun a30 ha30=>?_;have hz30:=kS ha30 hz24;have hd30:=kD ha30 hd24;have g30_0:=kP ha30 g24_0;have g30_1:=kP ha30 g24_1;have g30_2:=kP ha30 g24_2;have g30_3:=kP ha30 g24_3;have g30_7:=kP ha30 g24_7;have g30_8:=kP ha30 g24_8;have g30_9:=kP ha30 g24_9;have g30_10:=kP ha30 g24_10;have g30_11:=kP ha30 g24_11;have g30_12:=kP ha30 g24_12;have g30_13:=kP ha30 g24_13;have g30_21:=kP ha30 g24_21;have g30_22:=kP ha30 g24_22;have g30_23:=kP ha30 g24_23;have g30_35:get a30 35 = .bool (fd.has ver):=kG ha30 hz24;refine hK25 a30 w26 ?_;refine wp_cond_split (t:=(fd.has ver)) (eK g30_35) (fun hc31=>?_) (fun hc31=>?_)
    · have hhas : fd.has ver = true := hc31;refine wp_drawR (os := [oM 36 9 t23 p23 e23, oL 37 T45 13 t24 p24 e24, oM 38 1 t25 p25 e25, oM 39 2 t26 p26 e26, oL 40 T26 7 t27 p27 e27, oM 41 12 t28 p28 e28, oC 42 f49 #[(.tmp 40), (.tmp 41)] a1 t29 p29 e29, oC 43 f48 #[(.tmp 37), (.tmp 38), (.tmp 39), (.tmp 42)] a2 t30 p30 e30]) (rest := [⟨some 44, .call ⟨.builtin .append, #[(.tmp 36), (.tmp 43)], #[T22, T22]⟩, t31, p31, e31, none⟩, oT 9 44 t32 p32 e32]) [spC [] (v9), spC [] (.agg ([.int .i64 fd.kind, .int .i64 fd.fr, .int .i64 fd.to, .int .i64 fd.nul, .int .i64 fd.tag, .int .i64 fd.df, .int .i64 fd.of, fsv] : List Value).toArray), spC [] (.int .i64 ver), spC [] (.bool flex), spC [] (.agg ([.int .i64 n, sv, .bool nl, lv, uv] : List Value).toArray), spC [] (.int .i64 (j : Int)), spR [4, 5] (fun x w' => ∃ cs : List Value, x = .agg cs.toArray ∧ RepT w' B cs (atT l j)), spR [1, 2, 3, 6] (fun x w' => Own w' (From w26.heap.size w') 1 x (fieldW fd ver flex (atT l j)).length (octets (fieldW fd ver flex (atT l j))))] 36 [] hmx he7 (by simp [shape]) (by simp [plainO]) (by simp [spC, spR]) (by simp; omega) ⟨lCc _ _ _, lCc _ _ _, lCc _ _ _, lCc _ _ _, lCc _ _ _, lCc _ _ _, (fun v w1 w2 f h => by obtain ⟨cs, h1, h2⟩ := h; exact ⟨cs, h1, h2.kept f (by simp) (fun _ h => h)⟩), (fun v w1 w2 f h => h.upTo f (From.mono f.size)), trivial⟩ ?_ ?_
      · refine oCs ?_ ?_
        · refine op_c fun a' w' hk' hf' hd' K' hK'=>?_;refine wMv (v:=v9) (by rw[eTm,hk'.get 9 (by omega),g30_9]) ?_;exact hK'
        refine oCs ?_ ?_
        · refine op_c fun a' w' hk' hf' hd' K' hK'=>?_;refine wp_loadFlat (cs:=[.int .i64 fd.kind,.int .i64 fd.fr,.int .i64 fd.to,.int .i64 fd.nul,.int .i64 fd.tag,.int .i64 fd.df,.int .i64 fd.of,fsv]) (b:=w12.heap.size) (o:=0) hFlT45 rfl (by rw[eTm,hk'.get 13 (by omega),g30_13]) (hf'.range rb29 .nil) ?_;exact hK'
        refine oCs ?_ ?_
        · refine op_c fun a' w' hk' hf' hd' K' hK'=>?_;refine wMv (v:=.int .i64 ver) (by rw[eTm,hk'.get 1 (by omega),g30_1]) ?_;exact hK'
        refine oCs ?_ ?_
        · refine op_c fun a' w' hk' hf' hd' K' hK'=>?_;refine wMv (v:=.bool flex) (by rw[eTm,hk'.get 2 (by omega),g30_2]) ?_;exact hK'
        refine oCs ?_ ?_
        · refine op_c fun a' w' hk' hf' hd' K' hK'=>?_;refine wp_loadFlat (cs:=[.int .i64 n,sv,.bool nl,lv,uv]) (b:=w.heap.size) (o:=0) hFlT26 rfl (by rw[eTm,hk'.get 7 (by omega),g30_7]) (hf'.range rb28 .nil) ?_;exact hK'
        refine oCs ?_ ?_
        · refine op_c fun a' w' hk' hf' hd' K' hK'=>?_;refine wMv (v:=.int .i64 (j:Int)) (by rw[eTm,hk'.get 12 (by omega),g30_12]) ?_;exact hK'
        refine oCs ?_ ?_
        · refine op_r fun a' w' hk' hf' hd' K' hK'=>?_;refine wCr (R:=fun x wz=>∃ cs:List Value,x = .agg cs.toArray∧Fr [] w' wz∧((∀ b,B b→b < w'.heap.size)→RepT wz B cs (atT l j))) (vs:=#[.agg ([.int .i64 n,sv,.bool nl,lv,uv]:List Value).toArray,.int .i64 (j:Int)]) hAt.enters (by simp only[List.map_toArray,List.map_cons,List.map_nil];rw[show a'.eval (.tmp 40)=Value.agg ([.int .i64 n,sv,.bool nl,lv,uv]:List Value).toArray from (by rw[eTm];exact hd'.c (nd':=[]) 4 (by simp) rfl),show a'.eval (.tmp 41)=Value.int .i64 (j:Int) from (by rw[eTm];exact hd'.c (nd':=[]) 5 (by simp) rfl)]) ((hAt.call w' B _ (.mk n s nl l u) j (ht0.kept (hF27.tr hf') (by simp) (fun _ h=>h))).mono (by rintro e wz ⟨cs,rfl,h1,h2⟩;exact ⟨_,rfl,cs,rfl,h1,h2⟩)) ?_;rintro _ w32 ⟨cs32,rfl,fr32,hr32⟩;exact hK' _ w32 ⟨cs32,rfl,hr32 (fun b hb=>Nat.lt_of_lt_of_le (hB b hb) (hF27.tr hf').size)⟩ fr32
        refine oCs ?_ ?_
        · refine op_r fun a' w' hk' hf' hd' K' hK'=>?_;obtain ⟨ct',hct,hrt'⟩:∃ cs:List Value,get a' 42 = .agg cs.toArray∧RepT w' B cs (atT l j):=hd'.at (d:=6) (by simp) rfl;refine wCr (R:=fun vz wz=>Fr [] w' wz∧Own wz (From w'.heap.size wz) 1 vz (fieldW fd ver flex (atT l j)).length (octets (fieldW fd ver flex (atT l j)))) (vs:=#[.agg ([.int .i64 fd.kind,.int .i64 fd.fr,.int .i64 fd.to,.int .i64 fd.nul,.int .i64 fd.tag,.int .i64 fd.df,.int .i64 fd.of,fsv]:List Value).toArray,.int .i64 ver,.bool flex,.agg ct'.toArray]) hFm.enters (by simp only[List.map_toArray,List.map_cons,List.map_nil];rw[show a'.eval (.tmp 37)=Value.agg ([.int .i64 fd.kind,.int .i64 fd.fr,.int .i64 fd.to,.int .i64 fd.nul,.int .i64 fd.tag,.int .i64 fd.df,.int .i64 fd.of,fsv]:List Value).toArray from (by rw[eTm];exact hd'.c (nd':=[]) 1 (by simp) rfl),show a'.eval (.tmp 38)=Value.int .i64 ver from (by rw[eTm];exact hd'.c (nd':=[]) 2 (by simp) rfl),show a'.eval (.tmp 39)=Value.bool flex from (by rw[eTm];exact hd'.c (nd':=[]) 3 (by simp) rfl),show a'.eval (.tmp 42)=Value.agg ct'.toArray from (by rw[eTm];exact hct)]) (calls_fresh (hFm.call w' A B ver flex _ ct' (atT l j) (hrep.kept (hF27.tr hf') (by simp) (fun _ h=>h)) hrt' (fun b hb=>Nat.lt_of_lt_of_le (hA b hb) (hF27.tr hf').size) (fun b hb=>Nat.lt_of_lt_of_le (hB b hb) (hF27.tr hf').size) (by rw[hbs,if_pos hhas,List.length_append] at hble;omega))) ?_;rintro x33 w33 ⟨fr33,ow33⟩;exact hK' x33 w33 (ow33.from hf'.size) fr33
        exact opsOk_nil
      intro a34 w34 k34 f34 hd_34;have g34_0:get a34 0 = .slice q fs.length cap:=by rw[k34.get 0 (by omega),g30_0]
      have g34_1:get a34 1 = .int .i64 ver:=by rw[k34.get 1 (by omega),g30_1]
      have g34_2:get a34 2 = .bool flex:=by rw[k34.get 2 (by omega),g30_2]
      have g34_3:get a34 3 = .agg ([.int .i64 n,sv,.bool nl,lv,uv]:List Value).toArray:=by rw[k34.get 3 (by omega),g30_3]
      have g34_7:get a34 7 = .pointer (some ⟨w.heap.size,0,none⟩):=by rw[k34.get 7 (by omega),g30_7]
      have g34_8:get a34 8 = .slice none 0 0:=by rw[k34.get 8 (by omega),g30_8]
      have g34_10:get a34 10 = .slice none 0 0:=by rw[k34.get 10 (by omega),g30_10]
      have g34_11:get a34 11 = .int .i64 0:=by rw[k34.get 11 (by omega),g30_11]
      have g34_21:get a34 21 = .slice q fs.length cap:=by rw[k34.get 21 (by omega),g30_21]
      have g34_22:get a34 22 = .int .i64 ((fs.length:Nat):Int):=by rw[k34.get 22 (by omega),g30_22]
      have g34_23:get a34 23 = .int .i64 (j:Int):=by rw[k34.get 23 (by omega),g30_23]
      have hz34:a34.tmps.size=132:=k34.size.trans hz30;have hd34:a34.defers=[]:=k34.defers.trans hd30;have g34_36:get a34 36=v9:=hd_34.c (nd':=[]) 0 (by simp) rfl;have hF35:Fr [] w w34:=hF27.tr f34;have hL35_w12:Fr [] w12 w34:=hL27_w12.tr f34;have rb36:=f34.range rb28 .nil;have rb37:=f34.range rb29 .nil;have hv:Own w34 (From w26.heap.size w34) 1 (get a34 43) (fieldW fd ver flex (atT l j)).length (octets (fieldW fd ver flex (atT l j))):=hd_34.at (d:=7) (by simp) rfl;rw[wCo];have ob38:=ho.upTo hL35_w12 (From.mono hL35_w12.size);have hSl38:w2.heap.size≤w34.heap.size:=Nat.le_trans hSl hL35_w12.size;refine wp_appO hs_T22 hz_T22 (eK g34_36) rfl ob38 (hv.octE (by rw[hbs,if_pos hhas,List.length_append] at hble;omega)) (by rw[hbs,if_pos hhas,List.length_append] at hble;omega) ?_;rintro v38 w38 fa38 oa38 sp38 bk38;have ho38:=oa38.imp_A (new_or hSl38 fa38.size);have hF38:Fr [] w w38:=fr_own hF35 fa38 (ob38.from (s0:=w.heap.size) (by omega)) (fun b hb=>hb.1);have rb39:=fa38.range rb36 (fun r hr=>.inl fun e=>by have:=(ob38.spare_in r hr).1;have:=hS0;omega);refine wC (wAs (v:=v38) (eS hz34) ?_);refine wEk hz34 hd34 fun a40 ha40 hz40 hd40=>?_;have g40_0:=kP ha40 g34_0;have g40_1:=kP ha40 g34_1;have g40_2:=kP ha40 g34_2;have g40_3:=kP ha40 g34_3;have g40_7:=kP ha40 g34_7;have g40_8:=kP ha40 g34_8;have g40_9:get a40 9=v38:=kG ha40 hz34;have g40_10:=kP ha40 g34_10;have g40_11:=kP ha40 g34_11;have g40_21:=kP ha40 g34_21;have g40_22:=kP ha40 g34_22;have g40_23:=kP ha40 g34_23;have hSN:=Nat.le_trans hSl38 fa38.size;refine hK17 a40 w38 ?_;refine wp_reg ?_;refine wC (wp_add (k1:=.i64) (i:=(j:Int)) (j:=1) (eK g40_23) rfl ?_);rw[show (IntKind.i64.wrap (((j:Int):Int)+(1:Int)):Int)=(((j+1:Nat):Int):Int) from by simp only[IntKind.wrap,IntKind.bits,IntKind.signed];simp;omega];refine wC (wMv (v:=.int .i64 ((j+1:Nat):Int)) (eS hz40) ?_);refine wEk hz40 hd40 fun a41 ha41 hz41 hd41=>?_;have g41_0:=kP ha41 g40_0;have g41_1:=kP ha41 g40_1;have g41_2:=kP ha41 g40_2;have g41_3:=kP ha41 g40_3;have g41_7:=kP ha41 g40_7;have g41_8:=kP ha41 g40_8;have g41_9:=kP ha41 g40_9;have g41_10:=kP ha41 g40_10;have g41_11:=kP ha41 g40_11;have g41_21:=kP ha41 g40_21;have g41_22:=kP ha41 g40_22;have g41_23:get a41 23 = .int .i64 ((j+1:Nat):Int):=kG ha41 hz40;refine ⟨m - 1,by omega,j+1,_,hz41,hd41,g41_0,g41_1,g41_2,g41_3,g41_7,g41_8,g41_9,g41_10,g41_11,g41_21,g41_22,g41_23,by omega,?_,rb39,hF38,?_⟩
      · rw[hbs,if_pos hhas];exact ho38
      exact hSN
    have hhas:fd.has ver=false:=hc31;refine wp_skip ?_;refine hK17 a30 w26 ?_;refine wp_reg ?_;refine wC (wp_add (k1:=.i64) (i:=(j:Int)) (j:=1) (eK g30_23) rfl ?_);rw[show (IntKind.i64.wrap (((j:Int):Int)+(1:Int)):Int)=(((j+1:Nat):Int):Int) from by simp only[IntKind.wrap,IntKind.bits,IntKind.signed];simp;omega];refine wC (wMv (v:=.int .i64 ((j+1:Nat):Int)) (eS hz30) ?_);refine wEk hz30 hd30 fun a42 ha42 hz42 hd42=>?_;have g42_0:=kP ha42 g30_0;have g42_1:=kP ha42 g30_1;have g42_2:=kP ha42 g30_2;have g42_3:=kP ha42 g30_3;have g42_7:=kP ha42 g30_7;have g42_8:=kP ha42 g30_8;have g42_9:=kP ha42 g30_9;have g42_10:=kP ha42 g30_10;have g42_11:=kP ha42 g30_11;have g42_21:=kP ha42 g30_21;have g42_22:=kP ha42 g30_22;have g42_23:get a42 23 = .int .i64 ((j+1:Nat):Int):=kG ha42 hz30;refine ⟨m - 1,by omega,j+1,_,hz42,hd42,g42_0,g42_1,g42_2,g42_3,g42_7,g42_8,g42_9,g42_10,g42_11,g42_21,g42_22,g42_23,by omega,?_,rb28,hF27,?_⟩
    · rw[hbs,hhas,if_neg (by simp),List.append_nil];exact ho.upTo hL27_w12 (From.mono hL27_w12.size)
    exact Nat.le_trans hSl hL27_w12.size
  have hj0:j=fs.length:=by simp at hc16;omega
  rw[hj0] at ho;refine wp_exit ?_;show K9 a14 w12
  refine hK9 a14 w12 (tUp ?_);refine tId (wp_seq_k fun K43 hK43=>?_);refine wS fun K44 hK44=>?_;refine wC (wMv (v:=.bool flex) (eK g14_2) ?_);refine wC (wp_not (b:=flex) (eS hz14) ?_);refine wEk hz14 hd14 fun a45 ha45 hz45 hd45=>?_;have g45_0:=kP ha45 g14_0;have g45_1:=kP ha45 g14_1;have g45_2:=kP ha45 g14_2;have g45_3:=kP ha45 g14_3;have g45_7:=kP ha45 g14_7;have g45_8:=kP ha45 g14_8;have g45_9:=kP ha45 g14_9;have g45_10:=kP ha45 g14_10;have g45_11:=kP ha45 g14_11;have g45_21:=kP ha45 g14_21;have g45_22:=kP ha45 g14_22;have g45_23:=kP ha45 g14_23;have g45_47:get a45 47 = .bool (!flex):=kG ha45 hz14;refine hK44 a45 w12 ?_;refine wp_cond_split (t := !flex) (eK g45_47) (fun hc46=>?_) (fun hc46=>?_)
  · have hfx : flex = false := by simpa using hc46
    refine wS fun K47 hK47=>?_;refine wC (wMv (v:=v9) (eK g45_9) ?_);refine wC (wAs (v:=v9) (eS hz45) ?_);refine wEk hz45 hd45 fun a48 ha48 hz48 hd48=>?_;have g48_8:get a48 8=v9:=kG ha48 hz45;refine hK47 a48 w12 ?_;refine wp_ret ?_;rw[hPW,hfx,if_neg (by simp)];exact ⟨hd48,_,rIs hres g48_8,_,rfl,hfl,ho.from (by omega)⟩
  have hfx:flex=true:=by simpa using hc46
  refine wp_skip ?_;refine hK43 a45 w12 (tUp ?_);refine tId (wp_seq_k fun K49 hK49=>?_);refine wS fun K50 hK50=>?_;refine wC (wMv (v:=.slice q fs.length cap) (eK g45_0) ?_);refine wC (wCr (R:=fun x wz=>x = .int .u32 0∧Fr [] w12 wz) (vs:=#[.slice q fs.length cap]) hKn.enters (mX1 (eS hz45)) ((hKn.call w12 A _ fs (hfs.kept hfl (by simp) (fun _ h=>h)) htg).mono (by rintro e w' ⟨rfl,hf⟩;exact ⟨_,rfl,by rw[hkn0];rfl,hf⟩)) ?_);rintro x51 w51 ⟨rfl,fr51⟩;have hF52:Fr [] w w51:=hfl.tr fr51;have hL52_w12:Fr [] w12 w51:=(Fr.refl [] w12).tr fr51;have rb53:=fr51.range hbl .nil;refine wC (wCv (k1:=.u32) (i:=0) hT58_u32 hT3_i64 (eS hz45) ?_);rw[show (IntKind.i64.wrap (0:Int))=(0:Int) from by decide];refine wC (wMv (v:=.int .i64 0) rfl ?_);refine wEk hz45 hd45 fun a54 ha54 hz54 hd54=>?_;have g54_0:=kP ha54 g45_0;have g54_1:=kP ha54 g45_1;have g54_2:=kP ha54 g45_2;have g54_3:=kP ha54 g45_3;have g54_7:=kP ha54 g45_7;have g54_8:=kP ha54 g45_8;have g54_9:=kP ha54 g45_9;have g54_10:=kP ha54 g45_10;have g54_11:=kP ha54 g45_11;have g54_21:=kP ha54 g45_21;have g54_22:=kP ha54 g45_22;have g54_23:=kP ha54 g45_23;have g54_51:get a54 51 = .int .i64 0:=kG ha54 hz45;have g54_52:get a54 52 = .int .i64 0:=kG ha54 hz45;refine hK50 a54 w51 ?_;refine wp_block (wp_loop_ghost (fun (m2:Nat) a' w'=>a'.tmps.size=132∧a'.defers=[]∧get a' 0 = .slice q fs.length cap∧get a' 1 = .int .i64 ver∧get a' 2 = .bool flex∧get a' 3 = .agg ([.int .i64 n,sv,.bool nl,lv,uv]:List Value).toArray∧get a' 7 = .pointer (some ⟨w.heap.size,0,none⟩)∧get a' 8 = .slice none 0 0∧get a' 9=v9∧get a' 10 = .slice none 0 0∧get a' 11 = .int .i64 0∧get a' 21 = .slice q fs.length cap∧get a' 22 = .int .i64 ((fs.length:Nat):Int)∧get a' 23 = .int .i64 (j:Int)∧get a' 51 = .int .i64 0∧get a' 52 = .int .i64 0∧Own w' (From w2.heap.size w') 1 v9 (bodyW fs ver encs fs.length).length (octets (bodyW fs ver encs fs.length))∧w'.rangeAt w.heap.size 0 [.int .i64 n,sv,.bool nl,lv,uv]∧Fr [] w w'∧w2.heap.size≤w'.heap.size) 0 ?_ ?_)
  · exact ⟨hz54,hd54,g54_0,g54_1,g54_2,g54_3,g54_7,g54_8,g54_9,g54_10,g54_11,g54_21,g54_22,g54_23,g54_51,g54_52,ho.upTo hL52_w12 (From.mono hL52_w12.size),rb53,hF52,Nat.le_trans hSl hL52_w12.size⟩
  rintro m2 a55 w55 ⟨hz55,hd55,g55_0,g55_1,g55_2,g55_3,g55_7,g55_8,g55_9,g55_10,g55_11,g55_21,g55_22,g55_23,g55_51,g55_52,ho2,hbl3,hfl2,hSl2⟩;refine wS fun K56 hK56=>?_;refine wC (wp_lssF (k1:=.i64) (i:=0) (j:=0) (by decide) (eK g55_52) (eK g55_51) ?_);refine wEk hz55 hd55 fun a57 ha57 hz57 hd57=>?_;have g57_0:=kP ha57 g55_0;have g57_7:=kP ha57 g55_7;have g57_9:=kP ha57 g55_9;have g57_10:=kP ha57 g55_10;have g57_11:=kP ha57 g55_11;have g57_53:get a57 53 = .bool false:=kG ha57 hz55;refine hK56 a57 w55 ?_;refine wp_seq_k fun K58 hK58=>?_;refine wp_cond_split (t:=false) (eK g57_53) (fun h=>by cases h) (fun _=>?_);refine wp_exit ?_;show K49 a57 w55
  refine hK49 a57 w55 (tUp ?_);refine tId (wp_seq_k fun K60 hK60=>?_);refine wS fun K61 hK61=>?_;refine wC (wMv (v:=.slice q fs.length cap) (eK g57_0) ?_);refine wC (wFa (b:=w.heap.size) (i:=0) (hFlT26.fld (by decide)) (eK g57_7) ?_);rw[show (0+4:Nat)=4 from rfl];refine wC (wL0 (j:=4) (v:=uv) hcT24 (eS hz57) hbl3 rfl ?_);refine wC (wCr (R:=fun x wz=>Fr [] w55 wz∧TagsR wz (fun b=>B b∨From w55.heap.size wz b) x (unknownW fs u)) (vs:=#[.slice q fs.length cap,uv]) hUn.enters (mX2 (eS hz57) (eS hz57)) ((hUn.call w55 A B _ fs uv u (hfs.kept hfl2 (by simp) (fun _ h=>h)) htg (hu.kept hfl2 (by simp) (fun _ h=>h)) (fun b hb=>Nat.lt_of_lt_of_le (hB b hb) hfl2.size)).mono (by rintro e wz ⟨x,rfl,h1,h2⟩;exact ⟨x,rfl,h1,h2⟩)) ?_);rintro x62 w62 ⟨fr62,hus62⟩;have hus:=hus62.kept (A':=fun b=>b < w62.heap.size) (Fr.refl [] _) (by simp) (by rintro b (hb | hb);exact Nat.lt_of_lt_of_le (hB b hb) (Nat.le_trans hfl2.size fr62.size);exact hb.2);obtain ⟨qu,cu,rfl,-,hub,-⟩:=hus.sl2;have hF63:Fr [] w w62:=hfl2.tr fr62;have hL63_w55:Fr [] w55 w62:=(Fr.refl [] w55).tr fr62;have rb64:=fr62.range hbl3 .nil;refine wC (wp_lenS (n:=(unknownW fs u).length) hsT24 (eS hz57) ?_);refine wC (wMv (v:=.int .i64 0) rfl ?_);refine wEk hz57 hd57 fun a65 ha65 hz65 hd65=>?_;have g65_9:=kP ha65 g57_9;have g65_10:=kP ha65 g57_10;have g65_11:=kP ha65 g57_11;have g65_100:get a65 100 = .slice qu ((unknownW fs u).length) cu:=kG ha65 hz57;have g65_101:get a65 101 = .int .i64 (((unknownW fs u).length:Nat):Int):=kG ha65 hz57;have g65_102:get a65 102 = .int .i64 0:=kG ha65 hz57;have ho4:=ho2.upTo hL63_w55 (From.mono hL63_w55.size);have hb4:∀ b,blk v9=some b→b < w62.heap.size:=fun b hb=>(ho4.blk_lt hb).2;have hS2:w2.heap.size≤w62.heap.size:=Nat.le_trans hSl2 hL63_w55.size;refine hK61 a65 w62 ?_;have hul:(unksW fs (.mk n s nl l u)).length=(unknownW fs u).length:=by simp[unksW,T.u]
  have hlenF:(bodyW fs ver encs fs.length).length+(uvW (unksW fs (.mk n s nl l u)).length).length+((unksW fs (.mk n s nl l u)).flatMap pairW).length≤4294967296:=by rw[hfx,if_pos rfl] at hlen;simp only[List.length_append] at hlen;omega
  refine wp_block (wp_loop_ghost (fun (m3:Nat) a' w'=>∃ (j:Nat) (v10:Value),a'.tmps.size=132∧a'.defers=[]∧get a' 9=v9∧get a' 10=v10∧get a' 11 = .int .i64 (j:Int)∧get a' 100 = .slice qu ((unknownW fs u).length) cu∧get a' 101 = .int .i64 (((unknownW fs u).length:Nat):Int)∧get a' 102 = .int .i64 (j:Int)∧j+m3=(unknownW fs u).length∧Own w' (From w2.heap.size w') 1 v9 (bodyW fs ver encs fs.length).length (octets (bodyW fs ver encs fs.length))∧Own w' (From w62.heap.size w') 1 v10 (((unksW fs (.mk n s nl l u)).take j).flatMap pairW).length (octets (((unksW fs (.mk n s nl l u)).take j).flatMap pairW))∧TagsR w' (fun b=>b < w62.heap.size) (.slice qu (unknownW fs u).length cu) (unknownW fs u)∧Fr [] w w'∧w62.heap.size≤w'.heap.size) ((unknownW fs u).length) ?_ ?_)
  · exact ⟨0,.slice none 0 0,hz65,hd65,g65_9,g65_10,g65_11,g65_100,g65_101,g65_102,by omega,ho4,Own.nil,hus,hF63,Nat.le_refl _⟩
  rintro m3 a66 w66 ⟨j,v10,hz66,hd66,g66_9,g66_10,g66_11,g66_100,g66_101,g66_102,hjm6,ho9,ho10,hus6,hfl6,hSl6⟩;refine wS fun K67 hK67=>?_;refine wC (wp_lss (k1:=.i64) (i:=(j:Int)) (j:=(((unknownW fs u).length:Nat):Int)) (eK g66_102) (eK g66_101) ?_);refine wEk hz66 hd66 fun a68 ha68 hz68 hd68=>?_;have g68_9:=kP ha68 g66_9;have g68_10:=kP ha68 g66_10;have g68_11:=kP ha68 g66_11;have g68_100:=kP ha68 g66_100;have g68_101:=kP ha68 g66_101;have g68_102:=kP ha68 g66_102;have g68_103:get a68 103 = .bool (decide (((j:Int):Int) < ((((unknownW fs u).length:Nat):Int):Int))):=kG ha68 hz66;refine hK67 a68 w66 ?_;refine wp_seq_k fun K69 hK69=>?_;refine wp_cond_split (t:=decide (((j:Int):Int) < ((((unknownW fs u).length:Nat):Int):Int))) (eK g68_103) (fun hc70=>?_) (fun hc70=>?_)
  · have hjl : j < (unknownW fs u).length := by simpa using hc70
    obtain ⟨⟨kk,x⟩,hp⟩:∃ p,(unknownW fs u)[j]?=some p:=⟨(unknownW fs u)[j],by simp[hjl]⟩;obtain ⟨qu',cu',hqe,-,-,hku⟩:=hus6.sl2;obtain ⟨bl,ol,xv,hq,hbl7,hkk,hrl,hox⟩:=hku j kk x hp
    cases hqe
    have htk:=take_pair (t:=(.mk n s nl l u)) (j:=j) (show (unksW fs (.mk n s nl l u))[j]?=some (kk,wholeS x) from by simp only[unksW,List.getElem?_map,T.u,hp];rfl);have hpl:=take_pair_le (fs:=fs) (t:=(.mk n s nl l u)) (j+1);rw[htk,List.length_append] at hpl;have hpw:(pairW (kk,wholeS x)).length=(uvW kk).length+((uvW (wholeS x).length).length+(wholeS x).length):=by simp[pairW]
    refine wp_skip ?_;refine hK69 a68 w66 ?_;refine wp_seq_k fun K71 hK71=>?_;refine wp_blockT ?_;refine wS fun K72 hK72=>?_;refine wC (wp_ixN (b:=bl) (o:=ol) (i:=j) hs_T24 (by rw[eTm,g68_100,hq]) (eK g68_102) hjl ?_);refine wC (wp_loadFlat (cs:=[.int .u32 ((kk:Nat):Int),xv]) (b:=bl) (o:=ol+j * 2) hFlT60 rfl (eS hz68) ((Fr.refl [] w66).range hrl .nil) ?_);refine wC (wp_allocL hFlT60 ?_);rintro w73 f73 sz73 r73 th73;have hF74:Fr [] w w73:=hfl6.tr f73;have hL74_w66:Fr [] w66 w73:=(Fr.refl [] w66).tr f73;refine wC (wp_storeL (cs:=[.int .u32 ((kk:Nat):Int),xv]) (o:=0) hFlT60 rfl (eS hz68) (eS hz68) (by intro u hu;simp at hu;rcases hu with rfl | rfl <;> first | rfl | exact hox.one) th73 ?_);rintro w75 f75 sz75 r75 th75;have hF75:Fr [] w w75:=hF74.trans f75 (fun r hr=>.inl (by simp at hr;subst hr;have:=hfl6.size;simp only;omega));have hL75_w66:Fr [] w66 w75:=hL74_w66.trans f75 (fun r hr=>.inl (by simp at hr;subst hr;have:=(Fr.refl [] w66).size;simp only;omega));refine wEk hz68 hd68 fun a76 ha76 hz76 hd76=>?_;have g76_9:=kP ha76 g68_9;have g76_10:=kP ha76 g68_10;have g76_11:=kP ha76 g68_11;have g76_19:get a76 19 = .pointer (some ⟨w66.heap.size,0,none⟩):=kG ha76 hz68;have g76_100:=kP ha76 g68_100;have g76_101:=kP ha76 g68_101;have g76_102:=kP ha76 g68_102;refine hK72 a76 w75 ?_;refine wS fun K77 hK77=>?_;refine wC (wFa (b:=w66.heap.size) (i:=0) (hFlT60.fld (by decide)) (eK g76_19) ?_);rw[show (0+1:Nat)=1 from rfl];refine wC (wL0 (j:=1) (v:=xv) hcT22 (eS hz76) r75 rfl ?_);refine wC (wCr (R:=fun y wz=>OctE wz (fun b=>b < w62.heap.size) y (wholeS x)∧w75=wz) (vs:=#[xv]) hWh.enters (mX1 (eS hz76)) ((hWh.call w75 _ xv x (hox.kept hL75_w66 (by simp) (fun _ h=>h))).mono (by rintro e wz ⟨y,rfl,h1,rfl⟩;exact ⟨y,rfl,h1,rfl⟩)) ?_);rintro x78 _ ⟨hy,rfl⟩;obtain ⟨q78,c78,rfl,-,-,-⟩:=hy.slice2;refine wC (wAs (v:=.slice q78 ((wholeS x).length) c78) (eS hz76) ?_);refine wEk hz76 hd76 fun a79 ha79 hz79 hd79=>?_;have g79_9:=kP ha79 g76_9;have g79_10:=kP ha79 g76_10;have g79_11:=kP ha79 g76_11;have g79_19:=kP ha79 g76_19;have g79_20:get a79 20 = .slice q78 ((wholeS x).length) c78:=kG ha79 hz76;have g79_100:=kP ha79 g76_100;have g79_101:=kP ha79 g76_101;have g79_102:=kP ha79 g76_102;refine hK77 a79 w75 ?_;refine wp_seq_k fun K80 hK80=>?_;have hoA:=ho10.upTo hL75_w66 (From.mono hL75_w66.size);have hSA:=Nat.le_trans hSl6 hL75_w66.size;have hx9A:=ho9.upTo hL75_w66 (From.mono hL75_w66.size);have hyA:=hy.kept (Fr.refl [] w75) (by simp) (fun _ h=>h);have husA:=hus6.kept hL75_w66 (by simp) (fun _ h=>h);refine wp_reg ?_;refine wC (wMv (v:=v10) (eK g79_10) ?_);refine wC (wFa (b:=w66.heap.size) (i:=0) (hFlT60.fld (by decide)) (eK g79_19) ?_);rw[show (0+0:Nat)=0 from rfl];refine wC (wL0 (j:=0) (v:=.int .u32 ((kk:Nat):Int)) hcT58 (eS hz79) r75 rfl ?_);refine wC (wCv (k1:=.u32) (i:=((kk:Nat):Int)) hT58_u32 hT73_u64 (eS hz79) ?_);rw[show (IntKind.u64.wrap (((kk:Nat):Int):Int))=(((kk:Nat):Int):Int) from by simp only[IntKind.wrap,IntKind.bits,IntKind.signed];simp;omega];refine wC (wCr (R:=fun vz wz=>Fr [] w75 wz∧Own wz (From w75.heap.size wz) 1 vz (uvW kk).length (octets (uvW kk))) (vs:=#[.int .u64 ((kk:Nat):Int)]) hUv.enters (mX1 (eS hz79)) (calls_fresh (hUv.call w75 kk (by omega))) ?_);rintro x81 w81 ⟨fr81,ow81⟩;have hF82:Fr [] w w81:=hF75.tr fr81;have rb83:=fr81.range r75 .nil;have hy84:=hyA.kept fr81 (by simp) (fun _ h=>h);have hu84:=husA.kept fr81 (by simp) (fun _ h=>h);have hx84:=hx9A.upTo fr81 (From.mono fr81.size);have hS84:=Nat.le_trans hSA fr81.size;have hoo84:=hoA.upTo fr81 (From.mono fr81.size);rw[wCo];have ob85:=hoo84;have hSl85:w62.heap.size≤w81.heap.size:=hS84;refine wp_appO hs_T22 hz_T22 (eS hz79) (eS hz79) ob85 (ow81.octE (by omega)) (by omega) ?_;rintro v85 w85 fa85 oa85 sp85 bk85;have ho85:=oa85.imp_A (new_or hSl85 fa85.size);have hF85:Fr [] w w85:=fr_own hF82 fa85 (ob85.from (s0:=w.heap.size) (by omega)) (fun b hb=>hb.1);have hy86:=hy84.kept fa85 (A':=fun b=>b < w62.heap.size) (fun r hr hb=>by have:=(ob85.spare_in r hr).1;omega) (fun _ h=>h);have hu86:=hu84.kept fa85 (A':=fun b=>b < w62.heap.size) (fun r hr hb=>by have:=(ob85.spare_in r hr).1;omega) (fun _ h=>h);have hx86:=hx84.kept fa85 (A':=From w2.heap.size w85) (by intro r hr hb g o cap hv e;exfalso;have h1:=(ob85.spare_in r hr).1;have h2:=hb4 g (by rw[hv];rfl);omega) (From.mono fa85.size);have hS86:=Nat.le_trans hS84 fa85.size;refine wC (wMv (v:=.slice q78 ((wholeS x).length) c78) (eK g79_20) ?_);refine wC (wp_lenS (n:=(wholeS x).length) hsT22 (eS hz79) ?_);refine wC (wCv (k1:=.i64) (i:=(((wholeS x).length:Nat):Int)) hT3_i64 hT73_u64 (eS hz79) ?_);rw[show (IntKind.u64.wrap ((((wholeS x).length:Nat):Int):Int))=((((wholeS x).length:Nat):Int):Int) from wrap_u64n (by simp[wholeS];omega)];refine wC (wCr (R:=fun vz wz=>Fr [] w85 wz∧Own wz (From w85.heap.size wz) 1 vz (uvW ((wholeS x).length)).length (octets (uvW ((wholeS x).length)))) (vs:=#[.int .u64 (((wholeS x).length:Nat):Int)]) hUv.enters (mX1 (eS hz79)) (calls_fresh (hUv.call w85 ((wholeS x).length) (by simp[wholeS];omega))) ?_);rintro x87 w87 ⟨fr87,ow87⟩;have hF88:Fr [] w w87:=hF85.tr fr87;have hy89:=hy86.kept fr87 (by simp) (fun _ h=>h);have hu89:=hu86.kept fr87 (by simp) (fun _ h=>h);have hx89:=hx86.upTo fr87 (From.mono fr87.size);have hS89:=Nat.le_trans hS86 fr87.size;have hoo89:=ho85.upTo fr87 (From.mono fr87.size);rw[wCo];have ob90:=hoo89;have hSl90:w62.heap.size≤w87.heap.size:=hS89;refine wp_appO hs_T22 hz_T22 (eS hz79) (eS hz79) ob90 (ow87.octE (by omega)) (by simp only[List.length_append];omega) ?_;rintro v90 w90 fa90 oa90 sp90 bk90;have ho90:=oa90.imp_A (new_or hSl90 fa90.size);have hF90:Fr [] w w90:=fr_own hF88 fa90 (ob90.from (s0:=w.heap.size) (by omega)) (fun b hb=>hb.1);have hy91:=hy89.kept fa90 (A':=fun b=>b < w62.heap.size) (fun r hr hb=>by have:=(ob90.spare_in r hr).1;omega) (fun _ h=>h);have hu91:=hu89.kept fa90 (A':=fun b=>b < w62.heap.size) (fun r hr hb=>by have:=(ob90.spare_in r hr).1;omega) (fun _ h=>h);have hx91:=hx89.kept fa90 (A':=From w2.heap.size w90) (by intro r hr hb g o cap hv e;exfalso;have h1:=(ob90.spare_in r hr).1;have h2:=hb4 g (by rw[hv];rfl);omega) (From.mono fa90.size);have hS91:=Nat.le_trans hS89 fa90.size;refine wC (wMv (v:=.slice q78 ((wholeS x).length) c78) (eK g79_20) ?_);rw[wCo];have ob92:=ho90;have hSl92:w62.heap.size≤w90.heap.size:=hS91;refine wp_appO hs_T22 hz_T22 (eS hz79) (eS hz79) ob92 hy91 (by simp only[List.length_append];omega) ?_;rintro v92 w92 fa92 oa92 sp92 bk92;have ho92:=oa92.imp_A (new_or hSl92 fa92.size);have hF92:Fr [] w w92:=fr_own hF90 fa92 (ob92.from (s0:=w.heap.size) (by omega)) (fun b hb=>hb.1);have hy93:=hy91.kept fa92 (A':=fun b=>b < w62.heap.size) (fun r hr hb=>by have:=(ob92.spare_in r hr).1;omega) (fun _ h=>h);have hu93:=hu91.kept fa92 (A':=fun b=>b < w62.heap.size) (fun r hr hb=>by have:=(ob92.spare_in r hr).1;omega) (fun _ h=>h);have hx93:=hx91.kept fa92 (A':=From w2.heap.size w92) (by intro r hr hb g o cap hv e;exfalso;have h1:=(ob92.spare_in r hr).1;have h2:=hb4 g (by rw[hv];rfl);omega) (From.mono fa92.size);have hS93:=Nat.le_trans hS91 fa92.size;refine wC (wAs (v:=v92) (eS hz79) ?_);refine wEk hz79 hd79 fun a94 ha94 hz94 hd94=>?_;have g94_9:=kP ha94 g79_9;have g94_10:get a94 10=v92:=kG ha94 hz79;have g94_11:=kP ha94 g79_11;have g94_100:=kP ha94 g79_100;have g94_101:=kP ha94 g79_101;have g94_102:=kP ha94 g79_102;refine hK80 a94 w92 ?_;refine wp_reg ?_;refine wC (wMv (v:=.int .i64 (j:Int)) (eK g94_11) ?_);refine wC (wp_add (k1:=.i64) (i:=(j:Int)) (j:=1) (eS hz94) rfl ?_);rw[show (IntKind.i64.wrap (((j:Int):Int)+(1:Int)):Int)=(((j+1:Nat):Int):Int) from by simp only[IntKind.wrap,IntKind.bits,IntKind.signed];simp;omega];refine wC (wAs (v:=.int .i64 ((j+1:Nat):Int)) (eS hz94) ?_);refine wEk hz94 hd94 fun a95 ha95 hz95 hd95=>?_;have g95_9:=kP ha95 g94_9;have g95_10:=kP ha95 g94_10;have g95_11:get a95 11 = .int .i64 ((j+1:Nat):Int):=kG ha95 hz94;have g95_100:=kP ha95 g94_100;have g95_101:=kP ha95 g94_101;have g95_102:=kP ha95 g94_102;refine hK71 a95 w92 ?_;refine wp_reg ?_;refine wC (wp_add (k1:=.i64) (i:=(j:Int)) (j:=1) (eK g95_102) rfl ?_);rw[show (IntKind.i64.wrap (((j:Int):Int)+(1:Int)):Int)=(((j+1:Nat):Int):Int) from by simp only[IntKind.wrap,IntKind.bits,IntKind.signed];simp;omega];refine wC (wMv (v:=.int .i64 ((j+1:Nat):Int)) (eS hz95) ?_);refine wEk hz95 hd95 fun a96 ha96 hz96 hd96=>?_;have g96_9:=kP ha96 g95_9;have g96_10:=kP ha96 g95_10;have g96_11:=kP ha96 g95_11;have g96_100:=kP ha96 g95_100;have g96_101:=kP ha96 g95_101;have g96_102:get a96 102 = .int .i64 ((j+1:Nat):Int):=kG ha96 hz95;refine ⟨m3 - 1,by omega,j+1,_,hz96,hd96,g96_9,g96_10,g96_11,g96_100,g96_101,g96_102,by omega,hx93,?_,hu93,hF92,hS93⟩;rw[htk,show ((unksW fs (.mk n s nl l u)).take j).flatMap pairW++pairW (kk,wholeS x)=((((unksW fs (.mk n s nl l u)).take j).flatMap pairW++uvW kk)++uvW (wholeS x).length)++wholeS x from by simp[pairW]];exact ho92
  have hj0:j=(unknownW fs u).length:=by simp at hc70;omega
  rw[hj0,← hul,List.take_length] at ho10;refine wp_exit ?_;show K60 a68 w66
  refine hK60 a68 w66 (tUp ?_);refine tId (wp_seq_k fun K97 hK97=>?_);have hx9:=ho9.upTo (Fr.refl [] w66) (From.mono (Fr.refl [] w66).size);have hx10:=ho10.upTo (Fr.refl [] w66) (From.mono (Fr.refl [] w66).size);have hSx:=Nat.le_trans hSl6 (Fr.refl [] w66).size;have hunl:(unknownW fs u).length≤4294967296:=hub;refine wp_reg ?_;refine wC (wMv (v:=v9) (eK g68_9) ?_);refine wC (wMv (v:=.int .i64 (j:Int)) (eK g68_11) ?_);refine wC (wCv (k1:=.i64) (i:=(j:Int)) hT3_i64 hT73_u64 (eS hz68) ?_);rw[show (IntKind.u64.wrap ((j:Int):Int))=(((unknownW fs u).length:Int):Int) from by simp only[IntKind.wrap,IntKind.bits,IntKind.signed];simp;omega];refine wC (wCr (R:=fun vz wz=>Fr [] w66 wz∧Own wz (From w66.heap.size wz) 1 vz (uvW (unksW fs (.mk n s nl l u)).length).length (octets (uvW (unksW fs (.mk n s nl l u)).length))) (vs:=#[.int .u64 ((unknownW fs u).length:Int)]) hUv.enters (mX1 (eS hz68)) (calls_fresh (by rw[hul];exact hUv.call w66 (unknownW fs u).length (by omega))) ?_);rintro x98 w98 ⟨fr98,ow98⟩;have hF99:Fr [] w w98:=hfl6.tr fr98;have hy9:=hx9.upTo fr98 (From.mono fr98.size);have hy10:=hx10.upTo fr98 (From.mono fr98.size);have hSy:=Nat.le_trans hSx fr98.size;rw[wCo];have ob100:=hy9;have hSl100:w2.heap.size≤w98.heap.size:=Nat.le_trans hS2 hSy;refine wp_appO hs_T22 hz_T22 (eS hz68) (eS hz68) ob100 (ow98.octE (by omega)) (by omega) ?_;rintro v100 w100 fa100 oa100 sp100 bk100;have ho100:=oa100.imp_A (new_or hSl100 fa100.size);have hF100:Fr [] w w100:=fr_own hF99 fa100 (ob100.from (s0:=w.heap.size) (by omega)) (fun b hb=>hb.1);have hz10:Own w100 (From w62.heap.size w100) 1 v10 _ _:=hy10.kept fa100 (by intro r hr hb g o cap hv e;exfalso;have h1:=hb4 r.b (spare_blk' r hr);have h2:=hb.1;omega) (From.mono fa100.size);have ha1:=ho100;have hSz:=Nat.le_trans (Nat.le_trans hS2 hSy) fa100.size;refine wC (wMv (v:=v10) (eK g68_10) ?_);rw[wCo];have ob101:=ha1;have hSl101:w2.heap.size≤w100.heap.size:=hSz;refine wp_appO hs_T22 hz_T22 (eS hz68) (eS hz68) ob101 (hz10.octE (by omega)) (by simp only[List.length_append];omega) ?_;rintro v101 w101 fa101 oa101 sp101 bk101;have ho101:=oa101.imp_A (new_or hSl101 fa101.size);have hF101:Fr [] w w101:=fr_own hF100 fa101 (ob101.from (s0:=w.heap.size) (by omega)) (fun b hb=>hb.1);refine wC (wAs (v:=v101) (eS hz68) ?_);refine wEk hz68 hd68 fun a102 ha102 hz102 hd102=>?_;have g102_8:get a102 8=v101:=kG ha102 hz68;refine hK97 a102 w101 (tUp ?_);refine wp_ret ?_;rw[hPW,hfx,if_pos rfl,← List.append_assoc];exact ⟨hd102,_,rIs hres g102_8,_,rfl,hF101,ho101.from (by omega)⟩
end Go.Kq

namespace Go.Kq
open Go Go.Proofs
def zM:List Value:=[.slice none 0 0,.int .i64 0]
mutual
/-- No field, and none within, has a tag of its own. -/
def Fd.free:Fd→Bool | .mk _ _ _ _ tag _ _ sub=>decide (tag < 0) && freeAll sub
def freeAll:List Fd→Bool
  | []=>true
  | f::fs=>f.free && freeAll fs
end
theorem freeAll_mem:∀ {fs:List Fd},freeAll fs=true→∀ f ∈ fs,f.free=true
  | [],_,_,h=>by simp at h
  | g :: fs, h, f, hf => by
    rw[freeAll,Bool.and_eq_true] at h
    rcases List.mem_cons.1 hf with rfl | hf
    · exact h.1
    exact freeAll_mem h.2 f hf
theorem free_tag {f:Fd} (h:f.free=true):f.tag < 0∧freeAll f.sub=true:=by
  cases f with
  | mk kind fr to nul tag df of sub=>rw[Fd.free,Bool.and_eq_true] at h;exact ⟨of_decide_eq_true h.1,h.2⟩
theorem FieldM.congr {P:Program} {f:FuncId} {fd:Fd} {e1 e2:Int→Bool→T→List UInt8} (h:FieldM P f fd e1) (he:∀ ver flex t,e1 ver flex t=e2 ver flex t):FieldM P f fd e2:=by
  have:e1=e2:=by funext a b c;exact he a b c
  rw[← this];exact h
mutual
/-- Every part is written as the reference writes it: the functions call one another. -/
theorem parts_all {P:Program} {fp fv ff:FuncId} (hp:∀ fs:List Fd,(∀ f ∈ fs,f.tag < 0)→(∀ fd ∈ fs,FieldM P ff fd (fieldW fd))→PartM P fp fs (partW fs))
    (hv:∀ (fs:List Fd) (sub:Int→Bool→T→List UInt8),PartM P fp fs sub→ValueM P fv fs sub)
    (hf:∀ (fd:Fd) (sub:Int→Bool→T→List UInt8),ValueM P fv fd.sub sub→PartM P fp fd.sub sub→FieldM P ff fd (fun ver flex t=>fieldV fd.kind fd.nul fd.of (sub ver flex) ver flex t)) :
    ∀ fs:List Fd,freeAll fs=true→∀ fd ∈ fs,FieldM P ff fd (fieldW fd)
  | [],_,_,h=>by simp at h
  | g :: fs, h, fd, hm => by
    rw[freeAll,Bool.and_eq_true] at h
    rcases List.mem_cons.1 hm with e | hm
    · rw[e];exact field_all hp hv hf g h.1
    exact parts_all hp hv hf fs h.2 fd hm
theorem field_all {P:Program} {fp fv ff:FuncId} (hp:∀ fs:List Fd,(∀ f ∈ fs,f.tag < 0)→(∀ fd ∈ fs,FieldM P ff fd (fieldW fd))→PartM P fp fs (partW fs))
    (hv:∀ (fs:List Fd) (sub:Int→Bool→T→List UInt8),PartM P fp fs sub→ValueM P fv fs sub)
    (hf:∀ (fd:Fd) (sub:Int→Bool→T→List UInt8),ValueM P fv fd.sub sub→PartM P fp fd.sub sub→FieldM P ff fd (fun ver flex t=>fieldV fd.kind fd.nul fd.of (sub ver flex) ver flex t)) :
    ∀ fd:Fd,fd.free=true→FieldM P ff fd (fieldW fd)
  | .mk kind fr to nul tag df of sub, h => by
    have h1:=(free_tag h).2;have hP:PartM P fp sub (partW sub):=hp sub (fun f hf=>(free_tag (freeAll_mem h1 f hf)).1) (parts_all hp hv hf sub h1);exact (hf (.mk kind fr to nul tag df of sub) (partW sub) (hv sub _ hP) hP).congr fun ver flex t=>(fieldW_eq _ ver flex t).symm
end
structure WriteM (P:Program) (f:FuncId) (fs:List Fd) (enc:Int→Bool→T→List UInt8):Prop where
  enters:Enters P f
  call:∀ (w:World) (A B:Nat→Prop) (ver fx:Int) (fsv:Value) (ct:List Value) (t:T),FdsR w A fsv fs→RepT w B ct t→(∀ b,A b→b < w.heap.size)→(∀ b,B b→b < w.heap.size)→(enc ver (decide (fx≥0) && decide (ver≥fx)) t).length≤4294967296 →
    Calls P f #[.agg ([fsv,.int .i64 fx]:List Value).toArray,.int .i64 ver,.agg ct.toArray] w (Fresh w (enc ver (decide (fx≥0) && decide (ver≥fx)) t))
inductive RepFL (w:World) (A:Nat→Prop):List (List Value)→List Fd→Prop where
  | nil:RepFL w A [] []
  | cons {c:List Value} {f:Fd} {cs:List (List Value)} {fs:List Fd} (h:RepF w A c f) (t:RepFL w A cs fs):RepFL w A (c::cs) (f::fs)
theorem RepFL.len {w:World} {A:Nat→Prop} {cs:List (List Value)} {fs:List Fd} (h:RepFL w A cs fs):cs.length=fs.length:=by
  induction h with
  | nil=>rfl
  | cons _ _ ih=>simp[ih]
theorem RepFL.kept {w w':World} {A A':Nat→Prop} {cs:List (List Value)} {fs:List Fd} (h:RepFL w A cs fs) (f:Fr [] w w') (hA:∀ b,A b→A' b):RepFL w' A' cs fs:=by
  induction h with
  | nil=>exact .nil
  | cons h _ ih=>exact .cons (h.kept f (by simp) hA) ih
theorem RepFL.at {w:World} {A:Nat→Prop} {cs:List (List Value)} {fs:List Fd} (h:RepFL w A cs fs):∀ {b o:Nat},w.rangeAt b o cs.flatten→∀ (i:Nat) (f:Fd),fs[i]?=some f→w.rangeAt b (o+i * 8) (cs.getD i [])∧RepF w A (cs.getD i []) f:=by
  induction h with
  | nil=>intro b o _ i f hi;simp at hi
  | @cons c g cs fs hc _ ih =>
    intro b o hr i f hi;rw[List.flatten_cons,range_append,hc.length] at hr
    cases i with
    | zero=>simp at hi;subst hi;exact ⟨by simpa using hr.1,hc⟩
    | succ i =>
      have:=ih hr.2 i f (by simpa using hi);rw[show o+8+i * 8=o+(i+1) * 8 from by omega] at this
      simpa using this
theorem FdsR.laid {w:World} {A:Nat→Prop} {cs:List (List Value)} {fs:List Fd} {b:Nat} (h:RepFL w A cs fs) (hr:w.rangeAt b 0 cs.flatten) (hb:A b) (hl:fs.length≤4294967296):FdsR w A (.slice (some ⟨b,0,none⟩) fs.length fs.length) fs :=
  .inr ⟨b,0,fs.length,hb,rfl,⟨Nat.le_refl _,hl⟩,fun i=>cs.getD i [],fun i f hi=>(h.at hr i f hi).1,fun i f hi=>(h.at hr i f hi).2⟩
theorem wp_fields {P:Program} {a:Act} {w:World} {K:Act→World→Prop} {Q:Exit→Act→World→Prop} {d:Option Tmp} {t:TypeId} {p:String} {af:Array Edge} {g:Option (Nat × Bool)} {T e bs n s0:Nat} {A:Nat→Prop} {xs:List Operand} {css:List (List Value)} {fs:List Fd}
    (hT:sliceOf P T e 8 bs=true) (hx:xs.map a.eval=css.map fun c=>.agg c.toArray) (h:RepFL w A css fs) (hn:n=fs.length) (hn0:0 < n) (hn1:n≤2000000) (hA:∀ b,A b→s0≤b∧b < w.heap.size) (hs:s0≤w.heap.size)
    (k:∀ w' v,Fr [] w w'→FdsR w' (From s0 w') v fs→K (a.put d v) w') :
    OW P ⟨d,.buildSlice T n ((xs.zipIdx 0).map fun x=>(x.2,x.1)).toArray,t,p,af,g⟩ a w K Q:=by
  have hl:=h.len;have hr:=range_new w css.flatten.toArray e (0,0);have hl8:∀ (cs:List (List Value)) (fs:List Fd),RepFL w A cs fs→∀ c ∈ cs,c.length=8:=by
    intro cs fs h
    induction h with
    | nil=>simp
    | cons h _ ih => intro c hc; rcases List.mem_cons.1 hc with rfl | hc
                     · exact h.length
                     exact ih c hc
  refine wp_sliceL (css:=css) hT (by omega) hn0 (by omega) (by rw[hx];simp only[List.map_map];congr 1) (hl8 _ _ h) (k _ _ (Fr.alloc _ _ _) ?_);have hf:=Fr.alloc [] w (.cells css.flatten.toArray e);have hsz:=size_alloc w (.cells css.flatten.toArray e);rw[hn];exact FdsR.laid (h.kept hf fun b hb=>⟨(hA b hb).1,by have:=(hA b hb).2;omega⟩) (by simpa using hr) ⟨hs,by omega⟩ (by omega)
theorem wp_buildC {P:Program} {a:Act} {w:World} {K:Act→World→Prop} {Q:Exit→Act→World→Prop} {d:Option Tmp} {t:TypeId} {p:String} {af:Array Edge} {g:Option (Nat × Bool)} {s:TypeId} {z cs:List Value} {ps:List (Nat × Operand)} {vs:List (Nat × Value)} (h:Flat P s z) (hv:ps.map (fun p=>(p.1,a.eval p.2))=vs) (h1:∀ p ∈ vs,p.1 < z.length∧p.2.oneCell'=true) (hc:laid z vs=cs)
    (k:K (a.put d (.agg cs.toArray)) w):OW P ⟨d,.build s ps.toArray,t,p,af,g⟩ a w K Q:=wp_buildL h hv h1 (by rw[hc];exact k)
structure SubM (P:Program) (f:FuncId) (fs:List Fd):Prop where
  enters:Enters P f
  call:∀ (w:World),Calls P f #[] w fun e w'=>∃ v,e = .returned v∧Fr [] w w'∧FdsR w' (From w.heap.size w') v fs
structure SchM (P:Program) (f:FuncId) (fs:List Fd) (fx:Int):Prop where
  enters:Enters P f
  call:∀ (w:World),Calls P f #[] w fun e w'=>∃ v,e = .returned (.agg ([v,.int .i64 fx]:List Value).toArray)∧Fr [] w w'∧FdsR w' (From w.heap.size w') v fs
theorem write_m {P:Program} {f:FuncId} {fn:Func} {T3 T26 T29 T31:TypeId} {f26:FuncId} {a0:Array TypeId} {i0 i1:Nat} {t0 t1 t2 t3 t4 t5 t6 t7 t8 t9 t10 t11 t12 t13 t14 t15 t16 t17:TypeId} {p0 p1 p2 p3 p4 p5 p6 p7 p8 p9 p10 p11 p12 p13 p14 p15 p16 p17:String} {e0 e1 e2 e3 e4 e5 e6 e7 e8 e9 e10 e11 e12 e13 e14 e15 e16 e17:Array Edge} {fs:List Fd} {enc:Int→Bool→T→List UInt8}
    (hf:P.funcs[f]?=some fn) (hname:(fn.name == "runtime.NumGoroutine")=false) (hres:fn.results = #[.tmp 6]) (hN:fn.ntmps=21)
    (hbody:fn.body=some (.seq (Code.region i0 ⟨[⟨some 3,.box T31 (.tmp 0),t0,p0,e0,none⟩,⟨some 5,.box T26 (.tmp 2),t1,p1,e1,none⟩,
    oA 6 (.const (.slice none 0 0)) t2 p2 e2]⟩ false) (.seq (Code.region i1 ⟨[oF 7 T31 3 0 t3 p3 e3,
    oL 8 T29 7 t4 p4 e4,
    oM 9 1 t5 p5 e5,
    oF 10 T31 3 1 t6 p6 e6,
    oL 11 T3 10 t7 p7 e7,⟨some 12,.binOp .geq T3 (.tmp 11) (.const (.int .i64 0)) T3,t8,p8,e8,none⟩,
    oM 13 12 t9 p9 e9,⟨some 14,.move (.tmp 1),t10,p10,e10,some (6,true)⟩,⟨some 15,.fieldAddr T31 (.tmp 3) 1,t11,p11,e11,some (6,true)⟩,⟨some 16,.load T3 (.tmp 15),t12,p12,e12,some (6,true)⟩,⟨some 17,.binOp .geq T3 (.tmp 14) (.tmp 16) T3,t13,p13,e13,some (6,true)⟩,⟨some 18,.pick (.tmp 13) (.tmp 17) (.const (.bool false)),t14,p14,e14,none⟩,
    oL 19 T26 5 t15 p15 e15,
    oC 20 f26 #[(.tmp 8),(.tmp 9),(.tmp 18),(.tmp 19)] a0 t16 p16 e16,
    oT 6 20 t17 p17 e17]⟩ false) .ret)))
    (hFlT31:Flat P T31 zM) (hcT29:scal P T29=true) (hcT3:scal P T3=true) (hFlT26:Flat P T26 zT) (hPa:PartM P f26 fs enc):WriteM P f fs enc:=by
  refine ⟨enters_of hf hname hbody,?_⟩;intro w A B ver fx fsv ct t hfs ht hA hB hlen
  cases t with
  | mk n s nl l u =>
  have ht0:=ht;obtain ⟨sv,lv,uv,rfl,hn,hs,hl,hu⟩:=repT_iff.1 ht
  by_cases h1:fx≥0;by_cases h2:ver≥fx
  · have hfl : (decide (fx ≥ 0) && decide (ver ≥ fx)) = true := by simp [h1, h2]
    rw[hfl] at hlen ⊢;refine calls_of_wp hf hbody ?_;generalize ha0:({ tmps:=#[Value.agg ([fsv,.int .i64 fx]:List Value).toArray,Value.int .i64 ver,Value.agg ([.int .i64 n,sv,.bool nl,lv,uv]:List Value).toArray]++Array.replicate (fn.ntmps - (#[Value.agg ([fsv,.int .i64 fx]:List Value).toArray,Value.int .i64 ver,Value.agg ([.int .i64 n,sv,.bool nl,lv,uv]:List Value).toArray]:Array Value).size) undef,defers:=[] }:Act)=a0;have hz0:a0.tmps.size=21:=by subst ha0;simp[hN]
    have hd0:a0.defers=[]:=by subst ha0;rfl
    have g0_0:get a0 0 = .agg ([fsv,.int .i64 fx]:List Value).toArray:=by subst ha0;exact gAr rfl
    have g0_1:get a0 1 = .int .i64 ver:=by subst ha0;exact gAr rfl
    have g0_2:get a0 2 = .agg ([.int .i64 n,sv,.bool nl,lv,uv]:List Value).toArray:=by subst ha0;exact gAr rfl
    refine wT fun K1 hK1=>?_;refine wC (wp_boxL (cs:=[fsv,.int .i64 fx]) (eK g0_0) ?_);rintro w2 f2 sz2 r2 th2;have hF3:Fr [] w w2:=f2;refine wC (wp_boxL (cs:=[.int .i64 n,sv,.bool nl,lv,uv]) (eK g0_2) ?_);rintro w4 f4 sz4 r4 th4;have hF5:Fr [] w w4:=hF3.tr f4;have rb6:=f4.range r2 .nil;refine wC (wAs (v:=.slice none 0 0) rfl ?_);refine wEk hz0 hd0 fun a7 ha7 hz7 hd7=>?_;have g7_1:=kP ha7 g0_1;have g7_3:get a7 3 = .pointer (some ⟨w.heap.size,0,none⟩):=kG ha7 hz0;have g7_5:get a7 5 = .pointer (some ⟨w2.heap.size,0,none⟩):=kG ha7 hz0;refine hK1 a7 w4 (tUp ?_);refine tId (wp_seq_k fun K8 hK8=>?_);refine wp_regG ?_;refine gCn ?_;refine wFa (b:=w.heap.size) (i:=0) (hFlT31.fld (by decide)) (eK g7_3) ?_;rw[show (0+0:Nat)=0 from rfl];refine gCn ?_;refine wL0 (j:=0) (v:=fsv) hcT29 (eS hz7) rb6 rfl ?_;refine gCn ?_;refine wMv (v:=.int .i64 ver) (eK g7_1) ?_;refine gCn ?_;refine wFa (b:=w.heap.size) (i:=0) (hFlT31.fld (by decide)) (eK g7_3) ?_;rw[show (0+1:Nat)=1 from rfl];refine gCn ?_;refine wL0 (j:=1) (v:=.int .i64 fx) hcT3 (eS hz7) rb6 rfl ?_;refine gCn ?_;refine wp_geqT (k1:=.i64) (i:=fx) (j:=0) h1 (eS hz7) rfl ?_;refine gCn ?_;refine wMv (v:=.bool true) (eS hz7) ?_;refine wg_yes (dj:=13) rfl (lZ hz7) (gS hz7) ?_;refine wMv (v:=.int .i64 ver) (eK g7_1) ?_;refine wg_yes (dj:=13) rfl (lZ hz7) (gS hz7) ?_;refine wFa (b:=w.heap.size) (i:=0) (hFlT31.fld (by decide)) (eK g7_3) ?_;rw[show (0+1:Nat)=1 from rfl];refine wg_yes (dj:=13) rfl (lZ hz7) (gS hz7) ?_;refine wL0 (j:=1) (v:=.int .i64 fx) hcT3 (eS hz7) rb6 rfl ?_;refine wg_yes (dj:=13) rfl (lZ hz7) (gS hz7) ?_;refine wp_geqT (k1:=.i64) (i:=ver) (j:=fx) h2 (eS hz7) (eS hz7) ?_;refine gCn ?_;refine wp_pickYes (v:=.bool true) (eS hz7) (eS hz7) ?_;refine gCn ?_;refine wp_loadFlat (cs:=[.int .i64 n,sv,.bool nl,lv,uv]) (b:=w2.heap.size) (o:=0) hFlT26 rfl (eK g7_5) r4 ?_;refine gCn ?_;refine wCr (R:=fun vz wz=>Fr [] w4 wz∧Own wz (From w4.heap.size wz) 1 vz (enc ver true (.mk n s nl l u)).length (octets (enc ver true (.mk n s nl l u)))) (vs:=#[fsv,.int .i64 ver,.bool true,.agg ([.int .i64 n,sv,.bool nl,lv,uv]:List Value).toArray]) hPa.enters (mX4 (eS hz7) (eS hz7) (eS hz7) (eS hz7)) (calls_fresh (hPa.call w4 A B fsv ver true _ (.mk n s nl l u) (hfs.kept hF5 (by simp) (fun _ h=>h)) (ht0.kept hF5 (by simp) (fun _ h=>h)) (fun b hb=>Nat.lt_of_lt_of_le (hA b hb) hF5.size) (fun b hb=>Nat.lt_of_lt_of_le (hB b hb) hF5.size) hlen)) ?_;rintro x9 w9 ⟨fr9,ow9⟩;have hF10:Fr [] w w9:=hF5.tr fr9;have rb11:=fr9.range rb6 .nil;have rb12:=fr9.range r4 .nil;refine gCn ?_;refine wAs (v:=x9) (eS hz7) ?_;refine wg_end fun a13 ha13=>?_;have hz13:=kS ha13 hz7;have hd13:=kD ha13 hd7;have g13_6:get a13 6=x9:=kG ha13 hz7;refine hK8 a13 w9 (tUp ?_);refine wp_ret ?_;exact ⟨hd13,_,rIs hres g13_6,_,rfl,hF10,ow9.from (by have:=hF5.size;omega)⟩
  · have hfl : (decide (fx ≥ 0) && decide (ver ≥ fx)) = false := by simp [h1, h2]
    rw[hfl] at hlen ⊢;refine calls_of_wp hf hbody ?_;generalize ha0:({ tmps:=#[Value.agg ([fsv,.int .i64 fx]:List Value).toArray,Value.int .i64 ver,Value.agg ([.int .i64 n,sv,.bool nl,lv,uv]:List Value).toArray]++Array.replicate (fn.ntmps - (#[Value.agg ([fsv,.int .i64 fx]:List Value).toArray,Value.int .i64 ver,Value.agg ([.int .i64 n,sv,.bool nl,lv,uv]:List Value).toArray]:Array Value).size) undef,defers:=[] }:Act)=a0;have hz0:a0.tmps.size=21:=by subst ha0;simp[hN]
    have hd0:a0.defers=[]:=by subst ha0;rfl
    have g0_0:get a0 0 = .agg ([fsv,.int .i64 fx]:List Value).toArray:=by subst ha0;exact gAr rfl
    have g0_1:get a0 1 = .int .i64 ver:=by subst ha0;exact gAr rfl
    have g0_2:get a0 2 = .agg ([.int .i64 n,sv,.bool nl,lv,uv]:List Value).toArray:=by subst ha0;exact gAr rfl
    refine wT fun K1 hK1=>?_;refine wC (wp_boxL (cs:=[fsv,.int .i64 fx]) (eK g0_0) ?_);rintro w2 f2 sz2 r2 th2;have hF3:Fr [] w w2:=f2;refine wC (wp_boxL (cs:=[.int .i64 n,sv,.bool nl,lv,uv]) (eK g0_2) ?_);rintro w4 f4 sz4 r4 th4;have hF5:Fr [] w w4:=hF3.tr f4;have rb6:=f4.range r2 .nil;refine wC (wAs (v:=.slice none 0 0) rfl ?_);refine wEk hz0 hd0 fun a7 ha7 hz7 hd7=>?_;have g7_1:=kP ha7 g0_1;have g7_3:get a7 3 = .pointer (some ⟨w.heap.size,0,none⟩):=kG ha7 hz0;have g7_5:get a7 5 = .pointer (some ⟨w2.heap.size,0,none⟩):=kG ha7 hz0;refine hK1 a7 w4 (tUp ?_);refine tId (wp_seq_k fun K8 hK8=>?_);refine wp_regG ?_;refine gCn ?_;refine wFa (b:=w.heap.size) (i:=0) (hFlT31.fld (by decide)) (eK g7_3) ?_;rw[show (0+0:Nat)=0 from rfl];refine gCn ?_;refine wL0 (j:=0) (v:=fsv) hcT29 (eS hz7) rb6 rfl ?_;refine gCn ?_;refine wMv (v:=.int .i64 ver) (eK g7_1) ?_;refine gCn ?_;refine wFa (b:=w.heap.size) (i:=0) (hFlT31.fld (by decide)) (eK g7_3) ?_;rw[show (0+1:Nat)=1 from rfl];refine gCn ?_;refine wL0 (j:=1) (v:=.int .i64 fx) hcT3 (eS hz7) rb6 rfl ?_;refine gCn ?_;refine wp_geqT (k1:=.i64) (i:=fx) (j:=0) h1 (eS hz7) rfl ?_;refine gCn ?_;refine wMv (v:=.bool true) (eS hz7) ?_;refine wg_yes (dj:=13) rfl (lZ hz7) (gS hz7) ?_;refine wMv (v:=.int .i64 ver) (eK g7_1) ?_;refine wg_yes (dj:=13) rfl (lZ hz7) (gS hz7) ?_;refine wFa (b:=w.heap.size) (i:=0) (hFlT31.fld (by decide)) (eK g7_3) ?_;rw[show (0+1:Nat)=1 from rfl];refine wg_yes (dj:=13) rfl (lZ hz7) (gS hz7) ?_;refine wL0 (j:=1) (v:=.int .i64 fx) hcT3 (eS hz7) rb6 rfl ?_;refine wg_yes (dj:=13) rfl (lZ hz7) (gS hz7) ?_;refine wp_geqF (k1:=.i64) (i:=ver) (j:=fx) h2 (eS hz7) (eS hz7) ?_;refine gCn ?_;refine wp_pickYes (v:=.bool false) (eS hz7) (eS hz7) ?_;refine gCn ?_;refine wp_loadFlat (cs:=[.int .i64 n,sv,.bool nl,lv,uv]) (b:=w2.heap.size) (o:=0) hFlT26 rfl (eK g7_5) r4 ?_;refine gCn ?_;refine wCr (R:=fun vz wz=>Fr [] w4 wz∧Own wz (From w4.heap.size wz) 1 vz (enc ver false (.mk n s nl l u)).length (octets (enc ver false (.mk n s nl l u)))) (vs:=#[fsv,.int .i64 ver,.bool false,.agg ([.int .i64 n,sv,.bool nl,lv,uv]:List Value).toArray]) hPa.enters (mX4 (eS hz7) (eS hz7) (eS hz7) (eS hz7)) (calls_fresh (hPa.call w4 A B fsv ver false _ (.mk n s nl l u) (hfs.kept hF5 (by simp) (fun _ h=>h)) (ht0.kept hF5 (by simp) (fun _ h=>h)) (fun b hb=>Nat.lt_of_lt_of_le (hA b hb) hF5.size) (fun b hb=>Nat.lt_of_lt_of_le (hB b hb) hF5.size) hlen)) ?_;rintro x9 w9 ⟨fr9,ow9⟩;have hF10:Fr [] w w9:=hF5.tr fr9;have rb11:=fr9.range rb6 .nil;have rb12:=fr9.range r4 .nil;refine gCn ?_;refine wAs (v:=x9) (eS hz7) ?_;refine wg_end fun a13 ha13=>?_;have hz13:=kS ha13 hz7;have hd13:=kD ha13 hd7;have g13_6:get a13 6=x9:=kG ha13 hz7;refine hK8 a13 w9 (tUp ?_);refine wp_ret ?_;exact ⟨hd13,_,rIs hres g13_6,_,rfl,hF10,ow9.from (by have:=hF5.size;omega)⟩
  have hfl:(decide (fx≥0) && decide (ver≥fx))=false:=by simp[h1]
  rw[hfl] at hlen ⊢;refine calls_of_wp hf hbody ?_;generalize ha0:({ tmps:=#[Value.agg ([fsv,.int .i64 fx]:List Value).toArray,Value.int .i64 ver,Value.agg ([.int .i64 n,sv,.bool nl,lv,uv]:List Value).toArray]++Array.replicate (fn.ntmps - (#[Value.agg ([fsv,.int .i64 fx]:List Value).toArray,Value.int .i64 ver,Value.agg ([.int .i64 n,sv,.bool nl,lv,uv]:List Value).toArray]:Array Value).size) undef,defers:=[] }:Act)=a0;have hz0:a0.tmps.size=21:=by subst ha0;simp[hN]
  have hd0:a0.defers=[]:=by subst ha0;rfl
  have g0_0:get a0 0 = .agg ([fsv,.int .i64 fx]:List Value).toArray:=by subst ha0;exact gAr rfl
  have g0_1:get a0 1 = .int .i64 ver:=by subst ha0;exact gAr rfl
  have g0_2:get a0 2 = .agg ([.int .i64 n,sv,.bool nl,lv,uv]:List Value).toArray:=by subst ha0;exact gAr rfl
  refine wT fun K1 hK1=>?_;refine wC (wp_boxL (cs:=[fsv,.int .i64 fx]) (eK g0_0) ?_);rintro w2 f2 sz2 r2 th2;have hF3:Fr [] w w2:=f2;refine wC (wp_boxL (cs:=[.int .i64 n,sv,.bool nl,lv,uv]) (eK g0_2) ?_);rintro w4 f4 sz4 r4 th4;have hF5:Fr [] w w4:=hF3.tr f4;have rb6:=f4.range r2 .nil;refine wC (wAs (v:=.slice none 0 0) rfl ?_);refine wEk hz0 hd0 fun a7 ha7 hz7 hd7=>?_;have g7_1:=kP ha7 g0_1;have g7_3:get a7 3 = .pointer (some ⟨w.heap.size,0,none⟩):=kG ha7 hz0;have g7_5:get a7 5 = .pointer (some ⟨w2.heap.size,0,none⟩):=kG ha7 hz0;refine hK1 a7 w4 (tUp ?_);refine tId (wp_seq_k fun K8 hK8=>?_);refine wp_regG ?_;refine gCn ?_;refine wFa (b:=w.heap.size) (i:=0) (hFlT31.fld (by decide)) (eK g7_3) ?_;rw[show (0+0:Nat)=0 from rfl];refine gCn ?_;refine wL0 (j:=0) (v:=fsv) hcT29 (eS hz7) rb6 rfl ?_;refine gCn ?_;refine wMv (v:=.int .i64 ver) (eK g7_1) ?_;refine gCn ?_;refine wFa (b:=w.heap.size) (i:=0) (hFlT31.fld (by decide)) (eK g7_3) ?_;rw[show (0+1:Nat)=1 from rfl];refine gCn ?_;refine wL0 (j:=1) (v:=.int .i64 fx) hcT3 (eS hz7) rb6 rfl ?_;refine gCn ?_;refine wp_geqF (k1:=.i64) (i:=fx) (j:=0) h1 (eS hz7) rfl ?_;refine gCn ?_;refine wMv (v:=.bool false) (eS hz7) ?_;refine wg_noT (dj:=13) rfl (lZ hz7) (gS hz7) ?_;refine wg_noT (dj:=13) rfl (lZ hz7) (gS hz7) ?_;refine wg_noT (dj:=13) rfl (lZ hz7) (gS hz7) ?_;refine wg_noT (dj:=13) rfl (lZ hz7) (gS hz7) ?_;refine gCn ?_;refine wp_pickNo (v:=.bool false) (eS hz7) rfl ?_;refine gCn ?_;refine wp_loadFlat (cs:=[.int .i64 n,sv,.bool nl,lv,uv]) (b:=w2.heap.size) (o:=0) hFlT26 rfl (eK g7_5) r4 ?_;refine gCn ?_;refine wCr (R:=fun vz wz=>Fr [] w4 wz∧Own wz (From w4.heap.size wz) 1 vz (enc ver false (.mk n s nl l u)).length (octets (enc ver false (.mk n s nl l u)))) (vs:=#[fsv,.int .i64 ver,.bool false,.agg ([.int .i64 n,sv,.bool nl,lv,uv]:List Value).toArray]) hPa.enters (mX4 (eS hz7) (eS hz7) (eS hz7) (eS hz7)) (calls_fresh (hPa.call w4 A B fsv ver false _ (.mk n s nl l u) (hfs.kept hF5 (by simp) (fun _ h=>h)) (ht0.kept hF5 (by simp) (fun _ h=>h)) (fun b hb=>Nat.lt_of_lt_of_le (hA b hb) hF5.size) (fun b hb=>Nat.lt_of_lt_of_le (hB b hb) hF5.size) hlen)) ?_;rintro x9 w9 ⟨fr9,ow9⟩;have hF10:Fr [] w w9:=hF5.tr fr9;have rb11:=fr9.range rb6 .nil;have rb12:=fr9.range r4 .nil;refine gCn ?_;refine wAs (v:=x9) (eS hz7) ?_;refine wg_end fun a13 ha13=>?_;have hz13:=kS ha13 hz7;have hd13:=kD ha13 hd7;have g13_6:get a13 6=x9:=kG ha13 hz7;refine hK8 a13 w9 (tUp ?_);refine wp_ret ?_;exact ⟨hd13,_,rIs hres g13_6,_,rfl,hF10,ow9.from (by have:=hF5.size;omega)⟩
end Go.Kq

namespace Go.Kq
open Go Go.Proofs
structure Fit3M (P:Program) (f:FuncId):Prop where
  enters:Enters P f
  call:∀ (w:World) (A:Nat→Prop) (k:Nat) (xv:Value) (x:List UInt8),OctE w A xv x→Calls P f #[.agg ([.int .u32 (k:Int),xv]:List Value).toArray] w fun e w'=>(∃ b:Bool,e = .returned (.bool b))∧Fr [] w w'
structure Fit2M (P:Program) (f:FuncId):Prop where
  enters:Enters P f
  call:∀ (w:World) (A:Nat→Prop) (v:Value) (u:List (Nat × List UInt8)),TagsR w A v u→Calls P f #[v] w fun e w'=>(∃ b:Bool,e = .returned (.bool b))∧Fr [] w w'
structure FitM (P:Program) (f:FuncId):Prop where
  enters:Enters P f
  call:∀ (w:World) (A:Nat→Prop) (ct:List Value) (t:T),RepT w A ct t→Calls P f #[.agg ct.toArray] w fun e w'=>(∃ b:Bool,e = .returned (.bool b))∧Fr [] w w'
theorem fits3_m {P:Program} {f:FuncId} {fn:Func} {T3 T22 T60:TypeId} {i0 i1 i2 i3:Nat} {t0 t1 t2 t3 t4 t5 t6 t7:TypeId} {p0 p1 p2 p3 p4 p5 p6 p7:String} {e0 e1 e2 e3 e4 e5 e6 e7:Array Edge} 
    (hf:P.funcs[f]?=some fn) (hname:(fn.name == "runtime.NumGoroutine")=false) (hres:fn.results = #[.tmp 2]) (hN:fn.ntmps=7)
    (hbody:fn.body=some (.seq (Code.region i0 ⟨[⟨some 1,.box T60 (.tmp 0),t0,p0,e0,none⟩,
    oA 2 (.const (.bool false)) t1 p1 e1]⟩ false) (.seq (.seq (Code.region i1 ⟨[oF 3 T60 1 1 t2 p2 e2,
    oL 4 T22 3 t3 p3 e3,⟨some 5,.call ⟨.builtin .len,#[(.tmp 4)],#[T22]⟩,t4,p4,e4,none⟩,⟨some 6,.binOp .gtr T3 (.tmp 5) (.const (.int .i64 2147483647)) T3,t5,p5,e5,none⟩]⟩ false) (.cond (.tmp 6) (.seq (Code.region i2 ⟨[oA 2 (.const (.bool false)) t6 p6 e6]⟩ false) .ret) .skip)) (.seq (Code.region i3 ⟨[oA 2 (.const (.bool true)) t7 p7 e7]⟩ false) .ret))))
    (hFlT60:Flat P T60 zTag) (hcT22:scal P T22=true) (hsT22:slTy P T22=true) :Fit3M P f:=by
  refine ⟨enters_of hf hname hbody,?_⟩;intro w A k xv x ho;obtain ⟨q,cap,rfl,-,hl,-⟩:=ho.slice2;refine calls_of_wp hf hbody ?_;generalize ha0:({ tmps:=#[Value.agg ([.int .u32 (k:Int),.slice q x.length cap]:List Value).toArray]++Array.replicate (fn.ntmps - (#[Value.agg ([.int .u32 (k:Int),.slice q x.length cap]:List Value).toArray]:Array Value).size) undef,defers:=[] }:Act)=a0;have hz0:a0.tmps.size=7:=by subst ha0;simp[hN]
  have hd0:a0.defers=[]:=by subst ha0;rfl
  have g0_0:get a0 0 = .agg ([.int .u32 (k:Int),.slice q x.length cap]:List Value).toArray:=by subst ha0;exact gAr rfl
  refine wT fun K1 hK1=>?_;refine wC (wp_boxL (cs:=[.int .u32 (k:Int),.slice q x.length cap]) (eK g0_0) ?_);rintro w2 f2 sz2 r2 th2;have hF3:Fr [] w w2:=f2;refine wC (wAs (v:=.bool false) rfl ?_);refine wEk hz0 hd0 fun a4 ha4 hz4 hd4=>?_;have g4_1:get a4 1 = .pointer (some ⟨w.heap.size,0,none⟩):=kG ha4 hz0;refine hK1 a4 w2 (tUp ?_);refine tId (wp_seq_k fun K5 hK5=>?_);refine wS fun K6 hK6=>?_;refine wC (wFa (b:=w.heap.size) (i:=0) (hFlT60.fld (by decide)) (eK g4_1) ?_);rw[show (0+1:Nat)=1 from rfl];refine wC (wL0 (j:=1) (v:=.slice q x.length cap) hcT22 (eS hz4) r2 rfl ?_);refine wC (wp_lenS (n:=x.length) hsT22 (eS hz4) ?_);refine wC (wp_gtr (k1:=.i64) (i:=((x.length:Nat):Int)) (j:=2147483647) (eS hz4) rfl ?_);refine wEk hz4 hd4 fun a7 ha7 hz7 hd7=>?_;have g7_6:get a7 6 = .bool (decide ((((x.length:Nat):Int):Int) > (2147483647:Int))):=kG ha7 hz4;refine hK6 a7 w2 ?_;refine wp_cond_split (t:=decide ((((x.length:Nat):Int):Int) > (2147483647:Int))) (eK g7_6) (fun hc8=>?_) (fun hc8=>?_)
  · refine wp_seq_k fun K9 hK9=>?_;refine wp_reg ?_;refine wC (wAs (v:=.bool false) rfl ?_);refine wEk hz7 hd7 fun a10 ha10 hz10 hd10=>?_;have g10_2:get a10 2 = .bool false:=kG ha10 hz7;refine hK9 a10 w2 ?_;refine wp_ret ?_;exact ⟨hd10,_,rIs hres g10_2,⟨_,rfl⟩,hF3⟩
  refine wp_skip ?_;refine hK5 a7 w2 (tUp ?_);refine wT fun K11 hK11=>?_;refine wC (wAs (v:=.bool true) rfl ?_);refine wEk hz7 hd7 fun a12 ha12 hz12 hd12=>?_;have g12_2:get a12 2 = .bool true:=kG ha12 hz7;refine hK11 a12 w2 (tUp ?_);refine wp_ret ?_;exact ⟨hd12,_,rIs hres g12_2,⟨_,rfl⟩,hF3⟩
theorem fits2_m {P:Program} {f:FuncId} {fn:Func} {T3 T4 T24 T60:TypeId} {f45:FuncId} {a0:Array TypeId} {i0 i1 i2 i3 i4 i5 i6 i7 i8 i9:Nat} {t0 t1 t2 t3 t4 t5 t6 t7 t8 t9 t10 t11 t12 t13 t14 t15 t16 t17 t18 t19:TypeId} {p0 p1 p2 p3 p4 p5 p6 p7 p8 p9 p10 p11 p12 p13 p14 p15 p16 p17 p18 p19:String} {e0 e1 e2 e3 e4 e5 e6 e7 e8 e9 e10 e11 e12 e13 e14 e15 e16 e17 e18 e19:Array Edge} {te:TypeId} {tb:Nat}
    (hf:P.funcs[f]?=some fn) (hname:(fn.name == "runtime.NumGoroutine")=false) (hres:fn.results = #[.tmp 2]) (hN:fn.ntmps=18)
    (hbody:fn.body=some (.seq (Code.region i0 ⟨[oA 2 (.const (.bool false)) t0 p0 e0]⟩ false) (.seq (.seq (Code.region i1 ⟨[oM 5 0 t1 p1 e1,⟨some 6,.call ⟨.builtin .len,#[(.tmp 5)],#[T24]⟩,t2,p2,e2,none⟩,⟨some 7,.binOp .gtr T3 (.tmp 6) (.const (.int .i64 2147483647)) T3,t3,p3,e3,none⟩]⟩ false) (.cond (.tmp 7) (.seq (Code.region i2 ⟨[oA 2 (.const (.bool false)) t4 p4 e4]⟩ false) .ret) .skip)) (.seq (.seq (Code.region i3 ⟨[oM 8 0 t5 p5 e5,⟨some 9,.call ⟨.builtin .len,#[(.tmp 8)],#[T24]⟩,t6,p6,e6,none⟩,⟨some 10,.move (.const (.int .i64 0)),t7,p7,e7,none⟩]⟩ false) (.block 0 (.loop (.seq (Code.region i4 ⟨[⟨some 11,.binOp .lss T3 (.tmp 10) (.tmp 9) T3,t8,p8,e8,none⟩]⟩ false) (.seq (.cond (.tmp 11) .skip
  (.exit 0)) (.seq (.block 1 (.seq (Code.region i5 ⟨[⟨some 12,.indexAddr T24 (.tmp 8) (.tmp 10),t9,p9,e9,none⟩,
    oL 13 T60 12 t10 p10 e10,⟨some 4,.alloc T60,t11,p11,e11,none⟩,
    oS T60 4 13 t12 p12 e12]⟩ false) (.seq (Code.region i6 ⟨[oL 14 T60 4 t13 p13 e13,
    oC 15 f45 #[(.tmp 14)] a0 t14 p14 e14,⟨some 16,.unOp .not T4 (.tmp 15),t15,p15,e15,none⟩]⟩ false) (.cond (.tmp 16) (.seq (Code.region i7 ⟨[oA 2 (.const (.bool false)) t16 p16 e16]⟩ false) .ret) .skip))))
  (Code.region i8 ⟨[⟨some 17,.binOp .add T3 (.tmp 10) (.const (.int .i64 1)) T3,t17,p17,e17,none⟩,
    oM 10 17 t18 p18 e18]⟩ false))))))) (.seq (Code.region i9 ⟨[oA 2 (.const (.bool true)) t19 p19 e19]⟩ false) .ret)))))
    (hsT24:slTy P T24=true) (hs_T24:sliceOf P T24 te 2 tb=true) (hFlT60:Flat P T60 zTag) (h3:Fit3M P f45):Fit2M P f:=by
  refine ⟨enters_of hf hname hbody,?_⟩;intro w A v u hu;obtain ⟨q,cap,rfl,-,hbig,hk⟩:=hu.sl2;refine calls_of_wp hf hbody ?_;generalize ha0:({ tmps:=#[Value.slice q u.length cap]++Array.replicate (fn.ntmps - (#[Value.slice q u.length cap]:Array Value).size) undef,defers:=[] }:Act)=a0;have hz0:a0.tmps.size=18:=by subst ha0;simp[hN]
  have hd0:a0.defers=[]:=by subst ha0;rfl
  have g0_0:get a0 0 = .slice q u.length cap:=by subst ha0;exact gAr rfl
  refine wT fun K1 hK1=>?_;refine wC (wAs (v:=.bool false) rfl ?_);refine wEk hz0 hd0 fun a2 ha2 hz2 hd2=>?_;have g2_0:=kP ha2 g0_0;refine hK1 a2 w (tUp ?_);refine tId (wp_seq_k fun K3 hK3=>?_);refine wS fun K4 hK4=>?_;refine wC (wMv (v:=.slice q u.length cap) (eK g2_0) ?_);refine wC (wp_lenS (n:=u.length) hsT24 (eS hz2) ?_);refine wC (wp_gtr (k1:=.i64) (i:=((u.length:Nat):Int)) (j:=2147483647) (eS hz2) rfl ?_);refine wEk hz2 hd2 fun a5 ha5 hz5 hd5=>?_;have g5_0:=kP ha5 g2_0;have g5_7:get a5 7 = .bool (decide ((((u.length:Nat):Int):Int) > (2147483647:Int))):=kG ha5 hz2;refine hK4 a5 w ?_;refine wp_cond_split (t:=decide ((((u.length:Nat):Int):Int) > (2147483647:Int))) (eK g5_7) (fun hc6=>?_) (fun hc6=>?_)
  · refine wp_seq_k fun K7 hK7=>?_;refine wp_reg ?_;refine wC (wAs (v:=.bool false) rfl ?_);refine wEk hz5 hd5 fun a8 ha8 hz8 hd8=>?_;have g8_2:get a8 2 = .bool false:=kG ha8 hz5;refine hK7 a8 w ?_;refine wp_ret ?_;exact ⟨hd8,_,rIs hres g8_2,⟨_,rfl⟩,Fr.refl _ _⟩
  refine wp_skip ?_;refine hK3 a5 w (tUp ?_);refine tId (wp_seq_k fun K9 hK9=>?_);refine wS fun K10 hK10=>?_;refine wC (wMv (v:=.slice q u.length cap) (eK g5_0) ?_);refine wC (wp_lenS (n:=u.length) hsT24 (eS hz5) ?_);refine wC (wMv (v:=.int .i64 0) rfl ?_);refine wEk hz5 hd5 fun a11 ha11 hz11 hd11=>?_;have g11_8:get a11 8 = .slice q u.length cap:=kG ha11 hz5;have g11_9:get a11 9 = .int .i64 ((u.length:Nat):Int):=kG ha11 hz5;have g11_10:get a11 10 = .int .i64 0:=kG ha11 hz5;refine hK10 a11 w ?_;refine wp_block (wp_loop_ghost (fun (m:Nat) a' w'=>∃ (j:Nat),a'.tmps.size=18∧a'.defers=[]∧get a' 8 = .slice q u.length cap∧get a' 9 = .int .i64 (u.length:Int)∧get a' 10 = .int .i64 (j:Int)∧j+m=u.length∧Fr [] w w') u.length ?_ ?_)
  · exact ⟨0,hz11,hd11,g11_8,g11_9,g11_10,by omega,Fr.refl _ _⟩
  rintro m a12 w12 ⟨j,hz12,hd12,g12_8,g12_9,g12_10,hjm,hfw⟩;refine wS fun K13 hK13=>?_;refine wC (wp_lss (k1:=.i64) (i:=(j:Int)) (j:=(u.length:Int)) (eK g12_10) (eK g12_9) ?_);refine wEk hz12 hd12 fun a14 ha14 hz14 hd14=>?_;have g14_8:=kP ha14 g12_8;have g14_9:=kP ha14 g12_9;have g14_10:=kP ha14 g12_10;have g14_11:get a14 11 = .bool (decide (((j:Int):Int) < ((u.length:Int):Int))):=kG ha14 hz12;refine hK13 a14 w12 ?_;refine wp_seq_k fun K15 hK15=>?_;refine wp_cond_split (t:=decide (((j:Int):Int) < ((u.length:Int):Int))) (eK g14_11) (fun hc16=>?_) (fun hc16=>?_)
  · have hjl : j < u.length := by simp at hc16; omega
    obtain ⟨k,x,hkx⟩:∃ k x,u[j]?=some (k,x):=⟨(u[j]).1,(u[j]).2,by simp[hjl]⟩;obtain ⟨bl,ol,xv,hq,hbl,hk32,hrl,hox⟩:=hk j k x hkx;refine wp_skip ?_;refine hK15 a14 w12 ?_;refine wp_seq_k fun K17 hK17=>?_;refine wp_blockT ?_;refine wS fun K18 hK18=>?_;refine wC (wp_ixN (b:=bl) (o:=ol) (i:=j) hs_T24 (by rw[eTm,g14_8,hq]) (eK g14_10) hjl ?_);refine wC (wp_loadFlat (cs:=[.int .u32 (k:Int),xv]) (b:=bl) (o:=ol+j * 2) hFlT60 rfl (eS hz14) (hfw.range hrl .nil) ?_);refine wC (wp_allocL hFlT60 ?_);rintro w19 f19 sz19 r19 th19;have hF20:Fr [] w w19:=hfw.tr f19;refine wC (wp_storeL (cs:=[.int .u32 (k:Int),xv]) (o:=0) hFlT60 rfl (eS hz14) (eS hz14) (by intro u hu;simp at hu;rcases hu with rfl | rfl;rfl;exact hox.one) th19 ?_);rintro w21 f21 sz21 r21 th21;have hF21:Fr [] w w21:=hF20.trans f21 (fun r hr=>.inl (by simp at hr;subst hr;have:=hfw.size;simp only;omega));refine wEk hz14 hd14 fun a22 ha22 hz22 hd22=>?_;have g22_4:get a22 4 = .pointer (some ⟨w12.heap.size,0,none⟩):=kG ha22 hz14;have g22_8:=kP ha22 g14_8;have g22_9:=kP ha22 g14_9;have g22_10:=kP ha22 g14_10;refine hK18 a22 w21 ?_;refine wS fun K23 hK23=>?_;refine wC (wp_loadFlat (cs:=[.int .u32 (k:Int),xv]) (b:=w12.heap.size) (o:=0) hFlT60 rfl (eK g22_4) r21 ?_);refine wC (wCr (R:=fun vz wz=>(∃ b:Bool,vz = .bool b)∧Fr [] w21 wz) (vs:=#[.agg ([.int .u32 (k:Int),xv]:List Value).toArray]) h3.enters (mX1 (eS hz22)) ((h3.call w21 A k xv x (hox.kept hF21 (by simp) (fun _ h=>h))).mono (by rintro e wz ⟨⟨b,rfl⟩,h⟩;exact ⟨_,rfl,⟨b,rfl⟩,h⟩)) ?_);rintro _ w24 ⟨⟨bb,rfl⟩,fr24⟩;have hF25:Fr [] w w24:=hF21.tr fr24;have rb26:=fr24.range r21 .nil;refine wC (wp_not (b:=bb) (eS hz22) ?_);refine wEk hz22 hd22 fun a27 ha27 hz27 hd27=>?_;have g27_8:=kP ha27 g22_8;have g27_9:=kP ha27 g22_9;have g27_10:=kP ha27 g22_10;have g27_16:get a27 16 = .bool (!bb):=kG ha27 hz22;refine hK23 a27 w24 ?_;refine wp_cond_split (t := !bb) (eK g27_16) (fun hc28=>?_) (fun hc28=>?_)
    · refine wp_seq_k fun K29 hK29=>?_;refine wp_reg ?_;refine wC (wAs (v:=.bool false) rfl ?_);refine wEk hz27 hd27 fun a30 ha30 hz30 hd30=>?_;have g30_2:get a30 2 = .bool false:=kG ha30 hz27;refine hK29 a30 w24 ?_;refine wp_ret ?_;exact ⟨hd30,_,rIs hres g30_2,⟨_,rfl⟩,hF25⟩
    refine wp_skip ?_;refine hK17 a27 w24 ?_;refine wp_reg ?_;refine wC (wp_add (k1:=.i64) (i:=(j:Int)) (j:=1) (eK g27_10) rfl ?_);rw[show (IntKind.i64.wrap (((j:Int):Int)+(1:Int)):Int)=(((j+1:Nat):Int):Int) from by simp only[IntKind.wrap,IntKind.bits,IntKind.signed];simp;omega];refine wC (wMv (v:=.int .i64 ((j+1:Nat):Int)) (eS hz27) ?_);refine wEk hz27 hd27 fun a31 ha31 hz31 hd31=>?_;have g31_8:=kP ha31 g27_8;have g31_9:=kP ha31 g27_9;have g31_10:get a31 10 = .int .i64 ((j+1:Nat):Int):=kG ha31 hz27;exact ⟨m - 1,by omega,j+1,hz31,hd31,g31_8,g31_9,g31_10,by omega,hF25⟩
  refine wp_exit ?_;show K9 a14 w12
  refine hK9 a14 w12 (tUp ?_);refine wT fun K32 hK32=>?_;refine wC (wAs (v:=.bool true) rfl ?_);refine wEk hz14 hd14 fun a33 ha33 hz33 hd33=>?_;have g33_2:get a33 2 = .bool true:=kG ha33 hz14;refine hK32 a33 w12 (tUp ?_);refine wp_ret ?_;exact ⟨hd33,_,rIs hres g33_2,⟨_,rfl⟩,hfw⟩
theorem fits1_m {P:Program} {f:FuncId} {fn:Func} {T3 T4 T22 T23 T24 T26:TypeId} {f23:FuncId} {a0:Array TypeId} {i0 i1 i2 i3 i4 i5 i6 i7:Nat} {t0 t1 t2 t3 t4 t5 t6 t7 t8 t9 t10 t11 t12 t13 t14 t15 t16 t17:TypeId} {p0 p1 p2 p3 p4 p5 p6 p7 p8 p9 p10 p11 p12 p13 p14 p15 p16 p17:String} {e0 e1 e2 e3 e4 e5 e6 e7 e8 e9 e10 e11 e12 e13 e14 e15 e16 e17:Array Edge} 
    (hf:P.funcs[f]?=some fn) (hname:(fn.name == "runtime.NumGoroutine")=false) (hres:fn.results = #[.tmp 2]) (hN:fn.ntmps=15)
    (hbody:fn.body=some (.seq (Code.region i0 ⟨[⟨some 1,.box T26 (.tmp 0),t0,p0,e0,none⟩,
    oA 2 (.const (.bool false)) t1 p1 e1]⟩ false) (.seq (.seq (Code.region i1 ⟨[oF 3 T26 1 1 t2 p2 e2,
    oL 4 T22 3 t3 p3 e3,⟨some 5,.call ⟨.builtin .len,#[(.tmp 4)],#[T22]⟩,t4,p4,e4,none⟩,⟨some 6,.binOp .gtr T3 (.tmp 5) (.const (.int .i64 2147483647)) T3,t5,p5,e5,none⟩]⟩ false) (.cond (.tmp 6) (.seq (Code.region i2 ⟨[oA 2 (.const (.bool false)) t6 p6 e6]⟩ false) .ret) .skip)) (.seq (.seq (Code.region i3 ⟨[oF 7 T26 1 3 t7 p7 e7,
    oL 8 T23 7 t8 p8 e8,⟨some 9,.call ⟨.builtin .len,#[(.tmp 8)],#[T23]⟩,t9,p9,e9,none⟩,⟨some 10,.binOp .gtr T3 (.tmp 9) (.const (.int .i64 2147483647)) T3,t10,p10,e10,none⟩]⟩ false) (.cond (.tmp 10) (.seq (Code.region i4 ⟨[oA 2 (.const (.bool false)) t11 p11 e11]⟩ false) .ret) .skip)) (.seq (.seq (Code.region i5 ⟨[oF 11 T26 1 4 t12 p12 e12,
    oL 12 T24 11 t13 p13 e13,
    oC 13 f23 #[(.tmp 12)] a0 t14 p14 e14,⟨some 14,.unOp .not T4 (.tmp 13),t15,p15,e15,none⟩]⟩ false) (.cond (.tmp 14) (.seq (Code.region i6 ⟨[oA 2 (.const (.bool false)) t16 p16 e16]⟩ false) .ret) .skip)) (.seq (Code.region i7 ⟨[oA 2 (.const (.bool true)) t17 p17 e17]⟩ false) .ret))))))
    (hFlT26:Flat P T26 zT) (hcT22:scal P T22=true) (hsT22:slTy P T22=true) (hcT23:scal P T23=true) (hsT23:slTy P T23=true) (hcT24:scal P T24=true) (h2:Fit2M P f23):FitM P f:=by
  refine ⟨enters_of hf hname hbody,?_⟩;intro w A ct t ht
  cases t with
  | mk n s nl l u =>
  obtain ⟨sv,lv,uv,rfl,hn,hs,hl,hu⟩:=repT_iff.1 ht;obtain ⟨q,cap,rfl,-,-,-⟩:=hs.slice2;obtain ⟨lq,lcap,rfl⟩:=hl.slice;refine calls_of_wp hf hbody ?_;generalize ha0:({ tmps:=#[Value.agg ([.int .i64 n,.slice q s.length cap,.bool nl,.slice lq l.length lcap,uv]:List Value).toArray]++Array.replicate (fn.ntmps - (#[Value.agg ([.int .i64 n,.slice q s.length cap,.bool nl,.slice lq l.length lcap,uv]:List Value).toArray]:Array Value).size) undef,defers:=[] }:Act)=a0;have hz0:a0.tmps.size=15:=by subst ha0;simp[hN]
  have hd0:a0.defers=[]:=by subst ha0;rfl
  have g0_0:get a0 0 = .agg ([.int .i64 n,.slice q s.length cap,.bool nl,.slice lq l.length lcap,uv]:List Value).toArray:=by subst ha0;exact gAr rfl
  refine wT fun K1 hK1=>?_;refine wC (wp_boxL (cs:=[.int .i64 n,.slice q s.length cap,.bool nl,.slice lq l.length lcap,uv]) (eK g0_0) ?_);rintro w2 f2 sz2 r2 th2;have hF3:Fr [] w w2:=f2;refine wC (wAs (v:=.bool false) rfl ?_);refine wEk hz0 hd0 fun a4 ha4 hz4 hd4=>?_;have g4_1:get a4 1 = .pointer (some ⟨w.heap.size,0,none⟩):=kG ha4 hz0;refine hK1 a4 w2 (tUp ?_);refine tId (wp_seq_k fun K5 hK5=>?_);refine wS fun K6 hK6=>?_;refine wC (wFa (b:=w.heap.size) (i:=0) (hFlT26.fld (by decide)) (eK g4_1) ?_);rw[show (0+1:Nat)=1 from rfl];refine wC (wL0 (j:=1) (v:=.slice q s.length cap) hcT22 (eS hz4) r2 rfl ?_);refine wC (wp_lenS (n:=s.length) hsT22 (eS hz4) ?_);refine wC (wp_gtr (k1:=.i64) (i:=((s.length:Nat):Int)) (j:=2147483647) (eS hz4) rfl ?_);refine wEk hz4 hd4 fun a7 ha7 hz7 hd7=>?_;have g7_1:=kP ha7 g4_1;have g7_6:get a7 6 = .bool (decide ((((s.length:Nat):Int):Int) > (2147483647:Int))):=kG ha7 hz4;refine hK6 a7 w2 ?_;refine wp_cond_split (t:=decide ((((s.length:Nat):Int):Int) > (2147483647:Int))) (eK g7_6) (fun hc8=>?_) (fun hc8=>?_)
  · refine wp_seq_k fun K9 hK9=>?_;refine wp_reg ?_;refine wC (wAs (v:=.bool false) rfl ?_);refine wEk hz7 hd7 fun a10 ha10 hz10 hd10=>?_;have g10_2:get a10 2 = .bool false:=kG ha10 hz7;refine hK9 a10 w2 ?_;refine wp_ret ?_;exact ⟨hd10,_,rIs hres g10_2,⟨_,rfl⟩,hF3⟩
  refine wp_skip ?_;refine hK5 a7 w2 (tUp ?_);refine tId (wp_seq_k fun K11 hK11=>?_);refine wS fun K12 hK12=>?_;refine wC (wFa (b:=w.heap.size) (i:=0) (hFlT26.fld (by decide)) (eK g7_1) ?_);rw[show (0+3:Nat)=3 from rfl];refine wC (wL0 (j:=3) (v:=.slice lq l.length lcap) hcT23 (eS hz7) r2 rfl ?_);refine wC (wp_lenS (n:=l.length) hsT23 (eS hz7) ?_);refine wC (wp_gtr (k1:=.i64) (i:=((l.length:Nat):Int)) (j:=2147483647) (eS hz7) rfl ?_);refine wEk hz7 hd7 fun a13 ha13 hz13 hd13=>?_;have g13_1:=kP ha13 g7_1;have g13_10:get a13 10 = .bool (decide ((((l.length:Nat):Int):Int) > (2147483647:Int))):=kG ha13 hz7;refine hK12 a13 w2 ?_;refine wp_cond_split (t:=decide ((((l.length:Nat):Int):Int) > (2147483647:Int))) (eK g13_10) (fun hc14=>?_) (fun hc14=>?_)
  · refine wp_seq_k fun K15 hK15=>?_;refine wp_reg ?_;refine wC (wAs (v:=.bool false) rfl ?_);refine wEk hz13 hd13 fun a16 ha16 hz16 hd16=>?_;have g16_2:get a16 2 = .bool false:=kG ha16 hz13;refine hK15 a16 w2 ?_;refine wp_ret ?_;exact ⟨hd16,_,rIs hres g16_2,⟨_,rfl⟩,hF3⟩
  refine wp_skip ?_;refine hK11 a13 w2 (tUp ?_);refine tId (wp_seq_k fun K17 hK17=>?_);refine wS fun K18 hK18=>?_;refine wC (wFa (b:=w.heap.size) (i:=0) (hFlT26.fld (by decide)) (eK g13_1) ?_);rw[show (0+4:Nat)=4 from rfl];refine wC (wL0 (j:=4) (v:=uv) hcT24 (eS hz13) r2 rfl ?_);refine wC (wCr (R:=fun vz wz=>(∃ b:Bool,vz = .bool b)∧Fr [] w2 wz) (vs:=#[uv]) h2.enters (mX1 (eS hz13)) ((h2.call w2 A _ u (hu.kept hF3 (by simp) (fun _ h=>h))).mono (by rintro e wz ⟨⟨b,rfl⟩,h⟩;exact ⟨_,rfl,⟨b,rfl⟩,h⟩)) ?_);rintro _ w19 ⟨⟨bb,rfl⟩,fr19⟩;have hF20:Fr [] w w19:=hF3.tr fr19;have rb21:=fr19.range r2 .nil;refine wC (wp_not (b:=bb) (eS hz13) ?_);refine wEk hz13 hd13 fun a22 ha22 hz22 hd22=>?_;have g22_14:get a22 14 = .bool (!bb):=kG ha22 hz13;refine hK18 a22 w19 ?_;refine wp_cond_split (t := !bb) (eK g22_14) (fun hc23=>?_) (fun hc23=>?_)
  · refine wp_seq_k fun K24 hK24=>?_;refine wp_reg ?_;refine wC (wAs (v:=.bool false) rfl ?_);refine wEk hz22 hd22 fun a25 ha25 hz25 hd25=>?_;have g25_2:get a25 2 = .bool false:=kG ha25 hz22;refine hK24 a25 w19 ?_;refine wp_ret ?_;exact ⟨hd25,_,rIs hres g25_2,⟨_,rfl⟩,hF20⟩
  refine wp_skip ?_;refine hK17 a22 w19 (tUp ?_);refine wT fun K26 hK26=>?_;refine wC (wAs (v:=.bool true) rfl ?_);refine wEk hz22 hd22 fun a27 ha27 hz27 hd27=>?_;have g27_2:get a27 2 = .bool true:=kG ha27 hz22;refine hK26 a27 w19 (tUp ?_);refine wp_ret ?_;exact ⟨hd27,_,rIs hres g27_2,⟨_,rfl⟩,hF20⟩
end Go.Kq

namespace Go.Kq
open Go Go.Proofs Go.ChangeShapes Go.WideShapes Go.RowKit
section
variable {H:Type} {enc:TypeId × Value→H} {P:Program}
theorem octs_of_ints {w:World} {b o:Nat}:∀ (zs:List Int),(∀ i,i < zs.length→w.cell? ⟨b,o+i,none⟩=some (.int .u8 (zs.getD i 0)))→(∀ n ∈ zs,(Lit.int .u8 n).wf=true) →
    w.rangeAt b o (octets (zs.map fun z=>UInt8.ofNat z.toNat)):=by
  intro zs h hw j v hv;simp only[octets,List.map_map,List.getElem?_map,Option.map_eq_some_iff] at hv;obtain ⟨z,hz,rfl⟩:=hv;have hj:j < zs.length:=(List.getElem?_eq_some_iff.1 hz).1;rw[h j hj];have hzz:zs.getD j 0=z:=by rw[List.getD,hz];rfl
  have hwz:=hw z (List.mem_of_getElem? hz);simp only[Lit.wf] at hwz;have hb:0≤z∧z≤255:=by simpa [IntKind.min,IntKind.max,IntKind.signed,IntKind.bits] using hwz
  rw[hzz];simp only[Function.comp_apply,UInt8.toNat_ofNat',Option.some.injEq,Value.int.injEq,true_and];omega
theorem err_of_laid {W:World} {name nm:String} {d:DataW Unit} {g:Nat} {ti:TypeId} {ms:Array (String × TypeId)} (hg:P.globalNamed name=some g) (hty:(P.globals[g]?).map (·.type)=some ti) (hi:P.underlying ti=some (.interface ms))
    (h:laidMet P [(name,.iface nm d)] W):∃ u v,W.cell? ⟨g,0,none⟩=some (.iface u v):=by
  obtain ⟨ps,⟨g',t',cs,fuel,p,q,hg',ht',hvar,hd,_,_⟩,_⟩:=h;obtain rfl:=Option.some.inj (hg.symm.trans hg');obtain rfl:=Option.some.inj (hty.symm.trans ht');obtain ⟨l⟩:=cs;obtain ⟨_,u,v,hl,_⟩:=iface_of_trod hi hd;have:l=[.iface u v]:=by simpa using hl
  subst this;exact ⟨u,v,World.var?_cell hg hvar 0⟩
theorem trodAll_stays (hl:laidOutB P=true) {W W':World} {base:Nat} {sp':Nat→Bool} :
    ∀ {ts : List TypeId} {vs : List Value} {ds : List (DataW H)} {ps : List MemPlace}, (∀ t ∈ ts, P.readableRec t = true ∧ t < P.types.size) → DataW.TrodAll enc P W base (fun _ => true) true ts vs ds ps →
      (∀ p ∈ ps,W.sameAt W' p)→(∀ p ∈ ps,sp' p.block=true)→DataW.TrodAll enc P W' base sp' true ts vs ds ps
  | [], _, _, _, _, h, _, _ => by
    obtain ⟨rfl,rfl,rfl⟩:=trodAll_nil h;exact h
  | t :: ts, _, _, _, ht, h, hs, hp => by
    obtain ⟨v,vs1,d,ds1,a,b,rfl,rfl,rfl,h1,h2⟩:=trodAll_cons h;exact ⟨a,b,WideElems.Trod_stays hl (ht t (by simp)).1 (ht t (by simp)).2 h1 (fun p hp'=>hs p (List.mem_append_left _ hp')) (fun p hp'=>hp p (List.mem_append_left _ hp')),
      trodAll_stays hl (fun t ht'=>ht t (by simp[ht'])) h2 (fun p hp'=>hs p (List.mem_append_right _ hp')) (fun p hp'=>hp p (List.mem_append_right _ hp')),rfl⟩
theorem post_true (hl:laidOutB P=true) {f:Func} {s:ChangeSpec} {apart fresh handsOn again:Bool} {W W':World} {args:Array Value} {ds gs:List (DataW H)} {before p:List MemPlace} {rt:TypeId}
    (hW:DataW.Whole enc P f.params.toList s.vars apart W args.toList ds gs before) (hv:s.vars=[]) (hA:DataW.TrodAll enc P W 0 (fun _=>true) true f.params.toList args.toList ds p) (hbp:before=p) (hgs:gs=[])
    (hs:s.fn H (ds++gs)={ results:=[.lit (.bool true)],args:=ds }) (hrt:f.resultTypes = #[rt]) (hb:P.underlying rt=some .bool)
    (hrd:∀ t ∈ f.params.toList,P.readableRec t=true∧t < P.types.size) (hF:Fr [] W W') :
    s.post enc P f apart fresh handsOn again W args (.bool true) W':=by
  subst hbp;have hbl:=hF.below;have hlt:∀ x ∈ before,x.block < W.heap.size:=fun x hx=>hW.lt x hx;have hold:∀ x ∈ before,(fun b=>decide (b < W.heap.size)) x.block=true:=fun x hx=>by simpa using hlt x hx
  have hres:∀ (b:Nat) (sp:Nat→Bool) (hd:Bool),DataW.TrodAll enc P W' b sp hd f.resultTypes.toList ((Value.bool true).resultList f.resultTypes.size) (s.fn H (ds++gs)).results []:=by
    intro b sp hd;rw[hs,hrt];exact trodAll_cons_mk (shut_bool hb true) trodAll_mk0
  have hargs:∀ sp:Nat→Bool,(∀ x ∈ before,sp x.block=true)→DataW.TrodAll enc P W' 0 sp true f.params.toList args.toList (s.fn H (ds++gs)).args before:=by
    intro sp hsp;rw[hs];exact trodAll_stays hl hrd hA (fun x hx=>hbl.same (hlt x hx)) hsp
  have hvars:∀ sp:Nat→Bool,DataW.TrodVars enc P W' sp s.vars (s.fn H (ds++gs)).vars []:=by
    intro sp;rw[hv,hs];exact (rfl:([]:List MemPlace)=[])
  refine ⟨ds,gs,before,[],before,[],hW,hres _ _ _,hargs _ hold,hvars _,World.keptBut_mono (fun x hx=>⟨hx,?_⟩) (hbl.frame (· ∈ before)),fun _=>?_⟩
  · exact Or.inr (Or.inl hx)
  obtain ⟨_,_,_,_,_,hz,hn⟩:=hW;refine ⟨?_,_,_,([]++before)++[],⟨[]++before,[],trodAll_append (hargs _ (fun _ _=>rfl)) (hres _ _ _),hvars _,rfl,?_,?_⟩,?_⟩
  · exact ok_one (by rw[hrt]) rfl (okWide_bool_mk hb _)
  · intro b off hp;have hin : MemPlace.cell b off ∈ before := by simpa using hp
    rw[hbl.frozen (hlt _ hin)];exact hz b off hin
  · intro ha
    simpa using hn ha
  intro x hx _
  simpa using hx
end
end Go.Kq

namespace Go.Kq
open Go Go.Proofs
structure DoorGM (P:Program) (ge:Nat) (f:FuncId) (res:Int→List UInt8→T × Bool):Prop where
  enters:Enters P f
  call:∀ w A ver v xs er ty u,0≤ver→ver≤32767→OctE w A v xs→xs.length≤4294967296→w.cell? ⟨ge,0,none⟩=some er→er = .iface ty u →
    Calls P f #[.int .i64 ver,v] w fun e w'=>∃ cs:List Value,e = .returned (.tuple #[.agg cs.toArray,.bool (res ver xs).2])∧Fr [] w w'∧RepT w' (From w.heap.size w') cs (res ver xs).1
set_option maxRecDepth 10000 in
theorem doorg_m {P:Program} {ge fd:Nat} {fn:Func} {tys:List Ty} {ds:List V} {fl:Int→Bool} {g:Rd} {tell:V→T}
    {T3 T22 T27 T50 T56 te:TypeId} {f22 f24 f25 f26:FuncId} {b0 b1 b2 b3:Array TypeId} {i0 i1 i2 i3 i4 i5:Nat}
    {t0 t1 t2 t3 t4 t5 t6 t7 t8 t9 t10 t11 t12 t13 t14 t15 t16 t17 t18 t19:TypeId} {p0 p1 p2 p3 p4 p5 p6 p7 p8 p9 p10 p11 p12 p13 p14 p15 p16 p17 p18 p19:String} {e0 e1 e2 e3 e4 e5 e6 e7 e8 e9 e10 e11 e12 e13 e14 e15 e16 e17 e18 e19:Array Edge}
    (hf:P.funcs[fd]?=some fn) (hname:(fn.name == "runtime.NumGoroutine")=false) (hres:fn.results = #[.cell 4 T27,.tmp 5]) (hN:fn.ntmps=20)
    (hbody:fn.body=some (.seq (Code.region i0 ⟨[⟨some 4,.alloc T27,t0,p0,e0,none⟩,
    oA 5 (.const (.bool false)) t1 p1 e1]⟩ false) (.seq (Code.region i1 ⟨[oC 7 f22 #[] b0 t2 p2 e2,
    oT 6 7 t3 p3 e3]⟩ false) (.seq (Code.region i2 ⟨[oM 8 6 t4 p4 e4,
    oM 9 0 t5 p5 e5,⟨some 10,.convert T3 T50 (.tmp 9),t6,p6,e6,none⟩,
    oC 11 f24 #[(.tmp 8),(.tmp 10)] b1 t7 p7 e7]⟩ false) (.seq (.seq (Code.region i3 ⟨[oM 12 6 t8 p8 e8,
    oM 13 1 t9 p9 e9,⟨some 14,.call ⟨.builtin .append,#[(.const (.slice none 0 0)),(.tmp 13)],#[T22,T22]⟩,t10,p10,e10,none⟩,
    oC 15 f25 #[(.tmp 12),(.tmp 14)] b2 t11 p11 e11,⟨some 16,.binOp .neq T56 (.tmp 15) (.const .nilIface) T56,t12,p12,e12,none⟩]⟩ false) (.cond (.tmp 16) (.seq (Code.region i4 ⟨[⟨some 17,.build T27 #[],t13,p13,e13,none⟩,
    oS T27 4 17 t14 p14 e14,
    oA 5 (.const (.bool false)) t15 p15 e15]⟩ false) .ret) .skip)) (.seq (Code.region i5 ⟨[oM 18 6 t16 p16 e16,
    oC 19 f26 #[(.tmp 18)] b3 t17 p17 e17,
    oS T27 4 19 t18 p18 e18,
    oA 5 (.const (.bool true)) t19 p19 e19]⟩ false) .ret))))))
    (hT:Flat P T27 zT) (hs:sliceOf P T22 te 1 1=true) (hz:zeroIs P te [.int .u8 0]) (h3:intOf P T3 .i64=true) (h50:intOf P T50 .i16=true) (h56:ifaceTy P T56=true)
    (hnew:NewM P f22 (.int .i16::tys) (.n 0::ds)) (hset:SetM P f24) (hread:ReadD P ge f25 tys ds fl g) (htell:TellM P f26 (.st (.int .i16::tys)) tell) :
    DoorGM P ge fd (doorRes g fl tell):=by
  refine ⟨enters_of hf hname hbody,?_⟩;intro w A ver v xs er ty u hv0 hv1 hv hxl her hiface;have hge:=lt_of_cell her;refine calls_of_wp hf hbody ?_;generalize ha0:({ tmps:=#[Value.int .i64 ver,v]++Array.replicate (fn.ntmps - #[Value.int .i64 ver,v].size) undef,defers:=[] }:Act)=a0;have hsz:a0.tmps.size=20:=by subst ha0;simp[hN]
  have hd0:a0.defers=[]:=by subst ha0;rfl
  have g0:get a0 0 = .int .i64 ver:=by subst ha0;exact gAr rfl
  have g1:get a0 1=v:=by subst ha0;exact gAr rfl
  refine wT fun K1 hK1=>?_;refine wC (wp_alloc hT.zero ?_);rw[wCo,wAg,eCo,wNi];have f1:=Fr.alloc [] w (.cells (Value.agg zT.toArray).cells T27);have th1:(w.alloc (.cells (Value.agg zT.toArray).cells T27)).there w.heap.size 0 5:=there_new w zT.toArray T27;have sz1:=size_alloc w (.cells (Value.agg zT.toArray).cells T27);generalize w.alloc (.cells (Value.agg zT.toArray).cells T27)=w1 at f1 th1 sz1 ⊢;generalize ha1:(a0.put (some 4) (.pointer (some ⟨w.heap.size,0,none⟩))).put (some 5) (.bool false)=a1;have k1:Kept 4 a0 a1:=by subst ha1;exact (Kept.put0 (by omega) _).put (by omega) _
  have q4:get a1 4 = .pointer (some ⟨w.heap.size,0,none⟩):=by subst ha1;rw[gR,gQ]
  have hz1:=k1.size;refine hK1 a1 w1 (tUp ?_);refine wT fun K2 hK2=>?_;rw[wCo];refine wp_calls (R:=fun x w'=>∃ pb z,x = .pointer (some ⟨pb,0,none⟩)∧w1.heap.size≤pb∧pb < w'.heap.size∧Fr [] w1 w'∧w'.rangeAt pb 0 z∧Reps w' NoFoot (.int .i16::tys) z (.n 0::ds)∧w'.there pb 0 (Ty.sizes (.int .i16::tys))) hnew.enters (vs:=#[]) (by simp)
    ((hnew.call w1).mono (by rintro e' w' ⟨pb,z,rfl,h⟩;exact ⟨_,rfl,pb,z,rfl,h⟩)) ?_
  rintro x w2 ⟨pb,z,rfl,hpb1,hpb2,f2,hzr,hzs,hth⟩;rw[wCo,wAg,eTm,gQ,wNi];generalize ha2:(a1.put (some 7) (.pointer (some ⟨pb,0,none⟩))).put (some 6) (.pointer (some ⟨pb,0,none⟩))=a2;have k2:Kept 6 a1 a2:=by subst ha2;exact (Kept.put0 (by omega) _).put (by omega) _
  have q6:get a2 6 = .pointer (some ⟨pb,0,none⟩):=by subst ha2;exact gQ
  have hz2:=k2.size;refine hK2 a2 w2 (tUp ?_);refine wT fun K3 hK3=>?_;rw[wCo,wMw,eTm,q6,wCo,wMw,eTm,gR,k2.get 0 (by omega),k1.get 0 (by omega),g0,wCo];refine wCv (k1:=.i64) (i:=ver) h3 h50 (by rw[eTm,gQ]) ?_;rw[wrap16 (by omega),wCo];refine wp_calls (R:=fun x w'=>w'=w2.setCell ⟨pb,0,none⟩ (.int .i16 ver)) hset.enters (vs:=#[.pointer (some ⟨pb,0,none⟩),.int .i16 ver])
    (by
      simp only[List.map_toArray,List.map_cons,List.map_nil,eTm];rw[gR,gR,gQ,gQ])
    ((hset.call w2 pb ver (there_part hth (by omega) (by simp[Ty.sizes,Ty.size]))).mono (by rintro e' w' ⟨⟨x,rfl⟩,rfl⟩;exact ⟨x,rfl,rfl⟩)) ?_
  rintro x w3 hw3;rw[wNi];generalize ha3:(((a2.put (some 8) (.pointer (some ⟨pb,0,none⟩))).put (some 9) (.int .i64 ver)).put (some 10) (.int .i16 ver)).put (some 11) x=a3;have k3:Kept 8 a2 a3:=by subst ha3;exact (((Kept.put0 (by omega) _).put (by omega) _).put (by omega) _).put (by omega) _
  have hz3:=k3.size;have f3:Fr [⟨pb,0,0+1⟩] w2 w3:=by rw[hw3];exact Fr.set w2 pb 0 _
  have c3:w3.cell? ⟨pb,0,none⟩=some (.int .i16 ver):=by rw[hw3];exact range_set (there_part hth (by omega) (by simp[Ty.sizes,Ty.size]))
  clear hw3;obtain ⟨c1,c2,x1,r1,rfl,hx1,hr1,hr2⟩:=hzs;obtain ⟨rfl,rfl⟩:=List.cons.inj hx1;obtain ⟨i,rfl,_⟩:=hr1;have hz4:w3.rangeAt pb 1 c2∧Reps w3 NoFoot tys c2 ds:=by
    refine ⟨f3.range (range_append.1 hzr).2 (.cons (.inr (.inr (by simp))) .nil),Reps.kept f3 (fun _ _ h=>h) (fun _ h=>h) hr2⟩
  have hth3:w3.there pb 0 (1+Ty.sizes tys):=f3.there hth;have f03:Fr [] w w3:=by
    refine f1.trans (Fr.trans (l':=[⟨pb,0,0+1⟩]) (f2.nil (l:=[])) f3 ?_) ?_
    · intro r hr;simp at hr;subst hr;exact .inl (by simp only;omega)
    simp
  have th3:w3.there w.heap.size 0 5:=f3.there (f2.there th1);have sz2:=f2.size;have sz3:=f3.size;refine hK3 a3 w3 (tUp ?_);refine tId (wp_seq_k fun K4 hK4=>?_);refine wS fun K5 hK5=>?_;rw[wCo,wMw,eTm,k3.get 6 (by omega),q6,wCo,wMw,eTm,gR,k3.get 1 (by omega),k2.get 1 (by omega),k1.get 1 (by omega),g1,wCo];refine wp_copySrc (xs:=xs) (A:=A) (v:=v) hs hz (by rw[eTm,gQ]) (hv.kept f03 (by simp) (fun _ h=>h)) (by omega) ?_;intro v' w4 sb' f4 hsb1 hsb2 hsrc';rw[wCo];have sz4:=f4.size;obtain ⟨sb,hsbp,hsbl,hsrc,hsbo⟩:∃ sb,pb ≠ sb∧sb < w4.heap.size∧Src w4 sb v' xs xs.isEmpty∧w.heap.size≤sb:=by
    by_cases hx:xs=[]
    · subst hx;refine ⟨w.heap.size, by omega, by omega, ?_, Nat.le_refl _⟩
      rcases hsrc' with h | ⟨h,_⟩
      · exact .inl h
      simp at h
    exact ⟨sb',by omega,hsb2 hx,hsrc',by omega⟩
  have c4:=f4.cell c3 .nil;have her4:w4.cell? ⟨ge,0,none⟩=some er:=f4.cell (f03.cell her .nil) .nil;refine wp_calls hread.enters (vs:=#[.pointer (some ⟨pb,0,none⟩),v'])
    (by
      simp only[List.map_toArray,List.map_cons,List.map_nil,eTm];rw[gR,gR,gQ,gQ])
    (hread.call w4 pb sb ver v' xs xs.isEmpty er (f4.there hth3) (by omega) hv1 c4 ⟨c2,f4.range hz4.1 .nil,Reps.kept f4 (by simp) (fun _ h=>h) hz4.2⟩ hsrc her4 (by omega) hsbp hsbl) ?_
  rintro rv w5 ⟨f5,hm⟩;rw[wCo];have f05:Fr [] w w5:=by
    refine f03.trans (Fr.trans (l':=[⟨pb,0,1+Ty.sizes tys⟩]) (l:=[⟨pb,0,1+Ty.sizes tys⟩]) (f4.nil (l:=_)) f5 (fun _ h=>Rng.in_self h)) ?_;intro r hr;simp at hr;subst hr;exact .inl (by simp only;omega)
  have th5:w5.there w.heap.size 0 5:=f5.there (f4.there th3);have sz5:=f5.size;have hpb5:pb < w5.heap.size:=by omega
  obtain ⟨b,hbv,hbt,hbf⟩:∃ b,ErrIs rv b∧(b=true→doorRes g fl tell ver xs=(.zero,false)) ∧
      (b=false→w5.cell? ⟨pb,0,none⟩=some (.int .i16 ver)∧∃ ys z,doorRes g fl tell ver xs=(tell (.l (.n ver::ys)),true)∧w5.rangeAt pb 1 z∧Reps w5 (Foot sb w4.heap.size w5.heap.size) tys z ys):=by
    subst hiface;unfold doorRes
    cases hg:g ver (fl ver) ⟨xs,xs.isEmpty,false⟩ with
    | none=>rw[hg] at hm;simp only at hm;subst hm;exact ⟨true,.yes _ _,by simp,by simp⟩
    | some y =>
      obtain ⟨x,st'⟩:=y;rw[hg] at hm;simp only at hm
      by_cases hb:st'.bad
      · rw[if_pos hb] at hm;subst hm;exact ⟨true,.yes _ _,by simp[hb],by simp⟩
      rw[if_neg hb] at hm;obtain ⟨rfl,h11,ys,z,rfl,h12⟩:=hm;exact ⟨false,.no,by simp,fun _=>⟨h11,ys,z,by simp[hb,consV],h12⟩⟩
  clear hm;refine wp_neqNil (b:=b) h56 (by rw[eTm,gQ]) hbv ?_;rw[wNi];generalize ha5:(((((a3.put (some 12) (.pointer (some ⟨pb,0,none⟩))).put (some 13) v).put (some 14) v').put (some 15) rv).put (some 16) (.bool b))=a5;have k5:Kept 12 a3 a5:=by subst ha5;exact ((((Kept.put0 (by omega) _).put (by omega) _).put (by omega) _).put (by omega) _).put (by omega) _
  have q16:get a5 16 = .bool b:=by subst ha5;exact gQ
  have hz5:=k5.size;have q4':get a5 4 = .pointer (some ⟨w.heap.size,0,none⟩):=by rw[k5.get 4 (by omega),k3.get 4 (by omega),k2.get 4 (by omega),q4]
  have q6':get a5 6 = .pointer (some ⟨pb,0,none⟩):=by rw[k5.get 6 (by omega),k3.get 6 (by omega),q6]
  have hd5:a5.defers=[]:=by rw[k5.defers,k3.defers,k2.defers,k1.defers,hd0]
  refine hK5 a5 w5 ?_;refine wp_cond_split (t:=b) (by rw[eTm,q16]) (fun hb=>?_) fun hb=>wp_skip (hK4 a5 w5 (tUp ?_))
  · refine wp_seq_k fun K6 hK6=>?_;refine wp_reg ?_;refine wC (wp_build0 hT ?_);refine wC (wp_storeFlat hT (cs:=zT) (b:=w.heap.size) (o:=0) rfl (by rw[eTm,gR,q4']) (by rw[eTm,gQ]) (by simp[zT,Value.oneCell']) th5 ?_);rw[pNo,wCo,wAg,eCo,wNi];have f6:=Fr.sets w.heap.size zT w5 0;have r6:=World.rangeAt_setCells_same (w:=w5) w.heap.size 0 zT th5;refine hK6 _ _ (wp_ret ?_);refine ⟨by simp only[dPu];exact hd5,_,results_cell2 hres hT (cs:=zT) rfl (by rw[gR,gR,q4']) r6 (gQ),zT,by rw[hbt hb],?_,by rw[hbt hb];exact repT_zero⟩;refine f05.trans f6 ?_;intro r hr;simp at hr;subst hr;exact .inl (Nat.le_refl _)
  obtain ⟨c5,ys,z,hres2,hrz,hrs⟩:=hbf hb;refine wT fun K6 hK6=>?_;rw[wCo,wMw,eTm,q6',wCo];refine wp_calls (R:=fun x w'=>∃ cs:List Value,x = .agg cs.toArray∧Fr [] w5 w'∧RepT w' (From w5.heap.size w') cs (tell (.l (.n ver::ys)))) htell.enters (vs:=#[.pointer (some ⟨pb,0,none⟩)]) (by simp[eTm,gPs (a:=a5) (d:=18) (v:=.pointer (some ⟨pb,0,none⟩)) (by omega)])
    ((htell.call w5 pb 0 (.int .i16 ver::z) (.l (.n ver::ys)) (Foot sb w4.heap.size w5.heap.size) (range_cons.2 ⟨c5,hrz⟩)
      ⟨_,rfl,[.int .i16 ver],z,.n ver,ys,rfl,rfl,⟨ver,rfl,rfl,by simp[IntKind.min,IntKind.signed,IntKind.bits];omega,by simp[IntKind.max,IntKind.signed,IntKind.bits];omega⟩,hrs⟩
      (by rintro b' (rfl | h) <;> omega) hpb5).mono (by rintro e' w' ⟨cs,rfl,h⟩;exact ⟨_,rfl,cs,rfl,h⟩)) ?_
  rintro x w6 ⟨cs,rfl,f6,hrt⟩;have hcl:=hrt.length;have th6:w6.there w.heap.size 0 cs.length:=by rw[hcl];exact f6.there th5
  refine wC (wp_storeFlat hT (cs:=cs) (b:=w.heap.size) (o:=0) hcl (by rw[eTm,gR,gR,q4']) (by rw[eTm,gQ]) hrt.ones th6 ?_);rw[pNo,wCo,wAg,eCo,wNi];have f7:=Fr.sets w.heap.size cs w6 0;have r7:=World.rangeAt_setCells_same (w:=w6) w.heap.size 0 cs th6;have sz6:=f6.size;have sz7:=f7.size;refine hK6 _ _ (wp_ret ?_);refine ⟨by simp only[dPu];exact hd5,_,results_cell2 hres hT (cs:=cs) hcl (by rw[gR,gR,gR,q4']) r7 (gQ),cs,by rw[hres2],?_,?_⟩
  · refine f05.trans (Fr.trans (l':=[⟨w.heap.size,0,0+cs.length⟩]) (f6.nil (l:=[⟨w.heap.size,0,0+cs.length⟩])) f7 (fun _ h=>Rng.in_self h)) ?_;intro r hr;simp at hr;subst hr;exact .inl (Nat.le_refl _)
  rw[hres2];refine hrt.kept f7 ?_ ?_
  · intro r hr;simp at hr;subst hr;intro hb';have:=hb'.1;simp only at this;omega
  rintro b' ⟨h1,h2⟩;exact ⟨by omega,by omega⟩
end Go.Kq

namespace Go.Kq
open Go Go.Proofs
def numW (kind n:Int):Int:=if kind=0 then n % 2 else if kind=1 then IntKind.i8.wrap n else if kind=2 then IntKind.i16.wrap n else if kind=3 then IntKind.i32.wrap n else if kind=5 then IntKind.u16.wrap n else n
structure NumM (P:Program) (f:FuncId):Prop where
  enters:Enters P f
  call:∀ (w:World) (kind n:Int),Calls P f #[.int .i64 kind,.int .i64 n] w fun e w'=>e = .returned (.int .i64 (numW kind n))∧w'=w
theorem wrap64_i8 (n:Int):IntKind.i64.wrap (IntKind.i8.wrap n)=IntKind.i8.wrap n:=by simp[IntKind.wrap,IntKind.bits,IntKind.signed];repeat' split <;> omega
theorem wrap64_i16 (n:Int):IntKind.i64.wrap (IntKind.i16.wrap n)=IntKind.i16.wrap n:=by simp[IntKind.wrap,IntKind.bits,IntKind.signed];repeat' split <;> omega
theorem wrap64_i32 (n:Int):IntKind.i64.wrap (IntKind.i32.wrap n)=IntKind.i32.wrap n:=by simp[IntKind.wrap,IntKind.bits,IntKind.signed];repeat' split <;> omega
theorem wrap64_u16 (n:Int):IntKind.i64.wrap (IntKind.u16.wrap n)=IntKind.u16.wrap n:=by simp[IntKind.wrap,IntKind.bits,IntKind.signed];repeat' split <;> omega
theorem number_m {P:Program} {f:FuncId} {fn:Func} {T2 T3 T21 T47 T84 T104:TypeId} {i0 i1 i2 i3 i4 i5 i6 i7 i8 i9 i10 i11 i12:Nat} {t0 t1 t2 t3 t4 t5 t6 t7 t8 t9 t10 t11 t12 t13 t14 t15 t16 t17 t18 t19 t20 t21 t22 t23 t24 t25 t26 t27 t28 t29 t30 t31 t32:TypeId} {p0 p1 p2 p3 p4 p5 p6 p7 p8 p9 p10 p11 p12 p13 p14 p15 p16 p17 p18 p19 p20 p21 p22 p23 p24 p25 p26 p27 p28 p29 p30 p31 p32:String} {e0 e1 e2 e3 e4 e5 e6 e7 e8 e9 e10 e11 e12 e13 e14 e15 e16 e17 e18 e19 e20 e21 e22 e23 e24 e25 e26 e27 e28 e29 e30 e31 e32:Array Edge} 
    (hf:P.funcs[f]?=some fn) (hname:(fn.name == "runtime.NumGoroutine")=false) (hres:fn.results = #[.tmp 4]) (hN:fn.ntmps=31)
    (hbody:fn.body=some (.seq (Code.region i0 ⟨[oA 4 (.const (.int .i64 0)) t0 p0 e0]⟩ false) (.seq (.seq (Code.region i1 ⟨[oM 5 0 t1 p1 e1]⟩ false) (.block 0 (.seq (Code.region i2 ⟨[⟨some 7,.binOp .eql T3 (.tmp 5) (.const (.int .i64 0)) T3,t2,p2,e2,none⟩,
    oT 6 7 t3 p3 e3]⟩ false) (.cond (.tmp 6) (.seq (Code.region i3 ⟨[oM 8 1 t4 p4 e4,⟨some 9,.binOp .and T2 (.tmp 8) (.const (.int .i64 1)) T2,t5,p5,e5,none⟩,
    oT 4 9 t6 p6 e6]⟩ false) .ret) (.seq (Code.region i4 ⟨[⟨some 11,.binOp .eql T3 (.tmp 5) (.const (.int .i64 1)) T3,t7,p7,e7,none⟩,
    oT 10 11 t8 p8 e8]⟩ false) (.cond (.tmp 10) (.seq (Code.region i5 ⟨[oM 12 1 t9 p9 e9,⟨some 13,.convert T2 T84 (.tmp 12),t10,p10,e10,none⟩,⟨some 14,.convert T84 T2 (.tmp 13),t11,p11,e11,none⟩,
    oT 4 14 t12 p12 e12]⟩ false) .ret) (.seq (Code.region i6 ⟨[⟨some 16,.binOp .eql T3 (.tmp 5) (.const (.int .i64 2)) T3,t13,p13,e13,none⟩,
    oT 15 16 t14 p14 e14]⟩ false) (.cond (.tmp 15) (.seq (Code.region i7 ⟨[oM 17 1 t15 p15 e15,⟨some 18,.convert T2 T47 (.tmp 17),t16,p16,e16,none⟩,⟨some 19,.convert T47 T2 (.tmp 18),t17,p17,e17,none⟩,
    oT 4 19 t18 p18 e18]⟩ false) .ret) (.seq (Code.region i8 ⟨[⟨some 21,.binOp .eql T3 (.tmp 5) (.const (.int .i64 3)) T3,t19,p19,e19,none⟩,
    oT 20 21 t20 p20 e20]⟩ false) (.cond (.tmp 20) (.seq (Code.region i9 ⟨[oM 22 1 t21 p21 e21,⟨some 23,.convert T2 T21 (.tmp 22),t22,p22,e22,none⟩,⟨some 24,.convert T21 T2 (.tmp 23),t23,p23,e23,none⟩,
    oT 4 24 t24 p24 e24]⟩ false) .ret) (.seq (Code.region i10 ⟨[⟨some 26,.binOp .eql T3 (.tmp 5) (.const (.int .i64 5)) T3,t25,p25,e25,none⟩,
    oT 25 26 t26 p26 e26]⟩ false) (.cond (.tmp 25) (.seq (Code.region i11 ⟨[oM 27 1 t27 p27 e27,⟨some 28,.convert T2 T104 (.tmp 27),t28,p28,e28,none⟩,⟨some 29,.convert T104 T2 (.tmp 28),t29,p29,e29,none⟩,
    oT 4 29 t30 p30 e30]⟩ false) .ret) .skip)))))))))))) (.seq (Code.region i12 ⟨[oM 30 1 t31 p31 e31,
    oT 4 30 t32 p32 e32]⟩ false) .ret))))
    (hT2_i64:intOf P T2 .i64=true) (hT84_i8:intOf P T84 .i8=true) (hT47_i16:intOf P T47 .i16=true) (hT21_i32:intOf P T21 .i32=true) (hT104_u16:intOf P T104 .u16=true) :NumM P f:=by
  refine ⟨enters_of hf hname hbody,?_⟩;intro w kind n;refine calls_of_wp hf hbody ?_;generalize ha0:({ tmps:=#[Value.int .i64 kind,Value.int .i64 n]++Array.replicate (fn.ntmps - (#[Value.int .i64 kind,Value.int .i64 n]:Array Value).size) undef,defers:=[] }:Act)=a0;have hz0:a0.tmps.size=31:=by subst ha0;simp[hN]
  have hd0:a0.defers=[]:=by subst ha0;rfl
  have g0_0:get a0 0 = .int .i64 kind:=by subst ha0;exact gAr rfl
  have g0_1:get a0 1 = .int .i64 n:=by subst ha0;exact gAr rfl
  refine wT fun K1 hK1=>?_;refine wC (wAs (v:=.int .i64 0) rfl ?_);refine wEk hz0 hd0 fun a2 ha2 hz2 hd2=>?_;have g2_0:=kP ha2 g0_0;have g2_1:=kP ha2 g0_1;refine hK1 a2 w (tUp ?_);refine tId (wp_seq_k fun K3 hK3=>?_);refine wS fun K4 hK4=>?_;refine wC (wMv (v:=.int .i64 kind) (eK g2_0) ?_);refine wEk hz2 hd2 fun a5 ha5 hz5 hd5=>?_;have g5_1:=kP ha5 g2_1;have g5_5:get a5 5 = .int .i64 kind:=kG ha5 hz2;refine hK4 a5 w ?_;refine wp_blockT ?_;refine wS fun K6 hK6=>?_;refine wC (wp_eql (k1:=.i64) (i:=kind) (j:=0) (eK g5_5) rfl ?_);refine wC (wAs (v:=.bool ((kind:Int)==(0:Int))) (eS hz5) ?_);refine wEk hz5 hd5 fun a7 ha7 hz7 hd7=>?_;have g7_1:=kP ha7 g5_1;have g7_5:=kP ha7 g5_5;have g7_6:get a7 6 = .bool ((kind:Int)==(0:Int)):=kG ha7 hz5;refine hK6 a7 w ?_;refine wp_cond_split (t:=((kind:Int)==(0:Int))) (eK g7_6) (fun hc8=>?_) (fun hc8=>?_)
  · refine wp_seq_k fun K9 hK9=>?_;refine wp_reg ?_;refine wC (wMv (v:=.int .i64 n) (eK g7_1) ?_);refine wC (wp_band (k1:=.i64) (i:=n) (j:=1) (eS hz7) rfl ?_);rw[band1];refine wC (wAs (v:=.int .i64 (n % 2)) (eS hz7) ?_);refine wEk hz7 hd7 fun a10 ha10 hz10 hd10=>?_;have g10_4:get a10 4 = .int .i64 (n % 2):=kG ha10 hz7;refine hK9 a10 w ?_;refine wp_ret ?_;exact ⟨hd10,.int .i64 (n % 2),by rw[← g10_4];exact results_one hres,by first | (exfalso;simp_all;done) | (simp_all [numW]),rfl⟩
  refine wp_seq_k fun K11 hK11=>?_;refine wp_reg ?_;refine wC (wp_eql (k1:=.i64) (i:=kind) (j:=1) (eK g7_5) rfl ?_);refine wC (wAs (v:=.bool ((kind:Int)==(1:Int))) (eS hz7) ?_);refine wEk hz7 hd7 fun a12 ha12 hz12 hd12=>?_;have g12_1:=kP ha12 g7_1;have g12_5:=kP ha12 g7_5;have g12_10:get a12 10 = .bool ((kind:Int)==(1:Int)):=kG ha12 hz7;refine hK11 a12 w ?_;refine wp_cond_split (t:=((kind:Int)==(1:Int))) (eK g12_10) (fun hc13=>?_) (fun hc13=>?_)
  · refine wp_seq_k fun K14 hK14=>?_;refine wp_reg ?_;refine wC (wMv (v:=.int .i64 n) (eK g12_1) ?_);refine wC (wCv (k1:=.i64) (i:=n) hT2_i64 hT84_i8 (eS hz12) ?_);refine wC (wCv (k1:=.i8) (i:=IntKind.i8.wrap (n:Int)) hT84_i8 hT2_i64 (eS hz12) ?_);rw[show (IntKind.i64.wrap (IntKind.i8.wrap (n:Int):Int))=(IntKind.i8.wrap (n:Int):Int) from wrap64_i8 n];refine wC (wAs (v:=.int .i64 (IntKind.i8.wrap (n:Int))) (eS hz12) ?_);refine wEk hz12 hd12 fun a15 ha15 hz15 hd15=>?_;have g15_4:get a15 4 = .int .i64 (IntKind.i8.wrap (n:Int)):=kG ha15 hz12;refine hK14 a15 w ?_;refine wp_ret ?_;exact ⟨hd15,.int .i64 (IntKind.i8.wrap (n:Int)),by rw[← g15_4];exact results_one hres,by first | (exfalso;simp_all;done) | (simp_all [numW]),rfl⟩
  refine wp_seq_k fun K16 hK16=>?_;refine wp_reg ?_;refine wC (wp_eql (k1:=.i64) (i:=kind) (j:=2) (eK g12_5) rfl ?_);refine wC (wAs (v:=.bool ((kind:Int)==(2:Int))) (eS hz12) ?_);refine wEk hz12 hd12 fun a17 ha17 hz17 hd17=>?_;have g17_1:=kP ha17 g12_1;have g17_5:=kP ha17 g12_5;have g17_15:get a17 15 = .bool ((kind:Int)==(2:Int)):=kG ha17 hz12;refine hK16 a17 w ?_;refine wp_cond_split (t:=((kind:Int)==(2:Int))) (eK g17_15) (fun hc18=>?_) (fun hc18=>?_)
  · refine wp_seq_k fun K19 hK19=>?_;refine wp_reg ?_;refine wC (wMv (v:=.int .i64 n) (eK g17_1) ?_);refine wC (wCv (k1:=.i64) (i:=n) hT2_i64 hT47_i16 (eS hz17) ?_);refine wC (wCv (k1:=.i16) (i:=IntKind.i16.wrap (n:Int)) hT47_i16 hT2_i64 (eS hz17) ?_);rw[show (IntKind.i64.wrap (IntKind.i16.wrap (n:Int):Int))=(IntKind.i16.wrap (n:Int):Int) from wrap64_i16 n];refine wC (wAs (v:=.int .i64 (IntKind.i16.wrap (n:Int))) (eS hz17) ?_);refine wEk hz17 hd17 fun a20 ha20 hz20 hd20=>?_;have g20_4:get a20 4 = .int .i64 (IntKind.i16.wrap (n:Int)):=kG ha20 hz17;refine hK19 a20 w ?_;refine wp_ret ?_;exact ⟨hd20,.int .i64 (IntKind.i16.wrap (n:Int)),by rw[← g20_4];exact results_one hres,by first | (exfalso;simp_all;done) | (simp_all [numW]),rfl⟩
  refine wp_seq_k fun K21 hK21=>?_;refine wp_reg ?_;refine wC (wp_eql (k1:=.i64) (i:=kind) (j:=3) (eK g17_5) rfl ?_);refine wC (wAs (v:=.bool ((kind:Int)==(3:Int))) (eS hz17) ?_);refine wEk hz17 hd17 fun a22 ha22 hz22 hd22=>?_;have g22_1:=kP ha22 g17_1;have g22_5:=kP ha22 g17_5;have g22_20:get a22 20 = .bool ((kind:Int)==(3:Int)):=kG ha22 hz17;refine hK21 a22 w ?_;refine wp_cond_split (t:=((kind:Int)==(3:Int))) (eK g22_20) (fun hc23=>?_) (fun hc23=>?_)
  · refine wp_seq_k fun K24 hK24=>?_;refine wp_reg ?_;refine wC (wMv (v:=.int .i64 n) (eK g22_1) ?_);refine wC (wCv (k1:=.i64) (i:=n) hT2_i64 hT21_i32 (eS hz22) ?_);refine wC (wCv (k1:=.i32) (i:=IntKind.i32.wrap (n:Int)) hT21_i32 hT2_i64 (eS hz22) ?_);rw[show (IntKind.i64.wrap (IntKind.i32.wrap (n:Int):Int))=(IntKind.i32.wrap (n:Int):Int) from wrap64_i32 n];refine wC (wAs (v:=.int .i64 (IntKind.i32.wrap (n:Int))) (eS hz22) ?_);refine wEk hz22 hd22 fun a25 ha25 hz25 hd25=>?_;have g25_4:get a25 4 = .int .i64 (IntKind.i32.wrap (n:Int)):=kG ha25 hz22;refine hK24 a25 w ?_;refine wp_ret ?_;exact ⟨hd25,.int .i64 (IntKind.i32.wrap (n:Int)),by rw[← g25_4];exact results_one hres,by first | (exfalso;simp_all;done) | (simp_all [numW]),rfl⟩
  refine wp_seq_k fun K26 hK26=>?_;refine wp_reg ?_;refine wC (wp_eql (k1:=.i64) (i:=kind) (j:=5) (eK g22_5) rfl ?_);refine wC (wAs (v:=.bool ((kind:Int)==(5:Int))) (eS hz22) ?_);refine wEk hz22 hd22 fun a27 ha27 hz27 hd27=>?_;have g27_1:=kP ha27 g22_1;have g27_25:get a27 25 = .bool ((kind:Int)==(5:Int)):=kG ha27 hz22;refine hK26 a27 w ?_;refine wp_cond_split (t:=((kind:Int)==(5:Int))) (eK g27_25) (fun hc28=>?_) (fun hc28=>?_)
  · refine wp_seq_k fun K29 hK29=>?_;refine wp_reg ?_;refine wC (wMv (v:=.int .i64 n) (eK g27_1) ?_);refine wC (wCv (k1:=.i64) (i:=n) hT2_i64 hT104_u16 (eS hz27) ?_);refine wC (wCv (k1:=.u16) (i:=IntKind.u16.wrap (n:Int)) hT104_u16 hT2_i64 (eS hz27) ?_);rw[show (IntKind.i64.wrap (IntKind.u16.wrap (n:Int):Int))=(IntKind.u16.wrap (n:Int):Int) from wrap64_u16 n];refine wC (wAs (v:=.int .i64 (IntKind.u16.wrap (n:Int))) (eS hz27) ?_);refine wEk hz27 hd27 fun a30 ha30 hz30 hd30=>?_;have g30_4:get a30 4 = .int .i64 (IntKind.u16.wrap (n:Int)):=kG ha30 hz27;refine hK29 a30 w ?_;refine wp_ret ?_;exact ⟨hd30,.int .i64 (IntKind.u16.wrap (n:Int)),by rw[← g30_4];exact results_one hres,by first | (exfalso;simp_all;done) | (simp_all [numW]),rfl⟩
  refine wp_skip ?_;refine hK3 a27 w (tUp ?_);refine wT fun K31 hK31=>?_;refine wC (wMv (v:=.int .i64 n) (eK g27_1) ?_);refine wC (wAs (v:=.int .i64 n) (eS hz27) ?_);refine wEk hz27 hd27 fun a32 ha32 hz32 hd32=>?_;have g32_4:get a32 4 = .int .i64 n:=kG ha32 hz27;refine hK31 a32 w (tUp ?_);refine wp_ret ?_;exact ⟨hd32,.int .i64 n,by rw[← g32_4];exact results_one hres,by first | (exfalso;simp_all;done) | (simp_all [numW]),rfl⟩
end Go.Kq

namespace Go.Kq
open Go Go.Proofs
section
variable {P:Program} {a:Act} {w:World} {K:Act→World→Prop} {Q:Exit→Act→World→Prop} {d:Option Tmp} {t:TypeId} {p:String} {af:Array Edge} {g:Option (Nat × Bool)} {s u:TypeId} {x y:Operand} {k1:IntKind} {i j:Int}
theorem wp_neqF (h:i=j) (hx:a.eval x = .int k1 i) (hy:a.eval y = .int k1 j) (k:K (a.put d (.bool false)) w):OW P ⟨d,.binOp .neq s x y u,t,p,af,g⟩ a w K Q:=wp_neq hx hy (by rw[show (i != j)=false from by simp[h]];exact k)
end
end Go.Kq

namespace Go.Kq
open Go Go.Proofs
structure LawT (P:Program) (ge:Nat) (f:FuncId) (small:T→Prop):Prop where
  enters:Enters P f
  call:∀ (w:World) (n:Nat) (B:Nat→Prop) (ct:List Value) (t:T) (er:Value) (ty:TypeId) (u:Value),n < 256→RepT w B ct t→(∀ b,B b→b < w.heap.size) →
    w.cell? ⟨ge,0,none⟩=some er→er = .iface ty u→small t→Calls P f #[.int .u8 (n:Int),.agg ct.toArray] w fun e w'=>e = .returned (.bool true)∧Fr [] w w'
end Go.Kq

namespace Go.Kq
open Go Go.Proofs Go.ChangeShapes Go.WideShapes Go.RowKit
theorem cell_in {w:World} {a:Addr} {v:Value} (h:w.cell? a=some v):a.spot=none∧a.block < w.heap.size:=by
  unfold World.cell? at h
  split at h
  · rename_i c e f hb
    refine ⟨?_,lt_of_block hb⟩
    cases hs:a.spot with
    | none=>rfl
    | some x=>simp[hs] at h
  simp at h
theorem cells_in {w:World} {base:Nat} {a:Addr} {n:Nat} {cs:List Value} (h:w.cells? base a n=some cs) (hn:0 < n):a.spot=none∧a.block < w.heap.size:=by
  obtain ⟨_,h1,h2⟩:=World.cells?_some h;have h3:=h2 0 hn;have h4:∃ v,cs[0]?=some v:=⟨cs[0]'(by omega),by simp⟩;obtain ⟨v,hv⟩:=h4;rw[hv] at h3;exact cell_in (a:=a.add 0) h3
structure Bulk {H:Type} (bk:DataW H→Nat) (bks:List (DataW H)→Nat):Prop where
  lit:∀ l,1≤bk (.lit l)
  nil:1≤bk .nil
  sl:∀ es ss,bk (.slice es ss)=bks es+bks ss+1
  agg:∀ ps,bk (.agg ps)=bks ps+1
  n:bks []=0
  c:∀ d r,bks (d::r)=bk d+bks r
theorem Bulk.lits {H:Type} {bk:DataW H→Nat} {bks:List (DataW H)→Nat} (h:Bulk bk bks) (k:IntKind):∀ zs:List Int,zs.length≤bks (lits k zs)
  | []=>by simp[ChangeShapes.lits,h.n]
  | z :: zs => by
    have h1:=Bulk.lits h k zs;have h2:=h.lit (.int k z);simp only[ChangeShapes.lits,List.map_cons,h.c,List.length_cons] at h1 ⊢;omega
section
variable {H:Type} {enc:TypeId × Value→H} {P:Program} {bk:DataW H→Nat} {bks:List (DataW H)→Nat}
theorem oct_of_trod {W:World} {t e:TypeId} {fuel:Nat} {cs:List Value} {x:DataW H × List MemPlace} (hbk:Bulk bk bks) (ht:P.underlying t=some (.slice e)) (he:P.underlying e=some (.int .u8)) (hc:P.cellsOf e=1)
    (h:DataW.trod enc P W 0 (fun _=>true) true fuel t cs=some x) (hb:bk x.1≤4294967296):∃ v xs,cs=[v]∧OctE W (fun b=>b < W.heap.size) v xs∧xs.length+1≤bk x.1:=by
  rcases open_ints ht he hc h with ⟨rfl,rfl⟩ | ⟨a,len,cap,zs,rfl,_,hl,hm,hz,rfl,hcell,hwz⟩
  · exact ⟨_,[],rfl,.nil,by simpa using hbk.nil⟩
  simp only[if_true] at hz
  by_cases hc0:cap=0
  · subst hc0;obtain rfl : len = 0 := by omega
    exact ⟨_,[],rfl,.inr ⟨⟨a,rfl⟩,rfl⟩,by simp only[hbk.sl,List.length_nil];omega⟩
  obtain ⟨hsp,hbl⟩:a.spot=none∧a.block < W.heap.size:=cell_in (a:=a.add 0) (hcell 0 (by omega));obtain ⟨b,o,spot⟩:=a;simp only at hsp hbl;subst hsp;have hr:=octs_of_ints (b:=b) (o:=o) zs (fun i hi=>by have:=hcell i hi;rwa [Addr.add_lit] at this) hwz;have h1:=hbk.lits .u8 (zs.take len);have h2:=hbk.sl (lits .u8 (zs.take len)) (lits .u8 (zs.drop len));have hlen:(zs.take len).length=len:=by simp;omega
  simp only[h2] at hb;refine ⟨_,(zs.take len).map fun z=>UInt8.ofNat z.toNat,rfl,.inl ⟨some _,.inr ⟨b,o,cap,_,hbl,?_,⟨?_,?_⟩,?_,rfl⟩,rfl⟩,?_⟩
  · rw[List.length_map,hlen]
  · rw[List.length_map,hlen];exact hl
  · rw[List.length_map];omega
  · have := range_part hr 0 len
    simpa [octets_take,octets_drop,List.map_take] using this
  rw[List.length_map,h2];omega
theorem bks_get (hbk:Bulk bk bks):∀ {l:List (DataW H)} {i:Nat} {d:DataW H},l[i]?=some d→bk d≤bks l
  | [],_,_,h=>by simp at h
  | e::l,0,d,h=>by simp at h;subst h;rw[hbk.c];omega
  | e::l,i+1,d,h=>by have:=bks_get hbk (l:=l) (i:=i) (by simpa using h);rw[hbk.c];omega
theorem elems_of_trod {W:World} {t e:TypeId} {fuel:Nat} {v:Value} {x:DataW H × List MemPlace} (hbk:Bulk bk bks) (ht:P.underlying t=some (.slice e))
    (hpos:0 < P.cellsOf e) (h:DataW.trod enc P W 0 (fun _=>true) true fuel t [v]=some x) :
    ((v = .slice none 0 0∨Void v)∧1≤bk x.1)∨∃ b o len cap n,∃ ds:List (DataW H × List MemPlace),fuel=n+1∧v = .slice (some ⟨b,o,none⟩) len cap∧b < W.heap.size∧len≤cap∧ds.length=len∧bks (ds.map (·.1))+1≤bk x.1 ∧
      ∀ i,i < len→∃ es d,W.rangeAt b (o+i * P.cellsOf e) es∧es.length=P.cellsOf e∧ds[i]?=some d∧DataW.trod enc P W 0 (fun _=>true) true n e es=some d:=by
  rcases DataW.trod_slice ht h with ⟨h1,rfl⟩ | ⟨a,len,cap,elems,rest,n,rfl,hv,rfl,hb,hl,hm,hlen,hel,hsr,_⟩
  · left;simp at h1;exact ⟨.inl h1,hbk.nil⟩
  simp at hv;subst hv
  by_cases hc0:cap=0
  · subst hc0;obtain rfl : len = 0 := by omega
    exact .inl ⟨.inr ⟨a,rfl⟩,by simp only[hbk.sl];omega⟩
  right
  obtain ⟨hsp,hbl⟩:a.spot=none∧a.block < W.heap.size:=by
    by_cases hl0:len=0
    · obtain ⟨h1,h2⟩:=hsr rfl;have h3:=h2 0 (by omega);have h4:∃ y,rest[0]?=some y:=⟨rest[0]'(by omega),by simp⟩;obtain ⟨y,hy⟩:=h4;rw[hy,Option.bind_eq_some_iff] at h3;obtain ⟨es,h5,_⟩:=h3;exact cells_in (a:=a) (by simpa [hl0,Addr.add] using h5) hpos
    have h3:=hel 0 (by omega);have h4:∃ y,elems[0]?=some y:=⟨elems[0]'(by omega),by simp⟩;obtain ⟨y,hy⟩:=h4;rw[hy,Option.bind_eq_some_iff] at h3;obtain ⟨es,h5,_⟩:=h3;exact cells_in (a:=a) (by simpa [Addr.add] using h5) hpos
  obtain ⟨b,o,spot⟩:=a;simp only at hsp hbl;subst hsp;refine ⟨b,o,len,cap,n,elems,rfl,rfl,hbl,hl,hlen,by rw[hbk.sl];omega,fun i hi=>?_⟩;have h2:=hel i hi;have hge:elems[i]?=some elems[i]:=by simp[hlen,hi]
  rw[hge,Option.bind_eq_some_iff] at h2;obtain ⟨es,h3,h4⟩:=h2;obtain ⟨_,h5,h6⟩:=World.cells?_some h3;refine ⟨es,elems[i],fun j u hj=>?_,h5,hge,h4⟩;have hjl:=(List.getElem?_eq_some_iff.1 hj).1;have:=h6 j (by omega);rw[Addr.add_mid,Addr.add_mid] at this;rw[this];exact hj
theorem list_of {α:Type}:∀ {len:Nat} {R:Nat→α→Prop},(∀ i,i < len→∃ y,R i y)→∃ l:List α,l.length=len∧∀ i y,l[i]?=some y→R i y
  | 0,R,_=>⟨[],rfl,by simp⟩
  | n + 1, R, h => by
    obtain ⟨y,hy⟩:=h 0 (by omega);obtain ⟨l,h1,h2⟩:=list_of (len:=n) (R:=fun i y=>R (i+1) y) fun i hi=>h (i+1) (by omega);refine ⟨y::l,by simp[h1],fun i z hz=>?_⟩
    cases i with
    | zero=>simp at hz;subst hz;exact hy
    | succ i=>exact h2 i z (by simpa using hz)
theorem sum_le (hbk:Bulk bk bks) {α:Type} {f:α→Nat}:∀ {l:List α} {ds:List (DataW H × List MemPlace)},l.length=ds.length→(∀ (i:Nat) (y:α) (d:DataW H × List MemPlace),l[i]?=some y→ds[i]?=some d→f y≤bk d.1)→(l.map f).sum≤bks (ds.map (·.1))
  | [],[],_,_=>by simp[hbk.n]
  | [],_::_,h,_=>by simp at h
  | _::_,[],h,_=>by simp at h
  | y :: l, d :: ds, h, hl => by
    have h1:=hl 0 y d rfl rfl;have h2:=sum_le hbk (l:=l) (ds:=ds) (by simpa using h) fun i y d hy hd=>hl (i+1) y d (by simpa using hy) (by simpa using hd);simp only[List.map_cons,List.sum_cons,hbk.c];omega
def tagWt (u:List (Nat × List UInt8)):Nat:=(u.map fun p=>p.2.length+1).sum
theorem tags_of_trod {W:World} {t e t32 tS e8:TypeId} {fs:Array Field} {fuel:Nat} {v:Value} {x:DataW H × List MemPlace} (hbk:Bulk bk bks) (ht:P.underlying t=some (.slice e)) (he:P.underlying e=some (.struct fs)) (hc:P.cellsOf e=2)
    (hf0:fs[0]?.map (fun f=>(f.type,f.offset))=some (t32,0)) (hf1:fs[1]?.map (fun f=>(f.type,f.offset))=some (tS,1)) (hc0:P.cellsOf t32=1) (hc1:P.cellsOf tS=1) (h32:P.underlying t32=some (.int .u32))
    (hS:P.underlying tS=some (.slice e8)) (h8:P.underlying e8=some (.int .u8)) (hc8:P.cellsOf e8=1)
    (h:DataW.trod enc P W 0 (fun _=>true) true fuel t [v]=some x) (hb:bk x.1≤4294967296):∃ u,TagsR W (fun b=>b < W.heap.size) v u∧tagWt u+1≤bk x.1∧∀ p ∈ u,p.1 < 4294967296:=by
  rcases elems_of_trod hbk ht (by omega) h with ⟨hv0,h1⟩ | ⟨b,o,len,cap,n,ds,rfl,rfl,hbl,hl,hdl,hbd,hel⟩
  · exact ⟨[],.inl ⟨hv0,rfl⟩,by simpa [tagWt] using h1,by simp⟩
  have each:∀ i,i < len→∃ y:Nat × List UInt8,y.1 < 4294967296∧(∃ xv,W.rangeAt b (o+i * 2) [.int .u32 y.1,xv]∧OctE W (fun b=>b < W.heap.size) xv y.2)∧∀ d,ds[i]?=some d→y.2.length+1≤bk d.1:=by
    intro i hi;obtain ⟨es,d,hr,hle,hd,htr⟩:=hel i hi;rw[hc] at hr hle
    match es,hle with
    | [c0, c1], _ =>
      obtain ⟨xs,m,rfl,rfl,_,hxl,hxs⟩:=DataW.trod_struct he htr;obtain ⟨f0,hf0',e0⟩:=Option.map_eq_some_iff.1 hf0;obtain ⟨f1,hf1',e1⟩:=Option.map_eq_some_iff.1 hf1;simp only[Prod.mk.injEq] at e0 e1;have q0:=hxs 0 f0 hf0';have q1:=hxs 1 f1 hf1';rw[e0.1,e0.2,hc0] at q0;rw[e1.1,e1.2,hc1] at q1;simp only[List.drop_zero,List.take_succ_cons,List.take_zero,List.drop_succ_cons] at q0 q1;have hn0:∃ y0,xs[0]?=some y0:=by
        have:=(Array.getElem?_eq_some_iff.1 hf0').1;exact ⟨xs[0]'(by omega),by simp⟩
      have hn1:∃ y1,xs[1]?=some y1:=by
        have:=(Array.getElem?_eq_some_iff.1 hf1').1;exact ⟨xs[1]'(by omega),by simp⟩
      obtain ⟨y0,hy0⟩:=hn0;obtain ⟨y1,hy1⟩:=hn1;rw[hy0] at q0;rw[hy1] at q1;obtain ⟨k,hk,_,hw⟩:=DataW.trod_int h32 q0;simp at hk;subst hk
      have hdb:bk (DataW.agg (xs.map (·.1)))≤4294967296:=by
        have h5:=bks_get hbk (l:=ds.map (·.1)) (i:=i) (d:=DataW.agg (xs.map (·.1))) (by rw[List.getElem?_map,hd];rfl);omega
      have hy1b:bk y1.1+1≤bk (DataW.agg (xs.map (·.1))):=by
        rw[hbk.agg];have:=bks_get hbk (l:=xs.map (·.1)) (i:=1) (d:=y1.1) (by rw[List.getElem?_map,hy1];rfl);omega
      rw[range_cons,range_one] at hr;obtain ⟨v1,xs1,hv1,ho,hl1⟩:=oct_of_trod hbk hS h8 hc8 q1 (by omega);simp at hv1;subst hv1
      have hk0:0≤k∧k < 4294967296:=by
        simp[Lit.wf,IntKind.min,IntKind.max,IntKind.signed,IntKind.bits] at hw;omega
      obtain ⟨k',rfl⟩:=Int.eq_ofNat_of_zero_le hk0.1;refine ⟨(k',xs1),by simp only;omega,⟨c1,by rw[range_cons,range_one];exact hr,ho⟩,?_⟩;intro d' hd';rw[hd] at hd'
      cases hd'
      simp only;omega
  obtain ⟨u,hu1,hu2⟩:=list_of each;have hsum:=sum_le hbk (f:=fun p:Nat × List UInt8=>p.2.length+1) (l:=u) (ds:=ds) (by omega) fun i y d hy hd=>(hu2 i y hy).2.2 d hd;have hlen:u.length≤(u.map fun p=>p.2.length+1).sum:=by
    clear hu1 hu2 hsum
    induction u with
    | nil=>simp
    | cons p u ih=>simp only[List.map_cons,List.sum_cons,List.length_cons];omega
  refine ⟨u,.inr ⟨b,o,cap,hbl,by rw[hu1],⟨by omega,by omega⟩,fun i k xx hi=>?_⟩,by simp only[tagWt];omega,?_⟩
  · obtain ⟨g1,⟨xv,g2,g3⟩,_⟩:=hu2 i _ hi;exact ⟨xv,g1,g2,g3⟩
  intro p hp;obtain ⟨i,hi⟩:=List.getElem?_of_mem hp;exact (hu2 i p hi).1
end
mutual
/-- How much a tree weighs. -/
def tw:T→Nat
  | .mk _ s _ l u=>1+s.length+tws l+tagWt u
def tws:List T→Nat
  | []=>0
  | t::r=>tw t+tws r
end
theorem tws_sum:∀ l:List T,tws l=(l.map tw).sum
  | []=>rfl
  | t::r=>by rw[tws,tws_sum r];simp
inductive KeysOk:T→Prop where
  | mk {n:Int} {s:List UInt8} {nl:Bool} {l:List T} {u:List (Nat × List UInt8)} (hu:∀ p ∈ u,p.1 < 4294967296) (hl:∀ y ∈ l,KeysOk y):KeysOk (.mk n s nl l u)
structure TIds (P:Program) (TT TL tN tS tB tU tG t32 t8:TypeId) (fs gs:Array Field):Prop where
  tt:P.underlying TT=some (.struct fs)
  c5:P.cellsOf TT=5
  sz:fs.size=5
  f0:fs[0]?.map (fun f=>(f.type,f.offset))=some (tN,0)
  f1:fs[1]?.map (fun f=>(f.type,f.offset))=some (tS,1)
  f2:fs[2]?.map (fun f=>(f.type,f.offset))=some (tB,2)
  f3:fs[3]?.map (fun f=>(f.type,f.offset))=some (TL,3)
  f4:fs[4]?.map (fun f=>(f.type,f.offset))=some (tU,4)
  cN:P.cellsOf tN=1
  cS:P.cellsOf tS=1
  cB:P.cellsOf tB=1
  cL:P.cellsOf TL=1
  cU:P.cellsOf tU=1
  n:P.underlying tN=some (.int .i64)
  s:P.underlying tS=some (.slice t8)
  b:P.underlying tB=some .bool
  l:P.underlying TL=some (.slice TT)
  u:P.underlying tU=some (.slice tG)
  u8:P.underlying t8=some (.int .u8)
  c8:P.cellsOf t8=1
  g:P.underlying tG=some (.struct gs)
  cG:P.cellsOf tG=2
  g0:gs[0]?.map (fun f=>(f.type,f.offset))=some (t32,0)
  g1:gs[1]?.map (fun f=>(f.type,f.offset))=some (tS,1)
  c32:P.cellsOf t32=1
  u32:P.underlying t32=some (.int .u32)
section
variable {H:Type} {enc:TypeId × Value→H} {P:Program} {bk:DataW H→Nat} {bks:List (DataW H)→Nat}
theorem fld_of {fs:Array Field} {cs:List Value} {xs:List (DataW H × List MemPlace)} {W:World} {m i o:Nat} {t:TypeId} (h:fs[i]?.map (fun f=>(f.type,f.offset))=some (t,o)) (hc:P.cellsOf t=1) (hl:xs.length=fs.size)
    (hxs:∀ (i:Nat) (f:Field),fs[i]?=some f→DataW.trod enc P W 0 (fun _=>true) true m f.type ((cs.drop f.offset).take (P.cellsOf f.type))=xs[i]?):∃ y,xs[i]?=some y∧DataW.trod enc P W 0 (fun _=>true) true m t ((cs.drop o).take 1)=some y:=by
  obtain ⟨f,hf,e⟩:=Option.map_eq_some_iff.1 h;simp only[Prod.mk.injEq] at e;have q:=hxs i f hf;rw[e.1,e.2,hc] at q;have:=(Array.getElem?_eq_some_iff.1 hf).1;exact ⟨xs[i]'(by omega),by simp,by rw[q];simp⟩
theorem tree_of_trod {TT TL tN tS tB tU tG t32 t8:TypeId} {fs gs:Array Field} {W:World} (hbk:Bulk bk bks) (I:TIds P TT TL tN tS tB tU tG t32 t8 fs gs) :
    ∀ (fuel:Nat) (cs:List Value) (x:DataW H × List MemPlace),DataW.trod enc P W 0 (fun _=>true) true fuel TT cs=some x→bk x.1≤4294967296→∃ t,RepT W (fun b=>b < W.heap.size) cs t∧tw t≤bk x.1∧KeysOk t:=by
  intro fuel
  induction fuel using Nat.strongRecOn with
  | _ fuel ih =>
    intro cs x h hb;obtain ⟨xs,m,rfl,rfl,hcl,hxl,hxs⟩:=DataW.trod_struct I.tt h;rw[I.c5] at hcl
    match cs,hcl with
    | [c0, c1, c2, c3, c4], _ =>
      obtain ⟨y0,hy0,q0⟩:=fld_of (P:=P) I.f0 I.cN hxl hxs;obtain ⟨y1,hy1,q1⟩:=fld_of (P:=P) I.f1 I.cS hxl hxs;obtain ⟨y2,hy2,q2⟩:=fld_of (P:=P) I.f2 I.cB hxl hxs;obtain ⟨y3,hy3,q3⟩:=fld_of (P:=P) I.f3 I.cL hxl hxs;obtain ⟨y4,hy4,q4⟩:=fld_of (P:=P) I.f4 I.cU hxl hxs;simp only[List.drop_zero,List.take_succ_cons,List.take_zero,List.drop_succ_cons] at q0 q1 q2 q3 q4;rw[I.sz] at hxl;have hxe:xs=[y0,y1,y2,y3,y4]:=by
        match xs,hxl with
        | [a0,a1,a2,a3,a4],_=>simp at hy0 hy1 hy2 hy3 hy4;simp[hy0,hy1,hy2,hy3,hy4]
      subst hxe;simp only[List.map_cons,List.map_nil,hbk.agg,hbk.c,hbk.n] at hb ⊢;obtain ⟨n,hn,_,hwn⟩:=DataW.trod_int I.n q0;simp at hn;subst hn
      obtain ⟨nl,hnl,_⟩:=DataW.trod_bool I.b q2;simp at hnl;subst hnl
      obtain ⟨v1,s,hv1,ho,hsl⟩:=oct_of_trod hbk I.s I.u8 I.c8 q1 (by omega);simp at hv1;subst hv1
      obtain ⟨u,hu,huw,huk⟩:=tags_of_trod hbk I.u I.g I.cG I.g0 I.g1 I.c32 I.cS I.u32 I.s I.u8 I.c8 q4 (by omega);have hn64 : -9223372036854775808≤n∧n≤9223372036854775807:=by
        simpa [Lit.wf,IntKind.min,IntKind.max,IntKind.signed,IntKind.bits] using hwn
      have hL:∃ l,Things W (fun b=>b < W.heap.size) c3 l∧tws l+1≤bk y3.1∧∀ y ∈ l,KeysOk y:=by
        rcases elems_of_trod hbk I.l (by rw[I.c5];omega) q3 with ⟨hv0,h1⟩ | ⟨b,o,len,cap,k,ds,rfl,rfl,hbl,hl,hdl,hbd,hel⟩
        · exact ⟨[],.inl ⟨hv0,rfl⟩,by simpa [tws] using h1,by simp⟩
        have each:∀ i,i < len→∃ t,(RepT W (fun b=>b < W.heap.size) (cellsAt W b (o+i * 5) 5) t∧W.rangeAt b (o+i * 5) (cellsAt W b (o+i * 5) 5))∧(∀ d,ds[i]?=some d→tw t≤bk d.1)∧KeysOk t:=by
          intro i hi;obtain ⟨es,d,hr,hle,hd,htr⟩:=hel i hi;rw[I.c5] at hr hle;have hd5:=bks_get hbk (l:=ds.map (·.1)) (i:=i) (d:=d.1) (by rw[List.getElem?_map,hd];rfl);obtain ⟨t,h1,h2,h3⟩:=ih k (by omega) es d htr (by omega);have hce:=range_cellsAt hr;rw[hle] at hce;rw[← hce];exact ⟨t,⟨h1,hr⟩,fun d' hd'=>by rw[hd] at hd';cases hd';exact h2,h3⟩
        obtain ⟨l,hl1,hl2⟩:=list_of each;have hsum:=sum_le hbk (f:=tw) (l:=l) (ds:=ds) (by omega) fun i y d hy hd=>(hl2 i y hy).2.1 d hd;have hlen:l.length≤(l.map tw).sum:=by
          clear hl1 hl2 hsum
          induction l with
          | nil=>simp
          | cons p l ih =>
            have:1≤tw p:=by cases p;rw[tw];omega
            simp only[List.map_cons,List.sum_cons,List.length_cons];omega
        rw[← tws_sum] at hsum hlen;refine ⟨l,.inr ⟨b,o,cap,hbl,by rw[hl1],⟨by omega,by omega⟩,fun i=>cellsAt W b (o+i * 5) 5,fun i y hi=>(hl2 i y hi).1.2,fun i y hi=>(hl2 i y hi).1.1⟩,by omega,fun y hy=>?_⟩;obtain ⟨i,hi⟩:=List.getElem?_of_mem hy;exact (hl2 i y hi).2.2
      obtain ⟨l,hl,hlw,hlk⟩:=hL;refine ⟨.mk n s nl l u,repT_iff.2 ⟨_,_,_,rfl,hn64,ho,hl,hu⟩,?_,.mk huk hlk⟩;rw[tw];omega
end
end Go.Kq

namespace Go.Kq
open Go
theorem u8_mod (n:Nat):(UInt8.ofNat n).toNat=n % 256:=by simp
theorem beNat_f2 (i:Int):((Lib.beNat (fxW i 2):Nat):Int)=i % 65536:=by
  simp only[fxW,be2,u8_mod,Nat.reduceMul,Nat.reducePow];omega
theorem beNat_f4 (i:Int):((Lib.beNat (fxW i 4):Nat):Int)=i % 4294967296:=by
  simp only[fxW,be4,u8_mod,Nat.reduceMul,Nat.reducePow];omega
theorem rdTake_app {k:Nat} {o rest:List UInt8} {nl:Bool} (h:o.length=k):rdTake k ⟨o++rest,nl,false⟩=(some o,⟨rest,nl,false⟩):=by
  subst h;simp[rdTake]
theorem rdNum_app {kd:IntKind} {k:Nat} {i:Int} {rest:List UInt8} {nl:Bool}:rdNum kd k ⟨fxW i k++rest,nl,false⟩=(kd.wrap (Lib.beNat (fxW i k)),⟨rest,nl,false⟩):=by
  simp only[rdNum,rdTake_app (fxL i k)]
theorem rdSpan_app {o rest:List UInt8} {l:Int} {nl:Bool} (h:l=o.length) (hn:nl=true→o++rest=[]):∃ y,rdSpan l ⟨o++rest,nl,false⟩=(y,⟨rest,nl,false⟩)∧y.getD []=o∧(nl=false→y=some o):=by
  subst h
  cases nl with
  | true =>
    have:=hn rfl;simp only[List.append_eq_nil_iff] at this;obtain ⟨rfl,rfl⟩:=this;exact ⟨none,by simp[rdSpan],rfl,by simp⟩
  | false =>
    refine ⟨some o,?_,rfl,fun _=>rfl⟩;have h1:¬ (((o++rest).length:Int) < (o.length:Int)∨(o.length:Int) < 0):=by rw[List.length_append];omega
    simp only[rdSpan,if_neg h1];simp
theorem nl_false {nl:Bool} {o r:List UInt8} (h:nl=true→o++r=[]) (ho:o ≠ []):nl=false:=by
  cases nl with
  | false=>rfl
  | true=>exact absurd (List.append_eq_nil_iff.1 (h rfl)).1 ho
theorem fixedW_ne {i:Int} {k:Nat} (hk:0 < k):fxW i k ≠ []:=by
  intro h;have:=fxL i k;rw[h] at this;simp at this;omega
theorem rd16 {n:Nat} (h:n≤32767) {rest:List UInt8} {nl:Bool}:rdNum .i16 2 ⟨fxW (n:Int) 2++rest,nl,false⟩=((n:Int),⟨rest,nl,false⟩):=by
  rw[rdNum_app,beNat_f2]
  congr 1
  simp[IntKind.wrap,IntKind.signed,IntKind.bits];omega
theorem rd32 {n:Nat} (h:n≤2147483647) {rest:List UInt8} {nl:Bool}:rdNum .i32 4 ⟨fxW (n:Int) 4++rest,nl,false⟩=((n:Int),⟨rest,nl,false⟩):=by
  rw[rdNum_app,beNat_f4]
  congr 1
  simp[IntKind.wrap,IntKind.signed,IntKind.bits];omega
theorem uvGo_uvW:∀ (k n:Nat) (rest:List UInt8),n * 8 < 128 ^ (k+1)→uvGo (k+1) (uvW n++rest)=some (n,(uvW n).length)
  | 0, n, rest, h => by
    have hn:n < 16:=by simp at h;omega
    rw[uvW,if_neg (by omega)];have h1:(UInt8.ofNat n).toNat=n:=by rw[u8_mod];omega
    simp[uvGo,h1]
    omega
  | k + 1, n, rest, h => by
    rw[uvW]
    split
    · rename_i hn
      have h1:(UInt8.ofNat (n % 128+128)).toNat=n % 128+128:=by rw[u8_mod];omega
      have hp:128 ^ (k+1+1)=128 * 128 ^ (k+1):=by rw[Nat.pow_succ];omega
      rw[hp] at h;have ih:=uvGo_uvW k (n / 128) rest (by omega);rw[List.cons_append];simp only[uvGo,h1,ih];simp
      rw[if_neg (by omega)];congr 2;omega
    have h1:(UInt8.ofNat n).toNat=n:=by rw[u8_mod];omega
    simp[uvGo,h1]
    omega
theorem rdUv_app {n:Nat} (h:n < 4294967296) {rest:List UInt8} {nl:Bool}:rdUv ⟨uvW n++rest,nl,false⟩=(n,⟨rest,nl,false⟩):=by
  have h1:uv (uvW n++rest)=some (n,(uvW n).length):=uvGo_uvW 4 n rest (by simp;omega);simp[rdUv,h1]
theorem uvW_ne (n:Nat):uvW n ≠ []:=by
  intro h;have:=uvW_pos n;rw[h] at this;simp at this
theorem uvW_zero:uvW 0=[0]:=by rw[uvW];rfl
theorem flatten_len {os:List (List UInt8)} (h:∀ o ∈ os,1≤o.length):os.length≤os.flatten.length:=by
  induction os with
  | nil=>simp
  | cons o os ih =>
    have h1:=h o (by simp);have h2:=ih fun o ho=>h o (by simp[ho]);simp only[List.flatten_cons,List.length_append,List.length_cons];omega
def LenI (len:RSt→V × RSt) (lo:List UInt8) (n:Nat):Prop:=lo ≠ []∧∀ rest:List UInt8,n≤rest.length→len ⟨lo++rest,false,false⟩=(.n n,⟨rest,false,false⟩)
theorem len_fixed {n:Nat} (h:n≤32767):LenI gALen (fxW n 4) n:=by
  refine ⟨fixedW_ne (by omega),fun rest hr=>?_⟩;have h0:¬ ((rest.length:Int) < (n:Int)):=by omega
  simp only[gALen,rdArrayLen,rd32 (show n≤2147483647 by omega),h0,if_false]
theorem len_uv {n:Nat} (h:n≤32767):LenI gCALen (uvW (n+1)) n:=by
  refine ⟨uvW_ne _,fun rest hr=>?_⟩;have h0:¬ ((rest.length:Int) < (n:Int)):=by omega
  have e:IntKind.i32.wrap (IntKind.i32.wrap ((n+1:Nat):Int) - 1)=(n:Int):=by
    simp[IntKind.wrap,IntKind.signed,IntKind.bits];omega
  simp only[gCALen,rdCArrayLen,rdUv_app (show n+1 < 4294967296 by omega),e,h0,if_false]
end Go.Kq

namespace Go.Kq
open Go
structure TagsOk (l:List (Nat × List UInt8)):Prop where
  rise:l.Pairwise fun a b=>a.1 < b.1
  key:∀ p ∈ l,p.1 < 4294967296
  few:∀ p ∈ l,p.2.length≤32767
  len:l.length < 4294967296
def vTag (p:Nat × List UInt8):Nat × V:=(p.1,.s p.2)
theorem rdTagsGo_app:∀ (l:List (Nat × List UInt8)) (x:V) (rest:List UInt8),(∀ p ∈ l,p.1 < 4294967296∧p.2.length≤32767)→l.Pairwise (fun a b=>a.1 < b.1)→(∀ q ∈ tagKv x,∀ p ∈ l,q.1 < p.1) →
    ∃ y,rdTagsGo l.length x ⟨tagsW l++rest,false,false⟩=(y,⟨rest,false,false⟩)∧tagKv y=tagKv x++l.map vTag
  | [],x,rest,_,_,_=>⟨x,rfl,by simp⟩
  | p :: l, x, rest, h, hp, hx => by
    obtain ⟨h1,h2⟩:=h p (by simp);have e1:tagsW (p::l)++rest=uvW p.1++(uvW p.2.length++(p.2++(tagsW l++rest))):=by simp[tagsW,tagW]
    obtain ⟨y,h3,_,h4⟩:=rdSpan_app (o:=p.2) (rest:=tagsW l++rest) (l:=p.2.length) (nl:=false) rfl (by simp);have h5:=h4 rfl;subst h5;have hset:tagKv (tagSet x p.1 (.s p.2))=tagKv x++[vTag p]:=by
      rw[tagSet,tagKv,kvSet_push fun q hq=>Nat.ne_of_lt (hx q hq p (by simp))];rfl
    obtain ⟨y,h6,h7⟩:=rdTagsGo_app l (tagSet x p.1 (.s p.2)) rest (fun q hq=>h q (by simp[hq])) (List.pairwise_cons.1 hp).2 (by
      intro q hq r hr;rw[hset] at hq
      rcases List.mem_append.1 hq with hq | hq
      · exact hx q hq r (by simp[hr])
      · simp[vTag] at hq;subst hq;exact (List.pairwise_cons.1 hp).1 r hr)
    refine ⟨y,?_,by rw[h7,hset];simp⟩;rw[e1,List.length_cons];simp only[rdTagsGo,rdUv_app h1,rdUv_app (show p.2.length < 4294967296 by omega),h3,V.oct];exact h6
theorem insKv_le {p:Nat × V}:∀ {l:List (Nat × V)},(∀ q ∈ l,p.1≤q.1)→insKv p l=p::l
  | [],_=>rfl
  | q::r,h=>by rw[insKv,if_pos (h q (by simp))]
theorem sortKv_id:∀ {l:List (Nat × V)},l.Pairwise (fun a b=>a.1 < b.1)→sortKv l=l
  | [],_=>rfl
  | p :: l, h => by
    have h1:=List.pairwise_cons.1 h;show insKv p (sortKv l)=p::l
    rw[sortKv_id h1.2,insKv_le fun q hq=>Nat.le_of_lt (h1.1 q hq)]
theorem tagsT_of {y:V} {l:List (Nat × List UInt8)} (h:tagKv y=l.map vTag) (hp:l.Pairwise fun a b=>a.1 < b.1):tagsT y=l:=by
  unfold tagsT;rw[h,sortKv_id (List.pairwise_map.2 hp),List.map_map];have:(fun p:Nat × V=>(p.1,p.2.octs)) ∘ vTag=id:=by funext p;rfl
  rw[this,List.map_id]
theorem insAt_spec {out:List (Nat × List UInt8)} {k:Nat} (h:out.Pairwise fun a b=>a.1 < b.1):(∀ p ∈ out.take (insAt out k),p.1 < k)∧(∀ p ∈ out.drop (insAt out k),k≤p.1):=by
  induction out with
  | nil=>simp[insAt]
  | cons q out ih =>
    have h1:=List.pairwise_cons.1 h
    by_cases hq:q.1 < k
    · have e : insAt (q :: out) k = insAt out k + 1 := by simp [insAt, List.takeWhile_cons, hq]
      rw[e];obtain ⟨i1,i2⟩:=ih h1.2;exact ⟨by intro p hp;rcases List.mem_cons.1 (by simpa using hp) with rfl | hp;exact hq;exact i1 p hp,by simpa using i2⟩
    have e:insAt (q::out) k=0:=by simp[insAt,List.takeWhile_cons,hq]
    rw[e];refine ⟨by simp,?_⟩;intro p hp
    rcases List.mem_cons.1 (by simpa using hp) with rfl | hp
    · omega
    have:=h1.1 p hp;omega
theorem insTag_rise {least:Nat} {out:List (Nat × List UInt8)} {t:Nat × List UInt8} (h:out.Pairwise fun a b=>a.1 < b.1):(insTag least out t).Pairwise fun a b=>a.1 < b.1:=by
  unfold insTag
  split
  · exact h
  split
  · exact h
  rename_i hne
  obtain ⟨i1,i2⟩:=insAt_spec (k:=t.1) h;have hd:∀ p ∈ out.drop (insAt out t.1),t.1 < p.1:=by
    intro p hp;have h2:=i2 p hp
    rcases Nat.lt_or_ge t.1 p.1 with h3 | h3
    · exact h3
    exfalso
    have hpe:p.1=t.1:=by omega
    cases hdr:out.drop (insAt out t.1) with
    | nil=>rw[hdr] at hp;simp at hp
    | cons q r =>
      have hq:out[insAt out t.1]?=some q:=by
        have:=congrArg (fun l=>l[0]?) hdr
        simpa using this
      have hpw:=List.Pairwise.sublist (List.drop_sublist (insAt out t.1) out) h;rw[hdr] at hpw hp;have hq2:=i2 q (by rw[hdr];simp)
      rcases List.mem_cons.1 hp with rfl | hp
      · exact hne (by rw[hq];simp[hpe])
      have:=(List.pairwise_cons.1 hpw).1 p hp;omega
  rw[List.pairwise_append];refine ⟨h.sublist (List.take_sublist _ _),List.pairwise_cons.2 ⟨hd,h.sublist (List.drop_sublist _ _)⟩,?_⟩;intro a ha b hb;have h1:=i1 a ha
  rcases List.mem_cons.1 hb with rfl | hb
  · exact h1
  have:=hd b hb;omega
theorem insTag_mem {least:Nat} {out:List (Nat × List UInt8)} {t p:Nat × List UInt8} (h:p ∈ insTag least out t):p ∈ out∨p=t:=by
  unfold insTag at h
  split at h
  · exact .inl h
  split at h
  · exact .inl h
  rcases List.mem_append.1 h with h | h
  · exact .inl (List.mem_of_mem_take h)
  rcases List.mem_cons.1 h with rfl | h
  · exact .inr rfl
  exact .inl (List.mem_of_mem_drop h)
theorem foldl_ins {least:Nat}:∀ (u out:List (Nat × List UInt8)),out.Pairwise (fun a b=>a.1 < b.1)→(u.foldl (insTag least) out).Pairwise (fun a b=>a.1 < b.1)∧(∀ p ∈ u.foldl (insTag least) out,p ∈ out∨p ∈ u)∧(u.foldl (insTag least) out).length≤out.length+u.length
  | [],out,h=>⟨h,fun p hp=>.inl hp,by simp⟩
  | t :: u, out, h => by
    obtain ⟨h1,h2,h3⟩:=foldl_ins u (insTag least out t) (insTag_rise h);refine ⟨h1,fun p hp=>?_,?_⟩
    · rcases h2 p hp with h | h
      · rcases insTag_mem h with h | h
        · exact .inl h
        exact .inr (by simp[h])
      exact .inr (by simp[h])
    have:=insTag_len least out t;simp only[List.foldl_cons,List.length_cons];omega
theorem unks_ok {fs:List Fd} {t:T} (hk:∀ p ∈ t.u,p.1 < 4294967296):TagsOk (unksW fs t):=by
  obtain ⟨h1,h2,h3⟩:=foldl_ins (least:=knownW fs) (t.u.take 32767) [] (by simp);refine ⟨?_,?_,?_,?_⟩
  · exact List.pairwise_map.2 h1
  · intro p hp;obtain ⟨q, hq, rfl⟩ := List.mem_map.1 hp
    rcases h2 q hq with h | h
    · simp at h
    exact hk q (List.mem_of_mem_take h)
  · intro p hp;obtain ⟨q,hq,rfl⟩:=List.mem_map.1 hp;simp[wholeS];omega
  unfold unksW unknownW;rw[List.length_map];simp at h3
  omega
end Go.Kq

namespace Go.Kq
open Go
def bodyL:List Fd→Int→Bool→List T→Nat→List UInt8
  | [],_,_,_,_=>[]
  | f::fs,ver,flex,ts,i=>(if f.has ver then fieldW f ver flex (atT ts i) else [])++bodyL fs ver flex ts (i+1)
theorem bodyW_eq:∀ (fs:List Fd) (ver:Int) (flex:Bool) (ts:List T) (j:Nat),(∀ f ∈ fs,f.tag < 0)→bodyW fs ver (fieldsW fs ver flex ts j) fs.length=bodyL fs ver flex ts j
  | [],_,_,_,_,_=>rfl
  | f :: fs, ver, flex, ts, j, h => by
    have ih:=bodyW_eq fs ver flex ts (j+1) fun g hg=>h g (by simp[hg]);have hf:=h f (by simp);rw[bodyL,← ih,bodyW,List.length_cons,List.range_succ_eq_map,List.flatMap_cons,List.flatMap_map,fieldsW];simp[bodyW,hf]
theorem partW_flat {fs:List Fd} {ver:Int} {flex:Bool} {t:T} (h:∀ f ∈ fs,f.tag < 0):partW fs ver flex t=bodyL fs ver flex t.l 0++(if flex then uvW (unksW fs t).length++tagsW (unksW fs t) else []):=by
  have hk:knownsW fs t (fieldsW fs ver flex t.l 0)=[]:=by simp[knownsW,knownW_free h]
  have hp:∀ l:List (Nat × List UInt8),l.flatMap pairW=tagsW l:=fun l=>by
    simp only[tagsW,List.flatMap];congr 1
  rw[partW,joinW,hk,bodyW_eq _ _ _ _ _ h]
  cases flex <;> simp[hp]
section
variable {ver:Int} {flex:Bool} {t:T} {nul of:Int} {sub:T→List UInt8}
theorem fieldV_i16:fieldV 2 nul of sub ver flex t=fxW t.n 2:=by simp[fieldV,valueW,widthW]
theorem fieldV_i32:fieldV 3 nul of sub ver flex t=fxW t.n 4:=by simp[fieldV,valueW,widthW]
theorem fieldV_bool:fieldV 0 nul of sub ver flex t=[UInt8.ofNat (t.n % 2).toNat]:=by simp[fieldV,valueW]
theorem nullW_no (h:nul < 0):nullW nul ver t=false:=by
  have:¬ nul≥0:=by omega
  simp[nullW,this]
theorem fieldV_str (h:nullW nul ver t=false):fieldV 8 nul of sub ver flex t=if flex then uvW ((wholeS t.s).length+1)++wholeS t.s else fxW (wholeS t.s).length 2++wholeS t.s:=by
  cases flex <;> simp[fieldV,valueW,countedW,h]
theorem fieldV_str0 (h:nullW nul ver t=true):fieldV 8 nul of sub ver flex t=if flex then [0] else fxW (-1) 2:=by
  cases flex <;> simp[fieldV,valueW,countedW,h]
theorem fieldV_bytes (h:nullW nul ver t=false):fieldV 9 nul of sub ver flex t=if flex then uvW ((wholeS t.s).length+1)++wholeS t.s else fxW (wholeS t.s).length 4++wholeS t.s:=by
  cases flex <;> simp[fieldV,valueW,countedW,h]
theorem wholeS_len (s:List UInt8):(wholeS s).length≤32767:=by simp[wholeS];omega
end
end Go.Kq

namespace Go.Kq
open Go
theorem uvW_le5 {n:Nat} (h:n < 4294967296):(uvW n).length≤5:=uvW_le 5 n (by omega) (by simp only[Nat.reducePow];omega)
mutual
/-- So many octets a piece. -/
def kF:Fd→Nat
  | .mk _ _ _ _ _ _ _ sub=>kFs sub+40
def kFs:List Fd→Nat
  | []=>0
  | f::fs=>kF f+kFs fs
end
mutual
/-- No field is a tag. -/
def freeF:Fd→Bool
  | .mk _ _ _ _ tag _ _ sub=>decide (tag < 0) && freeFs sub
def freeFs:List Fd→Bool
  | []=>true
  | f::fs=>freeF f && freeFs fs
end
theorem freeFs_tag:∀ {fs:List Fd},freeFs fs=true→∀ f ∈ fs,f.tag < 0
  | [],_,_,h=>by simp at h
  | g :: fs, h, f, hf => by
    rw[freeFs,Bool.and_eq_true] at h
    rcases List.mem_cons.1 hf with rfl | hf
    · cases f;simp[freeF] at h;exact h.1.1
    exact freeFs_tag h.2 f hf
theorem tw_pos (t:T):1≤tw t:=by cases t;rw[tw];omega
theorem tw_eq (t:T):tw t=1+t.s.length+tws t.l+tagWt t.u:=by cases t;rw[tw];rfl
theorem KeysOk.u {t:T} (h:KeysOk t):∀ p ∈ t.u,p.1 < 4294967296:=by cases h;assumption
theorem KeysOk.l {t:T} (h:KeysOk t):∀ y ∈ t.l,KeysOk y:=by cases h;assumption
theorem KeysOk.zero:KeysOk .zero:=.mk (by simp) (by simp)
theorem KeysOk.at {l:List T} (h:∀ y ∈ l,KeysOk y) (i:Nat):KeysOk (atT l i):=by
  unfold atT
  cases hi:l[i]? with
  | none=>exact .zero
  | some y=>exact h y (List.mem_of_getElem? hi)
theorem counted_le {flex null:Bool} {n size:Nat} (h:n≤32767) (hs:size≤4):(countedW flex null n size).length≤5:=by
  unfold countedW;have:=uvW_le5 (n:=n+1) (by omega)
  split
  · simp
  split
  · omega
  split <;> simp only[fxL] <;> omega
theorem value_le {kind:Int} {sub:T→List UInt8} {null flex:Bool} {t:T} {S:Nat} (hS:(sub t).length≤S * tw t):(valueW kind sub null flex t).length≤(S+19) * tw t:=by
  have h1:=tw_pos t;have h2:=tw_eq t;rw[Nat.add_mul];have h3:(if null then [] else wholeS t.s).length≤t.s.length:=by cases null <;> simp[wholeS];omega
  have h4:(if null then [] else wholeS t.s).length≤32767:=by cases null <;> simp[wholeS];omega
  unfold valueW
  split
  · simp;omega
  split
  · simp only[uuidW,List.length_append,List.length_take,List.length_replicate];omega
  split
  · rw[List.length_append];have:=counted_le (flex:=flex) (null:=null) (size:=2) h4 (by omega);omega
  split
  · rw[List.length_append];have:=counted_le (flex:=flex) (null:=null) (size:=4) h4 (by omega);omega
  split
  · omega
  have:widthW kind≤8:=by unfold widthW;repeat' split <;> try omega
  rw[fxL];omega
theorem tws_take (l:List T) (n:Nat):((l.take n).map tw).sum≤tws l:=by
  rw[tws_sum]
  induction l generalizing n with
  | nil=>simp
  | cons y l ih =>
    cases n with
    | zero=>simp
    | succ n=>have:=ih n;simp only[List.take_succ_cons,List.map_cons,List.sum_cons];omega
theorem flat_le {f:T→List UInt8} {S:Nat}:∀ {l:List T},(∀ y ∈ l,(f y).length≤S * tw y)→(l.flatMap f).length≤S * (l.map tw).sum
  | [],_=>by simp
  | y :: l, h => by
    have h1:=h y (by simp);have h2:=flat_le (f:=f) (S:=S) (l:=l) fun z hz=>h z (by simp[hz]);simp only[List.flatMap_cons,List.length_append,List.map_cons,List.sum_cons,Nat.mul_add];omega
theorem fieldV_le {kind nul of:Int} {sub:T→List UInt8} {ver:Int} {flex:Bool} {t:T} {S:Nat} (hk:KeysOk t) (hS:∀ y,KeysOk y→(sub y).length≤S * tw y):(fieldV kind nul of sub ver flex t).length≤(S+20) * tw t:=by
  have h1:=tw_pos t;have h2:=tw_eq t;unfold fieldV
  split
  · rw [List.length_append];have h3 : (thingsW (nullW nul ver t) t).length ≤ 32767 := by unfold thingsW; split <;> simp; omega
    have h4:=counted_le (flex:=flex) (null:=nullW nul ver t) (size:=4) h3 (by omega);have h5:((thingsW (nullW nul ver t) t).flatMap (valueW of sub false flex)).length≤(S+19) * ((thingsW (nullW nul ver t) t).map tw).sum:=by
      refine flat_le fun y hy=>value_le (hS y ?_);unfold thingsW at hy
      split at hy
      · simp at hy
      exact hk.l y (List.mem_of_mem_take hy)
    have h6:((thingsW (nullW nul ver t) t).map tw).sum≤tws t.l:=by
      unfold thingsW
      split
      · simp
      exact tws_take _ _
    have h7:=Nat.mul_le_mul_left (S+19) (show ((thingsW (nullW nul ver t) t).map tw).sum≤tw t - 1 by omega);have h8:(S+20) * tw t=(S+20) * (tw t - 1)+(S+20):=by
      conv=>lhs;rw[show tw t=(tw t - 1)+1 from by omega,Nat.mul_succ]
    have h9:(S+20) * (tw t - 1)=(S+19) * (tw t - 1)+(tw t - 1):=by rw[Nat.succ_mul (S+19)]
    omega
  split
  · have := hS t hk;rw [Nat.add_mul]
    split
    · simp;omega
    simp only[List.length_cons];omega
  have:=value_le (kind:=kind) (null:=nullW nul ver t) (flex:=flex) (hS t hk);rw[Nat.add_mul] at this ⊢;omega
theorem tagWt_app (a b:List (Nat × List UInt8)):tagWt (a++b)=tagWt a+tagWt b:=by simp[tagWt]
theorem tagWt_ins (least:Nat) (out:List (Nat × List UInt8)) (t:Nat × List UInt8):tagWt (insTag least out t)≤tagWt out+(t.2.length+1):=by
  unfold insTag
  split
  · omega
  split
  · omega
  have h1:tagWt out=tagWt (out.take (insAt out t.1))+tagWt (out.drop (insAt out t.1)):=by rw[← tagWt_app,List.take_append_drop]
  rw[tagWt_app];have h2:tagWt (t::out.drop (insAt out t.1))=t.2.length+1+tagWt (out.drop (insAt out t.1)):=by simp[tagWt]
  omega
theorem tagWt_foldl (least:Nat):∀ (u out:List (Nat × List UInt8)),tagWt (u.foldl (insTag least) out)≤tagWt out+tagWt u
  | [],out=>by simp
  | t :: u, out => by
    have h1:=tagWt_ins least out t;have h2:=tagWt_foldl least u (insTag least out t);have h3:tagWt (t::u)=t.2.length+1+tagWt u:=by simp[tagWt]
    rw[List.foldl_cons];omega
theorem tagWt_take:∀ (u:List (Nat × List UInt8)) (n:Nat),tagWt (u.take n)≤tagWt u
  | [],n=>by simp
  | p::u,0=>by simp[tagWt]
  | p::u,n+1=>by have:=tagWt_take u n;simp[tagWt] at this ⊢;omega
theorem tagWt_whole:∀ u:List (Nat × List UInt8),tagWt (u.map fun p=>(p.1,wholeS p.2))≤tagWt u
  | []=>by simp
  | p :: u => by
    have:=tagWt_whole u;simp[tagWt,wholeS] at this ⊢;omega
theorem unksW_wt {fs:List Fd} {t:T}:tagWt (unksW fs t)≤tagWt t.u:=by
  unfold unksW unknownW;have h1:=tagWt_whole ((t.u.take 32767).foldl (insTag (knownW fs)) []);have h2:=tagWt_foldl (knownW fs) (t.u.take 32767) [];have h3:=tagWt_take t.u 32767;have h4:tagWt []=0:=rfl;omega
theorem tagsW_le:∀ {l:List (Nat × List UInt8)},(∀ p ∈ l,p.1 < 4294967296∧p.2.length≤32767)→(tagsW l).length≤10 * tagWt l
  | [],_=>by simp[tagsW]
  | p :: l, h => by
    have h1:=tagsW_le (l:=l) fun q hq=>h q (by simp[hq]);obtain ⟨h2,h3⟩:=h p (by simp);have h4:=uvW_le5 h2;have h5:=uvW_le5 (n:=p.2.length) (by omega);simp[tagsW,tagW,tagWt] at h1 ⊢
    omega
theorem bodyL_le {ver:Int} {flex:Bool}:∀ {fs:List Fd} {ts:List T} {i:Nat},(∀ f ∈ fs,∀ y,KeysOk y→(fieldW f ver flex y).length≤kF f * tw y)→(∀ y ∈ ts,KeysOk y)→(bodyL fs ver flex ts i).length≤kFs fs * (1+tws (ts.drop i))
  | [],ts,i,_,_=>by simp[bodyL]
  | f :: fs, ts, i, h, hk => by
    have h1:=bodyL_le (fs:=fs) (ts:=ts) (i:=i+1) (fun g hg=>h g (by simp[hg])) hk;have h2:(if f.has ver then fieldW f ver flex (atT ts i) else []).length≤kF f * tw (atT ts i):=by
      split
      · exact h f (by simp) _ (KeysOk.at hk i)
      simp
    have h3:tw (atT ts i)+tws (ts.drop (i+1))≤1+tws (ts.drop i):=by
      unfold atT
      cases hi:ts[i]? with
      | none =>
        have:ts.length≤i:=by simpa using hi
        rw[List.drop_of_length_le this,List.drop_of_length_le (by omega)];have e:tw T.zero=1:=rfl;simp only[Option.getD_none];rw[e];omega
      | some y =>
        obtain ⟨hl,rfl⟩:=List.getElem?_eq_some_iff.1 hi;rw[List.drop_eq_getElem_cons hl,tws];simp only[Option.getD_some];omega
    have h4:kF f * tw (atT ts i)≤kF f * (1+tws (ts.drop i)):=Nat.mul_le_mul_left _ (by omega);have h5:kFs fs * (1+tws (ts.drop (i+1)))≤kFs fs * (1+tws (ts.drop i)):=Nat.mul_le_mul_left _ (by have:=tw_pos (atT ts i);omega);rw[bodyL,List.length_append,kFs,Nat.add_mul];omega
theorem part_of_fields {fs:List Fd} {ver:Int} {flex:Bool} {t:T} (hf:freeFs fs=true) (hk:KeysOk t) (h:∀ f ∈ fs,∀ y,KeysOk y→(fieldW f ver flex y).length≤kF f * tw y):(partW fs ver flex t).length≤(kFs fs+20) * tw t:=by
  rw[partW_flat (freeFs_tag hf),List.length_append];have h1:=bodyL_le (i:=0) h hk.l;have h2:=tw_eq t;have hu:=unks_ok (fs:=fs) hk.u;have h3:(if flex then uvW (unksW fs t).length++tagsW (unksW fs t) else []).length≤5+10 * tagWt t.u:=by
    split
    · have:=uvW_le5 hu.len;have:=tagsW_le (l:=unksW fs t) fun p hp=>⟨hu.key p hp,hu.few p hp⟩;have:=unksW_wt (fs:=fs) (t:=t);rw[List.length_append];omega
    simp
  rw[List.drop_zero] at h1;have h4:kFs fs * (1+tws t.l)≤kFs fs * tw t:=Nat.mul_le_mul_left _ (by omega);rw[Nat.add_mul];omega
mutual
theorem fieldW_le:∀ (f:Fd),freeF f=true→∀ (ver:Int) (flex:Bool) (t:T),KeysOk t→(fieldW f ver flex t).length≤kF f * tw t
  | .mk kind fr to nul tag df of sub, h, ver, flex, t, hk => by
    rw[freeF,Bool.and_eq_true] at h;rw[fieldW_eq,kF];exact fieldV_le (S:=kFs sub+20) hk fun y hy=>part_of_fields h.2 hy (fieldsW_le sub h.2 ver flex)
theorem fieldsW_le:∀ (fs:List Fd),freeFs fs=true→∀ (ver:Int) (flex:Bool),∀ f ∈ fs,∀ y,KeysOk y→(fieldW f ver flex y).length≤kF f * tw y
  | [],_,_,_,f,hf=>by simp at hf
  | g :: fs, h, ver, flex, f, hf => by
    rw[freeFs,Bool.and_eq_true] at h;intro y hy
    by_cases e:f=g
    · rw[e];exact fieldW_le g h.1 ver flex y hy
    exact fieldsW_le fs h.2 ver flex f (by rcases List.mem_cons.1 hf with hf | hf;exact absurd hf e;exact hf) y hy
end
theorem partW_le {fs:List Fd} (hf:freeFs fs=true) {ver:Int} {flex:Bool} {t:T} (hk:KeysOk t):(partW fs ver flex t).length≤(kFs fs+20) * tw t:=part_of_fields hf hk (fieldsW_le fs hf ver flex)
theorem small_of {fs:List Fd} {t:T} (hf:freeFs fs=true) (hk:KeysOk t) (hw:tw t≤1048576) (hK:kFs fs+20≤2048):KeysOk t∧∀ ver flex,(partW fs ver flex t).length≤2147483648:=by
  refine ⟨hk,fun ver flex=>?_⟩;have h1:=partW_le hf hk (ver:=ver) (flex:=flex);have h2:=Nat.mul_le_mul hK hw;omega
end Go.Kq

namespace Go.Kq
open Go
theorem app_pos {l1 l2:List UInt8} (h1:1≤l1.length):1≤(l1++l2).length:=by rw[List.length_append];omega
end Go.Kq

namespace Go.Kq
open Go
section
variable {ver:Int} {fl:Bool} {y t:T} {fr to nul tag df of:Int} {sub:List Fd}
theorem has_all {kind:Int} (hv:0≤ver) (h1:fr≤0) (h2:to < 0):Fd.has (.mk kind fr to nul tag df of sub) ver=true:=by
  show (decide (fr≤ver) && (decide (to < 0) || decide (ver≤to)))=true
  simp only[Bool.and_eq_true,Bool.or_eq_true,decide_eq_true_eq];omega
theorem has_ge {kind:Int} (h2:to < 0):Fd.has (.mk kind fr to nul tag df of sub) ver=decide (ver≥fr):=by
  show (decide (fr≤ver) && (decide (to < 0) || decide (ver≤to)))=_
  rw[Bool.eq_iff_iff];simp only[Bool.and_eq_true,Bool.or_eq_true,decide_eq_true_eq];omega
theorem uuidW_len (s:List UInt8):(uuidW s).length=16:=by simp only[uuidW,List.length_append,List.length_take,List.length_replicate];omega
theorem counted_pos {null:Bool} {n size:Nat} (h:0 < size):1≤(countedW fl null n size).length:=by
  unfold countedW
  split
  · simp
  split
  · exact uvW_pos _
  split <;> simp only[fxL] <;> omega
theorem widthW_pos (k:Int):0 < widthW k:=by unfold widthW;repeat' split <;> try omega
theorem value_pos {kind:Int} {s:T→List UInt8} {null:Bool} (h:kind ≠ 10):1≤(valueW kind s null fl y).length:=by
  unfold valueW
  split
  · simp
  split
  · rw[uuidW_len];omega
  split
  · exact app_pos (counted_pos (by omega))
  split
  · exact app_pos (counted_pos (by omega))
  rw[fxL];exact widthW_pos kind
theorem value_pos10 {s:T→List UInt8} {null:Bool} (h:1≤(s y).length):1≤(valueW 10 s null fl y).length:=by
  have e:valueW 10 s null fl y=s y:=by simp[valueW]
  rw[e];exact h
theorem fieldW_pos {kind:Int} (h:kind ≠ 10):1≤(fieldW (.mk kind fr to nul tag df of sub) ver fl y).length:=by
  rw[fieldW_eq];show 1≤(fieldV kind nul of (partW sub ver fl) ver fl y).length
  unfold fieldV
  split
  · exact app_pos (counted_pos (by omega))
  rw[if_neg (by intro e;exact h e.1)];exact value_pos h
theorem body_head {f:Fd} {fs:List Fd} {ts:List T} {i:Nat} (hh:f.has ver=true) (h:1≤(fieldW f ver fl (atT ts i)).length):1≤(bodyL (f::fs) ver fl ts i).length:=by
  rw[bodyL,if_pos hh];exact app_pos h
theorem part_pos {fs:List Fd} (hf:freeFs fs=true) (h:1≤(bodyL fs ver fl t.l 0).length):1≤(partW fs ver fl t).length:=by
  rw[partW_flat (freeFs_tag hf)];exact app_pos h
end
end Go.Kq
