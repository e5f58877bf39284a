/- A part of the library: rules of reasoning about the program's operations and what its shared functions do. -/
import Derived.Test.YtnfigjjpdhhfjaaGreatDoorKqP04
import Derived.Test.YtnfigjjpdhhfjaaGreatDoorKqP01
import Derived.Test.YtnfigjjpdhhfjaaGreatDoorKqP03
import Derived.Test.YtnfigjjpdhhfjaaGreatDoorKqP02
set_option linter.unusedVariables false
set_option linter.unusedSimpArgs false
namespace Go.Kq
open Go Go.Proofs
theorem Z22 {f:T→List UInt8}:∀ {l:List T} {j:Nat} {t:T},l[j]?=some t→(l.take (j+1)).flatMap f=(l.take j).flatMap f++f t
  | [],_,_,h=>by simp at h
  | x::l,0,t,h=>by simp at h;subst h;simp
  | x :: l, j + 1, t, h => by
    have:=Z22 (f:=f) (l:=l) (j:=j) (t:=t) (by simpa using h);simp only[List.take_succ_cons,List.flatMap_cons,this,List.append_assoc]
theorem Z15 {f:T→List UInt8}:∀ {l:List T} (j:Nat),((l.take j).flatMap f).length≤(l.flatMap f).length
  | [],_=>by simp
  | x::l,0=>by simp
  | x :: l, j + 1 => by
    have:=Z15 (f:=f) (l:=l) j;simp only[List.take_succ_cons,List.flatMap_cons,List.length_append];omega
theorem Z5V {f:T→List UInt8} {l:List T} {j:Nat} {t:T} (h:l[j]?=some t):(f t).length≤(l.flatMap f).length:=by
  have h1:=Z22 (f:=f) h;have h2:=Z15 (f:=f) (l:=l) (j+1);rw[h1,List.length_append] at h2;omega
structure Z1b (P:Program) (f:FuncId) (fd:Fd) (enc:Int→Bool→T→List UInt8):Prop where
  enters:Enters P f
  call:∀ (w:World) (A B:Nat→Prop) (ver:Int) (flex:Bool) (cs ct:List Value) (t:T),RepF w A cs fd→RepT w B ct t→(∀ b,A b→b < w.heap.size)→(∀ b,B b→b < w.heap.size)→(enc ver flex t).length≤4294967296 →
    Calls P f #[.agg cs.toArray,.int .i64 ver,.bool flex,.agg ct.toArray] w (Z61 w (enc ver flex t))
set_option maxHeartbeats 4000000 in
theorem field_m {P:Program} {f:FuncId} {fn:Func} {T3 T22 T23 T26 T29 T45:TypeId} {f26 f72 f73 f74 f75 f76:FuncId} {a0:Array TypeId} {a1:Array TypeId} {a2:Array TypeId} {a3:Array TypeId} {a4:Array TypeId} {a5:Array TypeId} {a6:Array TypeId} {a7:Array TypeId} {i0 i1 i2 i3 i4 i5 i6 i7 i8 i9 i10 i11 i12 i13 i14 i15 i16 i17:Nat} {t0 t1 t2 t3 t4 t5 t6 t7 t8 t9 t10 t11 t12 t13 t14 t15 t16 t17 t18 t19 t20 t21 t22 t23 t24 t25 t26 t27 t28 t29 t30 t31 t32 t33 t34 t35 t36 t37 t38 t39 t40 t41 t42 t43 t44 t45 t46 t47 t48 t49 t50 t51 t52 t53 t54 t55 t56 t57 t58 t59 t60 t61 t62 t63 t64 t65 t66 t67 t68 t69 t70 t71 t72 t73 t74 t75 t76:TypeId} {p0 p1 p2 p3 p4 p5 p6 p7 p8 p9 p10 p11 p12 p13 p14 p15 p16 p17 p18 p19 p20 p21 p22 p23 p24 p25 p26 p27 p28 p29 p30 p31 p32 p33 p34 p35 p36 p37 p38 p39 p40 p41 p42 p43 p44 p45 p46 p47 p48 p49 p50 p51 p52 p53 p54 p55 p56 p57 p58 p59 p60 p61 p62 p63 p64 p65 p66 p67 p68 p69 p70 p71 p72 p73 p74 p75 p76:String} {e0 e1 e2 e3 e4 e5 e6 e7 e8 e9 e10 e11 e12 e13 e14 e15 e16 e17 e18 e19 e20 e21 e22 e23 e24 e25 e26 e27 e28 e29 e30 e31 e32 e33 e34 e35 e36 e37 e38 e39 e40 e41 e42 e43 e44 e45 e46 e47 e48 e49 e50 e51 e52 e53 e54 e55 e56 e57 e58 e59 e60 e61 e62 e63 e64 e65 e66 e67 e68 e69 e70 e71 e72 e73 e74 e75 e76:Array Edge} {te te5:TypeId} {tb:Nat} {fd:Fd} {sub:Int→Bool→T→List UInt8}
    (hf:P.funcs[f]?=some fn) (hname:nG fn=false) (hres:fn.results = #[.tmp 8]) (hN:fn.ntmps=76)
    (hbody:fn.body=some (.seq (Code.region i0 ⟨[⟨some 4,.box T45 (.tmp 0),t0,p0,e0,none⟩,⟨some 7,.box T26 (.tmp 3),t1,p1,e1,none⟩,
    oA 8 (.const (.slice none 0 0)) t2 p2 e2]⟩ false) (.seq (Code.region i1 ⟨[oL 13 T45 4 t3 p3 e3,
    oM 14 1 t4 p4 e4,
    oL 15 T26 7 t5 p5 e5,
    oC 16 f72 #[(.tmp 13),(.tmp 14),(.tmp 15)] a0 t6 p6 e6,
    oT 9 16 t7 p7 e7]⟩ false) (.seq (.seq (Code.region i2 ⟨[oF 17 T45 4 0 t8 p8 e8,
    oL 18 T3 17 t9 p9 e9,⟨some 19,.binOp .eql T3 (.tmp 18) (.const (.int .i64 11)) T3,t10,p10,e10,none⟩]⟩ false) (.cond (.tmp 19) (.seq (Code.region i3 ⟨[oF 20 T26 7 3 t11 p11 e11,
    oL 21 T23 20 t12 p12 e12,
    oC 22 f73 #[(.tmp 21)] a1 t13 p13 e13,
    oT 10 22 t14 p14 e14]⟩ false) (.seq (.seq (Code.region i4 ⟨[oM 23 9 t15 p15 e15]⟩ false) (.cond (.tmp 23) (Code.region i5 ⟨[oA 10 (.const (.slice none 0 0)) t16 p16 e16]⟩ false) .skip)) (.seq (Code.region i6 ⟨[oM 24 2 t17 p17 e17,
    oM 25 9 t18 p18 e18,
    oM 26 10 t19 p19 e19,⟨some 27,.call ⟨.builtin .len,#[(.tmp 26)],#[T23]⟩,t20,p20,e20,none⟩,
    oC 28 f74 #[(.tmp 24),(.tmp 25),(.tmp 27),(.const (.int .i64 4))] a2 t21 p21 e21,
    oT 11 28 t22 p22 e22]⟩ false) (.seq (.seq (Code.region i7 ⟨[oM 29 10 t23 p23 e23,⟨some 30,.call ⟨.builtin .len,#[(.tmp 29)],#[T23]⟩,t24,p24,e24,none⟩,⟨some 31,.move (.const (.int .i64 0)),t25,p25,e25,none⟩]⟩ false) (.block 0 (.loop (.seq (Code.region i8 ⟨[⟨some 32,.binOp .lss T3 (.tmp 31) (.tmp 30) T3,t26,p26,e26,none⟩]⟩ false) (.seq (.cond (.tmp 32) .skip
  (.exit 0)) (.seq (.block 1 (.seq (Code.region i9 ⟨[oM 33 31 t27 p27 e27,
    oT 12 33 t28 p28 e28]⟩ false)
  (Code.region i10 ⟨[oM 34 11 t29 p29 e29,
    oF 35 T45 4 6 t30 p30 e30,
    oL 36 T3 35 t31 p31 e31,
    oF 37 T45 4 7 t32 p32 e32,
    oL 38 T29 37 t33 p33 e33,
    oM 39 1 t34 p34 e34,
    oM 40 2 t35 p35 e35,
    oM 41 10 t36 p36 e36,
    oM 42 12 t37 p37 e37,⟨some 43,.indexAddr T23 (.tmp 41) (.tmp 42),t38,p38,e38,none⟩,
    oL 44 T26 43 t39 p39 e39,
    oC 45 f75 #[(.tmp 36),(.tmp 38),(.const (.bool false)),(.tmp 39),(.tmp 40),(.tmp 44)] a3 t40 p40 e40,⟨some 46,.call ⟨.builtin .append,#[(.tmp 34),(.tmp 45)],#[T22,T22]⟩,t41,p41,e41,none⟩,
    oT 11 46 t42 p42 e42]⟩ true)))
  (Code.region i11 ⟨[⟨some 47,.binOp .add T3 (.tmp 31) (.const (.int .i64 1)) T3,t43,p43,e43,none⟩,
    oM 31 47 t44 p44 e44]⟩ false))))))) (.seq (Code.region i12 ⟨[oM 48 11 t45 p45 e45,
    oT 8 48 t46 p46 e46]⟩ false) .ret))))) .skip)) (.seq (.seq (Code.region i13 ⟨[oF 49 T45 4 0 t47 p47 e47,
    oL 50 T3 49 t48 p48 e48,⟨some 51,.binOp .eql T3 (.tmp 50) (.const (.int .i64 10)) T3,t49,p49,e49,none⟩,
    oM 52 51 t50 p50 e50,⟨some 53,.fieldAddr T45 (.tmp 4) 3,t51,p51,e51,some (3,true)⟩,⟨some 54,.load T3 (.tmp 53),t52,p52,e52,some (3,true)⟩,⟨some 55,.binOp .geq T3 (.tmp 54) (.const (.int .i64 0)) T3,t53,p53,e53,some (3,true)⟩,⟨some 56,.pick (.tmp 52) (.tmp 55) (.const (.bool false)),t54,p54,e54,none⟩]⟩ false) (.cond (.tmp 56) (.seq (.seq (Code.region i14 ⟨[oM 57 9 t55 p55 e55]⟩ false) (.cond (.tmp 57) (.seq (Code.region i15 ⟨[oC 58 f76 #[(.const (.int .i64 (-1))),(.const (.int .i64 1))] a4 t56 p56 e56,
    oT 8 58 t57 p57 e57]⟩ false) .ret) .skip)) (.seq (Code.region i16 ⟨[oC 59 f76 #[(.const (.int .i64 1)),(.const (.int .i64 1))] a5 t58 p58 e58,
    oF 60 T45 4 7 t59 p59 e59,
    oL 61 T29 60 t60 p60 e60,
    oM 62 1 t61 p61 e61,
    oM 63 2 t62 p62 e62,
    oL 64 T26 7 t63 p63 e63,
    oC 65 f26 #[(.tmp 61),(.tmp 62),(.tmp 63),(.tmp 64)] a6 t64 p64 e64,⟨some 66,.call ⟨.builtin .append,#[(.tmp 59),(.tmp 65)],#[T22,T22]⟩,t65,p65,e65,none⟩,
    oT 8 66 t66 p66 e66]⟩ true) .ret)) .skip)) (.seq (Code.region i17 ⟨[oF 67 T45 4 0 t67 p67 e67,
    oL 68 T3 67 t68 p68 e68,
    oF 69 T45 4 7 t69 p69 e69,
    oL 70 T29 69 t70 p70 e70,
    oM 71 9 t71 p71 e71,
    oM 72 1 t72 p72 e72,
    oM 73 2 t73 p73 e73,
    oL 74 T26 7 t74 p74 e74,
    oC 75 f75 #[(.tmp 68),(.tmp 70),(.tmp 71),(.tmp 72),(.tmp 73),(.tmp 74)] a7 t75 p75 e75,
    oT 8 75 t76 p76 e76]⟩ false) .ret))))))
    (hs_T22:Z3 P T22 te 1 1=true) (hz_T22:ZG P te [.int .u8 0]) (hFlT45:Flat P T45 zF) (hFlT26:Flat P T26 zT) (hcT3:scal P T3=true) (hcT23:scal P T23=true) (hsT23:slTy P T23=true) (hcT29:scal P T29=true) (hs_T23:Z3 P T23 te5 5 tb=true) (he10:Z0I 0 [e29,e30,e31,e32,e33,e34,e35,e36,e37,e38,e39,e40,e41,e42] [[],[],[1],[],[3],[],[],[],[],[7,8],[9],[2,4,5,6,10],[0,1,2,3,4,5,6,7,8,9,10,11],[0,1,2,3,4,5,6,7,8,9,10,11,12]]=true) (hmx:P.follows .mixedOrders=true) (he16:Z0I 0 [e58,e59,e60,e61,e62,e63,e64,e65,e66] [[],[],[1],[],[],[],[2,3,4,5],[0,1,2,3,4,5,6],[0,1,2,3,4,5,6,7]]=true) (hNu:NullM P f72) (hTh:Z6v P f73) (hCo:Z77 P f74) (hVa:Z2t P f75 fd.sub sub) (hPa:Z1U P f26 fd.sub sub) (hFx:FixM P f76):Z1b P f fd (fun ver flex t=>ZF fd.kind fd.nul fd.of (sub ver flex) ver flex t):=by
  refine ⟨enters_of hf hname hbody,?_⟩;intro w A B ver flex cs ct t hr ht hA hB hlen
  cases t with
  | mk n s nl l u =>
  have ht0:=ht;obtain ⟨sv,lv,uv,rfl,hn,hs,hl,hu⟩:=Z0O.1 ht;obtain ⟨fsv,rfl,hsub⟩:=ZK.1 hr;obtain ⟨nu,hnu⟩:∃ b,b=Z0Y fd.nul ver (.mk n s nl l u):=⟨_,rfl⟩;obtain ⟨tl,htl⟩:∃ x,x=Z0s nu (.mk n s nl l u):=⟨_,rfl⟩;refine calls_of_wp hf hbody ?_;generalize ha0:({ tmps:=#[Value.agg ([.int .i64 fd.kind,.int .i64 fd.fr,.int .i64 fd.to,.int .i64 fd.nul,.int .i64 fd.tag,.int .i64 fd.df,.int .i64 fd.of,fsv]:List Value).toArray,Value.int .i64 ver,Value.bool flex,Value.agg ([.int .i64 n,sv,.bool nl,lv,uv]:List Value).toArray]++Array.replicate (fn.ntmps - (#[Value.agg ([.int .i64 fd.kind,.int .i64 fd.fr,.int .i64 fd.to,.int .i64 fd.nul,.int .i64 fd.tag,.int .i64 fd.df,.int .i64 fd.of,fsv]:List Value).toArray,Value.int .i64 ver,Value.bool flex,Value.agg ([.int .i64 n,sv,.bool nl,lv,uv]:List Value).toArray]:Array Value).size) undef,defers:=[] }:Act)=a0;have hz0:a0.tmps.size=76:=by subst ha0;simp[hN]
  have hd0:a0.defers=[]:=by subst ha0;rfl
  have g0_0:get a0 0 = .agg ([.int .i64 fd.kind,.int .i64 fd.fr,.int .i64 fd.to,.int .i64 fd.nul,.int .i64 fd.tag,.int .i64 fd.df,.int .i64 fd.of,fsv]:List Value).toArray:=by subst ha0;exact gAr rfl
  have g0_1:get a0 1 = .int .i64 ver:=by subst ha0;exact gAr rfl
  have g0_2:get a0 2 = .bool flex:=by subst ha0;exact gAr rfl
  have g0_3:get a0 3 = .agg ([.int .i64 n,sv,.bool nl,lv,uv]:List Value).toArray:=by subst ha0;exact gAr rfl
  refine wT fun K1 hK1=>?_;refine wC (ZS (cs:=[.int .i64 fd.kind,.int .i64 fd.fr,.int .i64 fd.to,.int .i64 fd.nul,.int .i64 fd.tag,.int .i64 fd.df,.int .i64 fd.of,fsv]) (eK g0_0) ?_);rintro w2 f2 sz2 r2 th2;have hF3:Fr [] w w2:=f2;refine wC (ZS (cs:=[.int .i64 n,sv,.bool nl,lv,uv]) (eK g0_3) ?_);rintro w4 f4 sz4 r4 th4;have hF5:Fr [] w w4:=hF3.tr f4;have rb6:=f4.range r2 .nil;refine wC (wAs (v:=.slice none 0 0) rfl ?_);refine wEk hz0 hd0 fun a7 ha7 hz7 hd7=>?_;have g7_0:=kP ha7 g0_0;have g7_1:=kP ha7 g0_1;have g7_2:=kP ha7 g0_2;have g7_3:=kP ha7 g0_3;have g7_4:get a7 4 = .pointer (some ⟨w.heap.size,0,none⟩):=kG ha7 hz0;have g7_7:get a7 7 = .pointer (some ⟨w2.heap.size,0,none⟩):=kG ha7 hz0;have g7_8:get a7 8 = .slice none 0 0:=kG ha7 hz0;refine hK1 a7 w4 (tUp ?_);refine tId (wp_seq_k fun K8 hK8=>?_);have hS0:w.heap.size+2≤w4.heap.size:=by omega
  refine Z2 ?_;refine wC (Z8 (cs:=[.int .i64 fd.kind,.int .i64 fd.fr,.int .i64 fd.to,.int .i64 fd.nul,.int .i64 fd.tag,.int .i64 fd.df,.int .i64 fd.of,fsv]) (b:=w.heap.size) (o:=0) hFlT45 rfl (eK g7_4) rb6 ?_);refine wC (wMv (v:=.int .i64 ver) (eK g7_1) ?_);refine wC (Z8 (cs:=[.int .i64 n,sv,.bool nl,lv,uv]) (b:=w2.heap.size) (o:=0) hFlT26 rfl (eK g7_7) r4 ?_);refine wC (wCr (R:=fun x wz=>x = .bool nu∧Fr [] w4 wz) (vs:=#[.agg ([.int .i64 fd.kind,.int .i64 fd.fr,.int .i64 fd.to,.int .i64 fd.nul,.int .i64 fd.tag,.int .i64 fd.df,.int .i64 fd.of,fsv]:List Value).toArray,.int .i64 ver,.agg ([.int .i64 n,sv,.bool nl,lv,uv]:List Value).toArray]) hNu.enters (mX3 (eS hz7) (eS hz7) (eS hz7)) ((hNu.call w4 A B _ _ fd (.mk n s nl l u) ver (hr.kept hF5 (by simp) (fun _ h=>h)) (ht0.kept hF5 (by simp) (fun _ h=>h))).mono (by rintro e w' ⟨rfl,hf⟩;exact ⟨_,rfl,by rw[hnu],hf⟩)) ?_);rintro x9 w9 ⟨rfl,fr9⟩;have hF10:Fr [] w w9:=hF5.tr fr9;have hL10_w4:Fr [] w4 w9:=(Fr.refl [] w4).tr fr9;have rb11:=fr9.range rb6 .nil;have rb12:=fr9.range r4 .nil;refine wC (wAs (v:=.bool nu) (eS hz7) ?_);refine wEk hz7 hd7 fun a13 ha13 hz13 hd13=>?_;have g13_0:=kP ha13 g7_0;have g13_1:=kP ha13 g7_1;have g13_2:=kP ha13 g7_2;have g13_3:=kP ha13 g7_3;have g13_4:=kP ha13 g7_4;have g13_7:=kP ha13 g7_7;have g13_8:=kP ha13 g7_8;have g13_9:get a13 9 = .bool nu:=kG ha13 hz7;refine hK8 a13 w9 (tUp ?_);refine tId (wp_seq_k fun K14 hK14=>?_);refine wS fun K15 hK15=>?_;refine wC (wFa (b:=w.heap.size) (i:=0) (hFlT45.fld (by decide)) (eK g13_4) ?_);rw[show (0+0:Nat)=0 from rfl];refine wC (wL0 (j:=0) (v:=.int .i64 fd.kind) hcT3 (eS hz13) rb11 rfl ?_);refine wC (Z0h (k1:=.i64) (i:=fd.kind) (j:=11) (eS hz13) rfl ?_);refine wEk hz13 hd13 fun a16 ha16 hz16 hd16=>?_;have g16_0:=kP ha16 g13_0;have g16_1:=kP ha16 g13_1;have g16_2:=kP ha16 g13_2;have g16_3:=kP ha16 g13_3;have g16_4:=kP ha16 g13_4;have g16_7:=kP ha16 g13_7;have g16_8:=kP ha16 g13_8;have g16_9:=kP ha16 g13_9;have g16_19:get a16 19 = .bool ((fd.kind:Int)==(11:Int)):=kG ha16 hz13;refine hK15 a16 w9 ?_;refine wp_cond_split (t:=((fd.kind:Int)==(11:Int))) (eK g16_19) (fun hc17=>?_) (fun hc17=>?_)
  · have h11 : fd.kind = 11 := by simpa using hc17
    refine wS fun K18 hK18=>?_;refine wC (wFa (b:=w2.heap.size) (i:=0) (hFlT26.fld (by decide)) (eK g16_7) ?_);rw[show (0+3:Nat)=3 from rfl];refine wC (wL0 (j:=3) (v:=lv) hcT23 (eS hz16) rb12 rfl ?_);refine wC (wCr (R:=fun x wz=>Z0J wz B x (l.take 32767)∧w9=wz) (vs:=#[lv]) hTh.enters (mX1 (eS hz16)) ((hTh.call w9 B lv l (hl.kept hF10 (by simp) (fun _ h=>h))).mono (by rintro e w' ⟨x,rfl,h1,rfl⟩;exact ⟨x,rfl,h1,rfl⟩)) ?_);rintro x19 _ ⟨hx19,rfl⟩;obtain ⟨q19,c19,rfl,-,-,-⟩:=hx19.sl2;have hxw19:=hx19;refine wC (wAs (v:=.slice q19 ((l.take 32767).length) c19) (eS hz16) ?_);refine wEk hz16 hd16 fun a20 ha20 hz20 hd20=>?_;have g20_0:=kP ha20 g16_0;have g20_1:=kP ha20 g16_1;have g20_2:=kP ha20 g16_2;have g20_3:=kP ha20 g16_3;have g20_4:=kP ha20 g16_4;have g20_7:=kP ha20 g16_7;have g20_8:=kP ha20 g16_8;have g20_9:=kP ha20 g16_9;have g20_10:get a20 10 = .slice q19 ((l.take 32767).length) c19:=kG ha20 hz16;refine hK18 a20 w9 ?_;refine wp_seq_k fun K21 hK21=>?_;have hJ22:∀ (a':Act) (w':World),(∃ (q:Option Addr) (c:Nat),a'.tmps.size=76∧a'.defers=[]∧get a' 0 = .agg ([.int .i64 fd.kind,.int .i64 fd.fr,.int .i64 fd.to,.int .i64 fd.nul,.int .i64 fd.tag,.int .i64 fd.df,.int .i64 fd.of,fsv]:List Value).toArray∧get a' 1 = .int .i64 ver∧get a' 2 = .bool flex∧get a' 3 = .agg ([.int .i64 n,sv,.bool nl,lv,uv]:List Value).toArray∧get a' 4 = .pointer (some ⟨w.heap.size,0,none⟩)∧get a' 7 = .pointer (some ⟨w2.heap.size,0,none⟩)∧get a' 8 = .slice none 0 0∧get a' 9 = .bool nu∧get a' 10 = .slice q tl.length c∧Z0J w' B (.slice q tl.length c) tl∧w'.rangeAt w.heap.size 0 [.int .i64 fd.kind,.int .i64 fd.fr,.int .i64 fd.to,.int .i64 fd.nul,.int .i64 fd.tag,.int .i64 fd.df,.int .i64 fd.of,fsv]∧Fr [] w w'∧w4.heap.size≤w'.heap.size)→K21 a' w':=by
      rintro a22 w22 ⟨q,c,hz22,hd22,g22_0,g22_1,g22_2,g22_3,g22_4,g22_7,g22_8,g22_9,g22_10,htj,hbj,hfj,hszj⟩;have hfS:w4.heap.size≤w22.heap.size:=by have:=hszj;omega
      refine hK21 a22 w22 ?_;refine wp_seq_k fun K23 hK23=>?_;have htlb:tl.length < 4294967296:=by rw[htl];unfold Z0s;split <;> simp;omega
      have hW:ZF fd.kind fd.nul fd.of (sub ver flex) ver flex (.mk n s nl l u)=Zi flex nu tl.length 4++tl.flatMap (Zh fd.of (sub ver flex) false flex):=by rw[ZF,if_pos h11,← hnu,← htl]
      rw[hW] at hlen;rw[List.length_append] at hlen;refine Z2 ?_;refine wC (wMv (v:=.bool flex) (eK g22_2) ?_);refine wC (wMv (v:=.bool nu) (eK g22_9) ?_);refine wC (wMv (v:=.slice q tl.length c) (eK g22_10) ?_);refine wC (Zs (n:=tl.length) hsT23 (eS hz22) ?_);refine wC (wCr (R:=fun x wz=>Fr [] w22 wz∧Own wz (From w22.heap.size wz) 1 x (Zi flex nu tl.length 4).length (Z0 (Zi flex nu tl.length 4))) (vs:=#[.bool flex,.bool nu,.int .i64 ((tl.length:Nat):Int),.int .i64 4]) hCo.enters (by simp only[List.map_toArray,List.map_cons,List.map_nil];rw[eTm,nZ (by decide),nZ (by decide),nZ (by decide),sZ hz22 (by decide),eTm,nZ (by decide),nZ (by decide),sZ (zZ hz22) (by decide),eTm,sZ (zZ (zZ (zZ hz22))) (by decide),show ((((a22.put (some 24) (.bool flex)).put (some 25) (.bool nu)).put (some 26) (.slice q tl.length c)).put (some 27) (.int .i64 ((tl.length:Nat):Int))).eval (.const (.int .i64 4))=Value.int .i64 4 from rfl]) (Za (hCo.call w22 flex nu tl.length 4 htlb (by decide))) ?_);rintro x24 w24 ⟨fr24,ow24⟩;have hF25:Fr [] w w24:=hfj.tr fr24;have hL25_w22:Fr [] w22 w24:=(Fr.refl [] w22).tr fr24;have rb26:=fr24.range hbj .nil;refine wC (wAs (v:=x24) (eS hz22) ?_);refine wEk hz22 hd22 fun a27 ha27 hz27 hd27=>?_;have g27_0:=kP ha27 g22_0;have g27_1:=kP ha27 g22_1;have g27_2:=kP ha27 g22_2;have g27_3:=kP ha27 g22_3;have g27_4:=kP ha27 g22_4;have g27_7:=kP ha27 g22_7;have g27_8:=kP ha27 g22_8;have g27_9:=kP ha27 g22_9;have g27_10:=kP ha27 g22_10;have g27_11:get a27 11=x24:=kG ha27 hz22;refine hK23 a27 w24 ?_;refine wp_seq_k fun K28 hK28=>?_;refine wS fun K29 hK29=>?_;refine wC (wMv (v:=.slice q tl.length c) (eK g27_10) ?_);refine wC (Zs (n:=tl.length) hsT23 (eS hz27) ?_);refine wC (wMv (v:=.int .i64 0) rfl ?_);refine wEk hz27 hd27 fun a30 ha30 hz30 hd30=>?_;have g30_0:=kP ha30 g27_0;have g30_1:=kP ha30 g27_1;have g30_2:=kP ha30 g27_2;have g30_3:=kP ha30 g27_3;have g30_4:=kP ha30 g27_4;have g30_7:=kP ha30 g27_7;have g30_8:=kP ha30 g27_8;have g30_9:=kP ha30 g27_9;have g30_10:=kP ha30 g27_10;have g30_11:=kP ha30 g27_11;have g30_30:get a30 30 = .int .i64 ((tl.length:Nat):Int):=kG ha30 hz27;have g30_31:get a30 31 = .int .i64 0:=kG ha30 hz27;refine hK29 a30 w24 ?_;refine wp_block (wp_loop_ghost (fun (m:Nat) a' w'=>∃ (j:Nat) (v11:Value),a'.tmps.size=76∧a'.defers=[]∧get a' 0 = .agg ([.int .i64 fd.kind,.int .i64 fd.fr,.int .i64 fd.to,.int .i64 fd.nul,.int .i64 fd.tag,.int .i64 fd.df,.int .i64 fd.of,fsv]:List Value).toArray∧get a' 1 = .int .i64 ver∧get a' 2 = .bool flex∧get a' 3 = .agg ([.int .i64 n,sv,.bool nl,lv,uv]:List Value).toArray∧get a' 4 = .pointer (some ⟨w.heap.size,0,none⟩)∧get a' 7 = .pointer (some ⟨w2.heap.size,0,none⟩)∧get a' 8 = .slice none 0 0∧get a' 9 = .bool nu∧get a' 10 = .slice q tl.length c∧get a' 11=v11∧get a' 30 = .int .i64 ((tl.length:Nat):Int)∧get a' 31 = .int .i64 (j:Int)∧j+m=tl.length∧Own w' (From w4.heap.size w') 1 v11 (Zi flex nu tl.length 4++(tl.take j).flatMap (Zh fd.of (sub ver flex) false flex)).length (Z0 (Zi flex nu tl.length 4++(tl.take j).flatMap (Zh fd.of (sub ver flex) false flex)))∧w'.rangeAt w.heap.size 0 [.int .i64 fd.kind,.int .i64 fd.fr,.int .i64 fd.to,.int .i64 fd.nul,.int .i64 fd.tag,.int .i64 fd.df,.int .i64 fd.of,fsv]∧Z0J w' B (.slice q tl.length c) tl∧Fr [] w w'∧w4.heap.size≤w'.heap.size) tl.length ?_ ?_)
      · exact ⟨0,x24,hz30,hd30,g30_0,g30_1,g30_2,g30_3,g30_4,g30_7,g30_8,g30_9,g30_10,g30_11,g30_30,g30_31,by omega,by simpa using ow24.from hfS,rb26,htj.kept hL25_w22 (by simp) (fun _ h=>h),hF25,Nat.le_trans hfS hL25_w22.size⟩
      rintro m a31 w31 ⟨j,v11,hz31,hd31,g31_0,g31_1,g31_2,g31_3,g31_4,g31_7,g31_8,g31_9,g31_10,g31_11,g31_30,g31_31,hjm,ho,hbl4,htj2,hfl,hSl⟩;refine wS fun K32 hK32=>?_;refine wC (Z08 (k1:=.i64) (i:=(j:Int)) (j:=((tl.length:Nat):Int)) (eK g31_31) (eK g31_30) ?_);refine wEk hz31 hd31 fun a33 ha33 hz33 hd33=>?_;have g33_0:=kP ha33 g31_0;have g33_1:=kP ha33 g31_1;have g33_2:=kP ha33 g31_2;have g33_3:=kP ha33 g31_3;have g33_4:=kP ha33 g31_4;have g33_7:=kP ha33 g31_7;have g33_8:=kP ha33 g31_8;have g33_9:=kP ha33 g31_9;have g33_10:=kP ha33 g31_10;have g33_11:=kP ha33 g31_11;have g33_30:=kP ha33 g31_30;have g33_31:=kP ha33 g31_31;have g33_32:get a33 32 = .bool (decide (((j:Int):Int) < (((tl.length:Nat):Int):Int))):=kG ha33 hz31;refine hK32 a33 w31 ?_;refine wp_seq_k fun K34 hK34=>?_;refine wp_cond_split (t:=decide (((j:Int):Int) < (((tl.length:Nat):Int):Int))) (eK g33_32) (fun hc35=>?_) (fun hc35=>?_)
      · have hjl : j < tl.length := by simpa using hc35
        obtain ⟨te',hte⟩:∃ t,tl[j]?=some t:=⟨tl[j],by simp[hjl]⟩;obtain ⟨q',c',hqc,-,-,hk⟩:=htj2.sl2;obtain ⟨bl,ol,cl,hq,hbl,hrl,hrt⟩:=hk j te' hte
        cases hqc
        rw[hq] at g33_10;have hel:=Z5V (f:=Zh fd.of (sub ver flex) false flex) hte;have htk:=Z22 (f:=Zh fd.of (sub ver flex) false flex) hte;have hpl:=Z15 (f:=Zh fd.of (sub ver flex) false flex) (l:=tl) (j+1);refine wp_skip ?_;refine hK34 a33 w31 ?_;refine wp_seq_k fun K36 hK36=>?_;refine Zm ?_;refine wS fun K37 hK37=>?_;refine wC (wMv (v:=.int .i64 (j:Int)) (eK g33_31) ?_);refine wC (wAs (v:=.int .i64 (j:Int)) (eS hz33) ?_);refine wEk hz33 hd33 fun a38 ha38 hz38 hd38=>?_;have g38_0:=kP ha38 g33_0;have g38_1:=kP ha38 g33_1;have g38_2:=kP ha38 g33_2;have g38_3:=kP ha38 g33_3;have g38_4:=kP ha38 g33_4;have g38_7:=kP ha38 g33_7;have g38_8:=kP ha38 g33_8;have g38_9:=kP ha38 g33_9;have g38_10:=kP ha38 g33_10;have g38_11:=kP ha38 g33_11;have g38_12:get a38 12 = .int .i64 (j:Int):=kG ha38 hz33;have g38_30:=kP ha38 g33_30;have g38_31:=kP ha38 g33_31;refine hK37 a38 w31 ?_;refine Z1d (os:=[oM 34 11 t29 p29 e29,oF 35 T45 4 6 t30 p30 e30,oL 36 T3 35 t31 p31 e31,oF 37 T45 4 7 t32 p32 e32,oL 38 T29 37 t33 p33 e33,oM 39 1 t34 p34 e34,oM 40 2 t35 p35 e35,oM 41 10 t36 p36 e36,oM 42 12 t37 p37 e37,⟨some 43,.indexAddr T23 (.tmp 41) (.tmp 42),t38,p38,e38,none⟩,oL 44 T26 43 t39 p39 e39,oC 45 f75 #[(.tmp 36),(.tmp 38),(.const (.bool false)),(.tmp 39),(.tmp 40),(.tmp 44)] a3 t40 p40 e40]) (rest:=[⟨some 46,.call ⟨.builtin .append,#[(.tmp 34),(.tmp 45)],#[T22,T22]⟩,t41,p41,e41,none⟩,oT 11 46 t42 p42 e42]) [spC [] (v11),spC [] (.pointer (some ⟨w.heap.size,6,none⟩)),spC [1] (.int .i64 fd.of),spC [] (.pointer (some ⟨w.heap.size,7,none⟩)),spC [3] (fsv),spC [] (.int .i64 ver),spC [] (.bool flex),spC [] (.slice (some ⟨bl,ol,none⟩) tl.length c),spC [] (.int .i64 (j:Int)),spC [7,8] (.pointer (some ⟨bl,ol+j * 5,none⟩)),spC [9] (.agg (cl).toArray),spR [2,4,5,6,10] (fun x w'=>Own w' (From w31.heap.size w') 1 x (Zh fd.of (sub ver flex) false flex te').length (Z0 (Zh fd.of (sub ver flex) false flex te')))] 34 [] hmx he10 (by simp[Z0B]) (by simp[Z1f]) (by simp[spC,spR]) (by simp;omega) ⟨lCc _ _ _,lCc _ _ _,lCc _ _ _,lCc _ _ _,lCc _ _ _,lCc _ _ _,lCc _ _ _,lCc _ _ _,lCc _ _ _,lCc _ _ _,lCc _ _ _,(fun v w1 w2 f h=>h.upTo f (From.mono f.size)),trivial⟩ ?_ ?_
        · refine oCs ?_ ?_
          · refine op_c fun a' w' hk' hf' hd' K' hK'=>?_;refine wMv (v:=v11) (by rw[eTm,hk'.get 11 (by omega),g38_11]) ?_;exact hK'
          refine oCs ?_ ?_
          · refine op_c fun a' w' hk' hf' hd' K' hK'=>?_;refine wFa (b:=w.heap.size) (i:=0) (hFlT45.fld (by decide)) (by rw[eTm,hk'.get 4 (by omega),g38_4]) ?_;rw[show (0+6:Nat)=6 from rfl];exact hK'
          refine oCs ?_ ?_
          · refine op_c fun a' w' hk' hf' hd' K' hK'=>?_;refine wL0 (j:=6) (v:=.int .i64 fd.of) hcT3 (by rw[eTm];exact hd'.c (nd':=[]) 1 (by simp) rfl) (hf'.range hbl4 .nil) rfl ?_;exact hK'
          refine oCs ?_ ?_
          · refine op_c fun a' w' hk' hf' hd' K' hK'=>?_;refine wFa (b:=w.heap.size) (i:=0) (hFlT45.fld (by decide)) (by rw[eTm,hk'.get 4 (by omega),g38_4]) ?_;rw[show (0+7:Nat)=7 from rfl];exact hK'
          refine oCs ?_ ?_
          · refine op_c fun a' w' hk' hf' hd' K' hK'=>?_;refine wL0 (j:=7) (v:=fsv) hcT29 (by rw[eTm];exact hd'.c (nd':=[]) 3 (by simp) rfl) (hf'.range hbl4 .nil) rfl ?_;exact hK'
          refine oCs ?_ ?_
          · refine op_c fun a' w' hk' hf' hd' K' hK'=>?_;refine wMv (v:=.int .i64 ver) (by rw[eTm,hk'.get 1 (by omega),g38_1]) ?_;exact hK'
          refine oCs ?_ ?_
          · refine op_c fun a' w' hk' hf' hd' K' hK'=>?_;refine wMv (v:=.bool flex) (by rw[eTm,hk'.get 2 (by omega),g38_2]) ?_;exact hK'
          refine oCs ?_ ?_
          · refine op_c fun a' w' hk' hf' hd' K' hK'=>?_;refine wMv (v:=.slice (some ⟨bl,ol,none⟩) tl.length c) (by rw[eTm,hk'.get 10 (by omega),g38_10]) ?_;exact hK'
          refine oCs ?_ ?_
          · refine op_c fun a' w' hk' hf' hd' K' hK'=>?_;refine wMv (v:=.int .i64 (j:Int)) (by rw[eTm,hk'.get 12 (by omega),g38_12]) ?_;exact hK'
          refine oCs ?_ ?_
          · refine op_c fun a' w' hk' hf' hd' K' hK'=>?_;refine Z14 (b:=bl) (o:=ol) (i:=j) hs_T23 (by rw[eTm];exact hd'.c (nd':=[]) 7 (by simp) rfl) (by rw[eTm];exact hd'.c (nd':=[]) 8 (by simp) rfl) hjl ?_;exact hK'
          refine oCs ?_ ?_
          · refine op_c fun a' w' hk' hf' hd' K' hK'=>?_;refine Z8 (cs:=cl) (b:=bl) (o:=ol+j * 5) hFlT26 hrt.length (by rw[eTm];exact hd'.c (nd':=[7,8]) 9 (by simp) rfl) (hf'.range hrl .nil) ?_;exact hK'
          refine oCs ?_ ?_
          · refine op_r fun a' w' hk' hf' hd' K' hK'=>?_;refine wCr (R:=fun x wz=>Fr [] w' wz∧Own wz (From w'.heap.size wz) 1 x (Zh fd.of (sub ver flex) false flex te').length (Z0 (Zh fd.of (sub ver flex) false flex te'))) (vs:=#[.int .i64 fd.of,fsv,.bool false,.int .i64 ver,.bool flex,.agg (cl).toArray]) hVa.enters (by simp only[List.map_toArray,List.map_cons,List.map_nil];rw[show a'.eval (.tmp 36)=Value.int .i64 fd.of from (by rw[eTm];exact hd'.c (nd':=[1]) 2 (by simp) rfl),show a'.eval (.tmp 38)=fsv from (by rw[eTm];exact hd'.c (nd':=[3]) 4 (by simp) rfl),show a'.eval (.const (.bool false))=Value.bool false from rfl,show a'.eval (.tmp 39)=Value.int .i64 ver from (by rw[eTm];exact hd'.c (nd':=[]) 5 (by simp) rfl),show a'.eval (.tmp 40)=Value.bool flex from (by rw[eTm];exact hd'.c (nd':=[]) 6 (by simp) rfl),show a'.eval (.tmp 44)=Value.agg (cl).toArray from (by rw[eTm];exact hd'.c (nd':=[9]) 10 (by simp) rfl)]) (Za (hVa.call w' A B fsv ver flex false fd.of cl te' (hsub.kept (hfl.tr hf') (by simp) (fun _ h=>h)) (hrt.kept hf' (by simp) (fun _ h=>h)) (fun b hb=>Nat.lt_of_lt_of_le (hA b hb) (hfl.tr hf').size) (fun b hb=>Nat.lt_of_lt_of_le (hB b hb) (hfl.tr hf').size) (by omega))) ?_;rintro x39 w39 ⟨fr39,ow39⟩;exact hK' x39 w39 (ow39.from hf'.size) fr39
          exact ZY
        intro a40 w40 k40 f40 hd_40;have g40_0:get a40 0 = .agg ([.int .i64 fd.kind,.int .i64 fd.fr,.int .i64 fd.to,.int .i64 fd.nul,.int .i64 fd.tag,.int .i64 fd.df,.int .i64 fd.of,fsv]:List Value).toArray:=by rw[k40.get 0 (by omega),g38_0]
        have g40_1:get a40 1 = .int .i64 ver:=by rw[k40.get 1 (by omega),g38_1]
        have g40_2:get a40 2 = .bool flex:=by rw[k40.get 2 (by omega),g38_2]
        have g40_3:get a40 3 = .agg ([.int .i64 n,sv,.bool nl,lv,uv]:List Value).toArray:=by rw[k40.get 3 (by omega),g38_3]
        have g40_4:get a40 4 = .pointer (some ⟨w.heap.size,0,none⟩):=by rw[k40.get 4 (by omega),g38_4]
        have g40_7:get a40 7 = .pointer (some ⟨w2.heap.size,0,none⟩):=by rw[k40.get 7 (by omega),g38_7]
        have g40_8:get a40 8 = .slice none 0 0:=by rw[k40.get 8 (by omega),g38_8]
        have g40_9:get a40 9 = .bool nu:=by rw[k40.get 9 (by omega),g38_9]
        have g40_10:get a40 10 = .slice (some ⟨bl,ol,none⟩) tl.length c:=by rw[k40.get 10 (by omega),g38_10]
        have g40_30:get a40 30 = .int .i64 ((tl.length:Nat):Int):=by rw[k40.get 30 (by omega),g38_30]
        have g40_31:get a40 31 = .int .i64 (j:Int):=by rw[k40.get 31 (by omega),g38_31]
        have hz40:a40.tmps.size=76:=k40.size.trans hz38;have hd40:a40.defers=[]:=k40.defers.trans hd38;have g40_34:get a40 34=v11:=hd_40.c (nd':=[]) 0 (by simp) rfl;have hF41:Fr [] w w40:=hfl.tr f40;have hL41_w31:Fr [] w31 w40:=(Fr.refl [] w31).tr f40;have rb42:=f40.range hbl4 .nil;have hv:Own w40 (From w31.heap.size w40) 1 (get a40 45) (Zh fd.of (sub ver flex) false flex te').length (Z0 (Zh fd.of (sub ver flex) false flex te')):=hd_40.at (d:=11) (by simp) rfl;rw[wCo];have ob43:=ho.upTo hL41_w31 (From.mono hL41_w31.size);have hSl43:w4.heap.size≤w40.heap.size:=Nat.le_trans hSl hL41_w31.size;refine Z0d hs_T22 hz_T22 (eK g40_34) rfl ob43 (hv.octE (by omega)) (by rw[htk,List.length_append] at hpl;rw[List.length_append];omega) ?_;rintro v43 w43 fa43 oa43 sp43 bk43;have ho43:=oa43.imp_A (Z32 hSl43 fa43.size);have hF43:Fr [] w w43:=Z0G hF41 fa43 (ob43.from (s0:=w.heap.size) (by omega)) (fun b hb=>hb.1);have rb44:=fa43.range rb42 (fun r hr=>.inl fun e=>by have:=(ob43.spare_in r hr).1;have:=hS0;omega);have htN:=(htj2.kept hL41_w31 (by simp) (fun _ h=>h):Z0J _ B _ _).kept fa43 (A':=B) (fun r hr hb=>by have:=hB _ hb;have:=(ob43.spare_in r hr).1;omega) (fun _ h=>h);have hSN:=Nat.le_trans hSl43 fa43.size;refine wC (wAs (v:=v43) (eS hz40) ?_);refine wEk hz40 hd40 fun a45 ha45 hz45 hd45=>?_;have g45_0:=kP ha45 g40_0;have g45_1:=kP ha45 g40_1;have g45_2:=kP ha45 g40_2;have g45_3:=kP ha45 g40_3;have g45_4:=kP ha45 g40_4;have g45_7:=kP ha45 g40_7;have g45_8:=kP ha45 g40_8;have g45_9:=kP ha45 g40_9;have g45_10:=kP ha45 g40_10;have g45_11:get a45 11=v43:=kG ha45 hz40;have g45_30:=kP ha45 g40_30;have g45_31:=kP ha45 g40_31;refine hK36 a45 w43 ?_;refine Z2 ?_;refine wC (ZJ (k1:=.i64) (i:=(j:Int)) (j:=1) (eK g45_31) rfl ?_);rw[show (IntKind.i64.wrap (((j:Int):Int)+(1:Int)):Int)=(((j+1:Nat):Int):Int) from by simp only[IntKind.wrap,IntKind.bits,IntKind.signed];simp;omega];refine wC (wMv (v:=.int .i64 ((j+1:Nat):Int)) (eS hz45) ?_);refine wEk hz45 hd45 fun a46 ha46 hz46 hd46=>?_;have g46_0:=kP ha46 g45_0;have g46_1:=kP ha46 g45_1;have g46_2:=kP ha46 g45_2;have g46_3:=kP ha46 g45_3;have g46_4:=kP ha46 g45_4;have g46_7:=kP ha46 g45_7;have g46_8:=kP ha46 g45_8;have g46_9:=kP ha46 g45_9;have g46_10:=kP ha46 g45_10;have g46_11:=kP ha46 g45_11;have g46_30:=kP ha46 g45_30;have g46_31:get a46 31 = .int .i64 ((j+1:Nat):Int):=kG ha46 hz45;rw[← hq] at g46_10;refine ⟨m - 1,by omega,j+1,_,hz46,hd46,g46_0,g46_1,g46_2,g46_3,g46_4,g46_7,g46_8,g46_9,g46_10,g46_11,g46_30,g46_31,by omega,?_,rb44,htN.kept (Fr.refl [] w43) (by simp) (fun _ h=>h),hF43,Nat.le_trans hSN (Fr.refl [] w43).size⟩;rw[htk,← List.append_assoc];exact ho43.upTo (Fr.refl [] w43) (From.mono (Fr.refl [] w43).size)
      have hj0:j=tl.length:=by simp at hc35;omega
      rw[hj0,List.take_length] at ho;refine wp_exit ?_;show K28 a33 w31
      refine hK28 a33 w31 ?_;refine wS fun K47 hK47=>?_;refine wC (wMv (v:=v11) (eK g33_11) ?_);refine wC (wAs (v:=v11) (eS hz33) ?_);refine wEk hz33 hd33 fun a48 ha48 hz48 hd48=>?_;have g48_8:get a48 8=v11:=kG ha48 hz33;refine hK47 a48 w31 ?_;refine wp_ret ?_;rw[hW];exact ⟨hd48,_,rIs hres g48_8,_,rfl,hfl,ho.from (by omega)⟩
    refine wS fun K49 hK49=>?_;refine wC (wMv (v:=.bool nu) (eK g20_9) ?_);refine wEk hz20 hd20 fun a50 ha50 hz50 hd50=>?_;have g50_0:=kP ha50 g20_0;have g50_1:=kP ha50 g20_1;have g50_2:=kP ha50 g20_2;have g50_3:=kP ha50 g20_3;have g50_4:=kP ha50 g20_4;have g50_7:=kP ha50 g20_7;have g50_8:=kP ha50 g20_8;have g50_9:=kP ha50 g20_9;have g50_10:=kP ha50 g20_10;have g50_23:get a50 23 = .bool nu:=kG ha50 hz20;refine hK49 a50 w9 ?_;refine wp_cond_split (t:=nu) (eK g50_23) (fun hc51=>?_) (fun hc51=>?_)
    · have hnt : nu = true := hc51;have htl0 : tl = [] := by rw [htl, hnt]; rfl
      refine Z2 ?_;refine wC (wAs (v:=.slice none 0 0) rfl ?_);refine wEk hz50 hd50 fun a52 ha52 hz52 hd52=>?_;have g52_0:=kP ha52 g50_0;have g52_1:=kP ha52 g50_1;have g52_2:=kP ha52 g50_2;have g52_3:=kP ha52 g50_3;have g52_4:=kP ha52 g50_4;have g52_7:=kP ha52 g50_7;have g52_8:=kP ha52 g50_8;have g52_9:=kP ha52 g50_9;have g52_10:get a52 10 = .slice none 0 0:=kG ha52 hz50;have hq10:=g52_10;rw[show (.slice none 0 0:Value) = .slice none tl.length 0 from by rw[htl0];rfl] at hq10;exact hJ22 a52 w9 ⟨none,0,hz52,hd52,g52_0,g52_1,g52_2,g52_3,g52_4,g52_7,g52_8,g52_9,hq10,by rw[htl0];exact .inl ⟨.inl rfl,rfl⟩,rb11,hF10,hL10_w4.size⟩
    have hnf:nu=false:=hc51;have htl0:tl=l.take 32767:=by rw[htl,hnf];rfl
    refine wp_skip ?_;have hq10:=g50_10;rw[show (.slice q19 ((l.take 32767).length) c19:Value) = .slice q19 tl.length c19 from by rw[htl0]] at hq10;exact hJ22 a50 w9 ⟨q19,c19,hz50,hd50,g50_0,g50_1,g50_2,g50_3,g50_4,g50_7,g50_8,g50_9,hq10,by rw[htl0];exact hx19.kept (Fr.refl [] w9) (by simp) (fun _ h=>h),rb11,hF10,hL10_w4.size⟩
  have n11:fd.kind ≠ 11:=by simpa using hc17
  refine wp_skip ?_;refine hK14 a16 w9 (tUp ?_);refine tId (wp_seq_k fun K53 hK53=>?_);refine wp_seq_k fun K54 hK54=>?_
  by_cases h10:fd.kind=10;rotate_left
  · refine Z0c ?_;refine gCn ?_;refine wFa (b := w.heap.size) (i := 0) (hFlT45.fld (by decide)) (eK g16_4) ?_;rw [show (0 + 0 : Nat) = 0 from rfl];refine gCn ?_;refine wL0 (j := 0) (v := .int .i64 fd.kind) hcT3 (eS hz16) rb11 rfl ?_;refine gCn ?_;refine ZX (k1 := .i64) (i := fd.kind) (j := 10) h10 (eS hz16) rfl ?_;refine gCn ?_;refine wMv (v := .bool false) (eS hz16) ?_;refine Z09 (dj := 52) rfl (lZ hz16) (gS hz16) ?_;refine Z09 (dj := 52) rfl (lZ hz16) (gS hz16) ?_;refine Z09 (dj := 52) rfl (lZ hz16) (gS hz16) ?_;refine gCn ?_;refine ZL (v := .bool false) (eS hz16) rfl ?_;refine Z0u fun a55 ha55 => ?_;have hz55 := kS ha55 hz16;have hd55 := kD ha55 hd16;have g55_1 := kP ha55 g16_1;have g55_2 := kP ha55 g16_2;have g55_4 := kP ha55 g16_4;have g55_7 := kP ha55 g16_7;have g55_9 := kP ha55 g16_9;have g55_56 : get a55 56 = .bool false := kG ha55 hz16;refine hK54 a55 w9 ?_;refine wp_cond_split (t := false) (eK g55_56) (fun h => by cases h) (fun _ => ?_);refine wp_skip ?_;refine hK53 a55 w9 (tUp ?_);refine tId (wp_seq_k fun K57 hK57 => ?_);have hW : ZF fd.kind fd.nul fd.of (sub ver flex) ver flex (.mk n s nl l u) = Zh fd.kind (sub ver flex) nu flex (.mk n s nl l u) := by rw [ZF, if_neg n11, if_neg (fun h => h10 h.1), ← hnu]
    rw[hW] at hlen;refine Z2 ?_;refine wC (wFa (b:=w.heap.size) (i:=0) (hFlT45.fld (by decide)) (eK g55_4) ?_);rw[show (0+0:Nat)=0 from rfl];refine wC (wL0 (j:=0) (v:=.int .i64 fd.kind) hcT3 (eS hz55) rb11 rfl ?_);refine wC (wFa (b:=w.heap.size) (i:=0) (hFlT45.fld (by decide)) (eK g55_4) ?_);rw[show (0+7:Nat)=7 from rfl];refine wC (wL0 (j:=7) (v:=fsv) hcT29 (eS hz55) rb11 rfl ?_);refine wC (wMv (v:=.bool nu) (eK g55_9) ?_);refine wC (wMv (v:=.int .i64 ver) (eK g55_1) ?_);refine wC (wMv (v:=.bool flex) (eK g55_2) ?_);refine wC (Z8 (cs:=[.int .i64 n,sv,.bool nl,lv,uv]) (b:=w2.heap.size) (o:=0) hFlT26 rfl (eK g55_7) rb12 ?_);refine wC (wCr (R:=fun x wz=>Fr [] w9 wz∧Own wz (From w9.heap.size wz) 1 x (Zh fd.kind (sub ver flex) nu flex (.mk n s nl l u)).length (Z0 (Zh fd.kind (sub ver flex) nu flex (.mk n s nl l u)))) (vs:=#[.int .i64 fd.kind,fsv,.bool nu,.int .i64 ver,.bool flex,.agg ([.int .i64 n,sv,.bool nl,lv,uv]:List Value).toArray]) hVa.enters (by simp only[List.map_toArray,List.map_cons,List.map_nil];rw[eTm,nZ (by decide),nZ (by decide),nZ (by decide),nZ (by decide),nZ (by decide),nZ (by decide),sZ (zZ hz55) (by decide),eTm,nZ (by decide),nZ (by decide),nZ (by decide),nZ (by decide),sZ (zZ (zZ (zZ hz55))) (by decide),eTm,nZ (by decide),nZ (by decide),nZ (by decide),sZ (zZ (zZ (zZ (zZ hz55)))) (by decide),eTm,nZ (by decide),nZ (by decide),sZ (zZ (zZ (zZ (zZ (zZ hz55))))) (by decide),eTm,nZ (by decide),sZ (zZ (zZ (zZ (zZ (zZ (zZ hz55)))))) (by decide),eTm,sZ (zZ (zZ (zZ (zZ (zZ (zZ (zZ hz55))))))) (by decide)]) (Za (hVa.call w9 A B fsv ver flex nu fd.kind _ (.mk n s nl l u) (hsub.kept hF10 (by simp) (fun _ h=>h)) (ht0.kept hF10 (by simp) (fun _ h=>h)) (fun b hb=>Nat.lt_of_lt_of_le (hA b hb) hF10.size) (fun b hb=>Nat.lt_of_lt_of_le (hB b hb) hF10.size) hlen)) ?_);rintro x58 w58 ⟨fr58,ow58⟩;have hF59:Fr [] w w58:=hF10.tr fr58;have rb60:=fr58.range rb11 .nil;have rb61:=fr58.range rb12 .nil;refine wC (wAs (v:=x58) (eS hz55) ?_);refine wEk hz55 hd55 fun a62 ha62 hz62 hd62=>?_;have g62_8:get a62 8=x58:=kG ha62 hz55;refine hK57 a62 w58 (tUp ?_);refine wp_ret ?_;rw[hW];exact ⟨hd62,_,rIs hres g62_8,_,rfl,hF59,ow58.from (by have:=hF10.size;omega)⟩
  by_cases hnn:fd.nul≥0
  · refine Z0c ?_;refine gCn ?_;refine wFa (b := w.heap.size) (i := 0) (hFlT45.fld (by decide)) (eK g16_4) ?_;rw [show (0 + 0 : Nat) = 0 from rfl];refine gCn ?_;refine wL0 (j := 0) (v := .int .i64 fd.kind) hcT3 (eS hz16) rb11 rfl ?_;refine gCn ?_;refine Z1l (k1 := .i64) (i := fd.kind) (j := 10) h10 (eS hz16) rfl ?_;refine gCn ?_;refine wMv (v := .bool true) (eS hz16) ?_;refine Zq (dj := 52) rfl (lZ hz16) (gS hz16) ?_;refine wFa (b := w.heap.size) (i := 0) (hFlT45.fld (by decide)) (eK g16_4) ?_;rw [show (0 + 3 : Nat) = 3 from rfl];refine Zq (dj := 52) rfl (lZ hz16) (gS hz16) ?_;refine wL0 (j := 3) (v := .int .i64 fd.nul) hcT3 (eS hz16) rb11 rfl ?_;refine Zq (dj := 52) rfl (lZ hz16) (gS hz16) ?_;refine Z2w (k1 := .i64) (i := fd.nul) (j := 0) hnn (eS hz16) rfl ?_;refine gCn ?_;refine Zv (v := .bool true) (eS hz16) (eS hz16) ?_;refine Z0u fun a63 ha63 => ?_;have hz63 := kS ha63 hz16;have hd63 := kD ha63 hd16;have g63_1 := kP ha63 g16_1;have g63_2 := kP ha63 g16_2;have g63_4 := kP ha63 g16_4;have g63_7 := kP ha63 g16_7;have g63_9 := kP ha63 g16_9;have g63_56 : get a63 56 = .bool true := kG ha63 hz16;refine hK54 a63 w9 ?_;refine wp_cond_split (t := true) (eK g63_56) (fun _ => ?_) (fun h => by cases h);refine wp_seq_k fun K65 hK65 => ?_;refine wS fun K66 hK66 => ?_;refine wC (wMv (v := .bool nu) (eK g63_9) ?_);refine wEk hz63 hd63 fun a67 ha67 hz67 hd67 => ?_;have g67_1 := kP ha67 g63_1;have g67_2 := kP ha67 g63_2;have g67_4 := kP ha67 g63_4;have g67_7 := kP ha67 g63_7;have g67_57 : get a67 57 = .bool nu := kG ha67 hz63;refine hK66 a67 w9 ?_;refine wp_cond_split (t := nu) (eK g67_57) (fun hc68 => ?_) (fun hc68 => ?_)
    · have hnt : nu = true := hc68;refine wp_seq_k fun K69 hK69 => ?_;have hW : ZF fd.kind fd.nul fd.of (sub ver flex) ver flex (.mk n s nl l u) = fxW (-1) 1 := by rw [ZF, if_neg n11, if_pos ⟨h10, hnn⟩, ← hnu, hnt]; rfl
      refine Z2 ?_;refine wC (wCr (R:=fun x wz=>Fr [] w9 wz∧Own wz (From w9.heap.size wz) 1 x (fxW (-1) 1).length (Z0 (fxW (-1) 1))) (vs:=#[.int .i64 (-1),.int .i64 1]) hFx.enters (by simp[eCo]) (Za (hFx.call w9 (-1) 1 (by decide))) ?_);rintro x70 w70 ⟨fr70,ow70⟩;have hF71:Fr [] w w70:=hF10.tr fr70;have rb72:=fr70.range rb11 .nil;have rb73:=fr70.range rb12 .nil;refine wC (wAs (v:=x70) (eS hz67) ?_);refine wEk hz67 hd67 fun a74 ha74 hz74 hd74=>?_;have g74_8:get a74 8=x70:=kG ha74 hz67;refine hK69 a74 w70 ?_;refine wp_ret ?_;rw[hW];exact ⟨hd74,_,rIs hres g74_8,_,rfl,hF71,ow70.from (by have:=hF10.size;omega)⟩
    have hnf:nu=false:=hc68;refine wp_skip ?_;refine hK65 a67 w9 ?_;refine wp_seq_k fun K75 hK75=>?_;have hW:ZF fd.kind fd.nul fd.of (sub ver flex) ver flex (.mk n s nl l u)=fxW 1 1++sub ver flex (.mk n s nl l u):=by rw[ZF,if_neg n11,if_pos ⟨h10,hnn⟩,← hnu,hnf];rfl
    rw[hW,List.length_append] at hlen;have hle0:=hF10.size;refine Z1d (os:=[oC 59 f76 #[(.const (.int .i64 1)),(.const (.int .i64 1))] a5 t58 p58 e58,oF 60 T45 4 7 t59 p59 e59,oL 61 T29 60 t60 p60 e60,oM 62 1 t61 p61 e61,oM 63 2 t62 p62 e62,oL 64 T26 7 t63 p63 e63,oC 65 f26 #[(.tmp 61),(.tmp 62),(.tmp 63),(.tmp 64)] a6 t64 p64 e64]) (rest:=[⟨some 66,.call ⟨.builtin .append,#[(.tmp 59),(.tmp 65)],#[T22,T22]⟩,t65,p65,e65,none⟩,oT 8 66 t66 p66 e66]) [spR [] (fun x w'=>Own w' (From w9.heap.size w') 1 x (fxW 1 1).length (Z0 (fxW 1 1))),spC [] (.pointer (some ⟨w.heap.size,7,none⟩)),spC [1] (fsv),spC [] (.int .i64 ver),spC [] (.bool flex),spC [] (.agg ([.int .i64 n,sv,.bool nl,lv,uv]:List Value).toArray),spR [2,3,4,5] (fun x w'=>Own w' (From w9.heap.size w') 1 x (sub ver flex (.mk n s nl l u)).length (Z0 (sub ver flex (.mk n s nl l u))))] 59 [] hmx he16 (by simp[Z0B]) (by simp[Z1f]) (by simp[spC,spR]) (by simp;omega) ⟨(fun v w1 w2 f h=>h.upTo f (From.mono f.size)),lCc _ _ _,lCc _ _ _,lCc _ _ _,lCc _ _ _,lCc _ _ _,(fun v w1 w2 f h=>h.upTo f (From.mono f.size)),trivial⟩ ?_ ?_
    · refine oCs ?_ ?_
      · refine op_r fun a' w' hk' hf' hd' K' hK'=>?_;refine wCr (R:=fun x wz=>Fr [] w' wz∧Own wz (From w'.heap.size wz) 1 x (fxW 1 1).length (Z0 (fxW 1 1))) (vs:=#[.int .i64 1,.int .i64 1]) hFx.enters (by simp[eCo]) (Za (hFx.call w' 1 1 (by decide))) ?_;rintro x76 w76 ⟨fr76,ow76⟩;exact hK' x76 w76 (ow76.from hf'.size) fr76
      refine oCs ?_ ?_
      · refine op_c fun a' w' hk' hf' hd' K' hK'=>?_;refine wFa (b:=w.heap.size) (i:=0) (hFlT45.fld (by decide)) (by rw[eTm,hk'.get 4 (by omega),g67_4]) ?_;rw[show (0+7:Nat)=7 from rfl];exact hK'
      refine oCs ?_ ?_
      · refine op_c fun a' w' hk' hf' hd' K' hK'=>?_;refine wL0 (j:=7) (v:=fsv) hcT29 (by rw[eTm];exact hd'.c (nd':=[]) 1 (by simp) rfl) (hf'.range rb11 .nil) rfl ?_;exact hK'
      refine oCs ?_ ?_
      · refine op_c fun a' w' hk' hf' hd' K' hK'=>?_;refine wMv (v:=.int .i64 ver) (by rw[eTm,hk'.get 1 (by omega),g67_1]) ?_;exact hK'
      refine oCs ?_ ?_
      · refine op_c fun a' w' hk' hf' hd' K' hK'=>?_;refine wMv (v:=.bool flex) (by rw[eTm,hk'.get 2 (by omega),g67_2]) ?_;exact hK'
      refine oCs ?_ ?_
      · refine op_c fun a' w' hk' hf' hd' K' hK'=>?_;refine Z8 (cs:=[.int .i64 n,sv,.bool nl,lv,uv]) (b:=w2.heap.size) (o:=0) hFlT26 rfl (by rw[eTm,hk'.get 7 (by omega),g67_7]) (hf'.range rb12 .nil) ?_;exact hK'
      refine oCs ?_ ?_
      · refine op_r fun a' w' hk' hf' hd' K' hK'=>?_;refine wCr (R:=fun x wz=>Fr [] w' wz∧Own wz (From w'.heap.size wz) 1 x (sub ver flex (.mk n s nl l u)).length (Z0 (sub ver flex (.mk n s nl l u)))) (vs:=#[fsv,.int .i64 ver,.bool flex,.agg ([.int .i64 n,sv,.bool nl,lv,uv]:List Value).toArray]) hPa.enters (by simp only[List.map_toArray,List.map_cons,List.map_nil];rw[show a'.eval (.tmp 61)=fsv from (by rw[eTm];exact hd'.c (nd':=[1]) 2 (by simp) rfl),show a'.eval (.tmp 62)=Value.int .i64 ver from (by rw[eTm];exact hd'.c (nd':=[]) 3 (by simp) rfl),show a'.eval (.tmp 63)=Value.bool flex from (by rw[eTm];exact hd'.c (nd':=[]) 4 (by simp) rfl),show a'.eval (.tmp 64)=Value.agg ([.int .i64 n,sv,.bool nl,lv,uv]:List Value).toArray from (by rw[eTm];exact hd'.c (nd':=[]) 5 (by simp) rfl)]) (Za (hPa.call w' A B fsv ver flex _ (.mk n s nl l u) (hsub.kept (hF10.tr hf') (by simp) (fun _ h=>h)) (ht0.kept (hF10.tr hf') (by simp) (fun _ h=>h)) (fun b hb=>Nat.lt_of_lt_of_le (hA b hb) (hF10.tr hf').size) (fun b hb=>Nat.lt_of_lt_of_le (hB b hb) (hF10.tr hf').size) (by omega))) ?_;rintro x77 w77 ⟨fr77,ow77⟩;exact hK' x77 w77 (ow77.from hf'.size) fr77
      exact ZY
    intro a78 w78 k78 f78 hd_78;have hz78:a78.tmps.size=76:=k78.size.trans hz67;have hd78:a78.defers=[]:=k78.defers.trans hd67;have hF79:Fr [] w w78:=hF10.tr f78;have hL79_w9:Fr [] w9 w78:=(Fr.refl [] w9).tr f78;have rb80:=f78.range rb11 .nil;have rb81:=f78.range rb12 .nil;have hv0:Own w78 (From w9.heap.size w78) 1 (get a78 59) (fxW 1 1).length (Z0 (fxW 1 1)):=hd_78.at (d:=0) (by simp) rfl;have hv6:Own w78 (From w9.heap.size w78) 1 (get a78 65) (sub ver flex (.mk n s nl l u)).length (Z0 (sub ver flex (.mk n s nl l u))):=hd_78.at (d:=6) (by simp) rfl;rw[wCo];have ob82:=hv0;have hSl82:w9.heap.size≤w78.heap.size:=hL79_w9.size;refine Z0d hs_T22 hz_T22 rfl rfl ob82 (hv6.octE (by omega)) (by omega) ?_;rintro v82 w82 fa82 oa82 sp82 bk82;have ho82:=oa82.imp_A (Z32 hSl82 fa82.size);have hF82:Fr [] w w82:=Z0G hF79 fa82 (ob82.from (s0:=w.heap.size) (by omega)) (fun b hb=>hb.1);refine wC (wAs (v:=v82) (eS hz78) ?_);refine wEk hz78 hd78 fun a83 ha83 hz83 hd83=>?_;have g83_8:get a83 8=v82:=kG ha83 hz78;refine hK75 a83 w82 ?_;refine wp_ret ?_;rw[hW];exact ⟨hd83,_,rIs hres g83_8,_,rfl,hF82,ho82.from (by omega)⟩
  refine Z0c ?_;refine gCn ?_;refine wFa (b:=w.heap.size) (i:=0) (hFlT45.fld (by decide)) (eK g16_4) ?_;rw[show (0+0:Nat)=0 from rfl];refine gCn ?_;refine wL0 (j:=0) (v:=.int .i64 fd.kind) hcT3 (eS hz16) rb11 rfl ?_;refine gCn ?_;refine Z1l (k1:=.i64) (i:=fd.kind) (j:=10) h10 (eS hz16) rfl ?_;refine gCn ?_;refine wMv (v:=.bool true) (eS hz16) ?_;refine Zq (dj:=52) rfl (lZ hz16) (gS hz16) ?_;refine wFa (b:=w.heap.size) (i:=0) (hFlT45.fld (by decide)) (eK g16_4) ?_;rw[show (0+3:Nat)=3 from rfl];refine Zq (dj:=52) rfl (lZ hz16) (gS hz16) ?_;refine wL0 (j:=3) (v:=.int .i64 fd.nul) hcT3 (eS hz16) rb11 rfl ?_;refine Zq (dj:=52) rfl (lZ hz16) (gS hz16) ?_;refine Z3c (k1:=.i64) (i:=fd.nul) (j:=0) hnn (eS hz16) rfl ?_;refine gCn ?_;refine Zv (v:=.bool false) (eS hz16) (eS hz16) ?_;refine Z0u fun a84 ha84=>?_;have hz84:=kS ha84 hz16;have hd84:=kD ha84 hd16;have g84_1:=kP ha84 g16_1;have g84_2:=kP ha84 g16_2;have g84_4:=kP ha84 g16_4;have g84_7:=kP ha84 g16_7;have g84_9:=kP ha84 g16_9;have g84_56:get a84 56 = .bool false:=kG ha84 hz16;refine hK54 a84 w9 ?_;refine wp_cond_split (t:=false) (eK g84_56) (fun h=>by cases h) (fun _=>?_);refine wp_skip ?_;refine hK53 a84 w9 (tUp ?_);refine tId (wp_seq_k fun K86 hK86=>?_);have hW:ZF fd.kind fd.nul fd.of (sub ver flex) ver flex (.mk n s nl l u)=Zh fd.kind (sub ver flex) nu flex (.mk n s nl l u):=by rw[ZF,if_neg n11,if_neg (fun h=>hnn h.2),← hnu]
  rw[hW] at hlen;refine Z2 ?_;refine wC (wFa (b:=w.heap.size) (i:=0) (hFlT45.fld (by decide)) (eK g84_4) ?_);rw[show (0+0:Nat)=0 from rfl];refine wC (wL0 (j:=0) (v:=.int .i64 fd.kind) hcT3 (eS hz84) rb11 rfl ?_);refine wC (wFa (b:=w.heap.size) (i:=0) (hFlT45.fld (by decide)) (eK g84_4) ?_);rw[show (0+7:Nat)=7 from rfl];refine wC (wL0 (j:=7) (v:=fsv) hcT29 (eS hz84) rb11 rfl ?_);refine wC (wMv (v:=.bool nu) (eK g84_9) ?_);refine wC (wMv (v:=.int .i64 ver) (eK g84_1) ?_);refine wC (wMv (v:=.bool flex) (eK g84_2) ?_);refine wC (Z8 (cs:=[.int .i64 n,sv,.bool nl,lv,uv]) (b:=w2.heap.size) (o:=0) hFlT26 rfl (eK g84_7) rb12 ?_);refine wC (wCr (R:=fun x wz=>Fr [] w9 wz∧Own wz (From w9.heap.size wz) 1 x (Zh fd.kind (sub ver flex) nu flex (.mk n s nl l u)).length (Z0 (Zh fd.kind (sub ver flex) nu flex (.mk n s nl l u)))) (vs:=#[.int .i64 fd.kind,fsv,.bool nu,.int .i64 ver,.bool flex,.agg ([.int .i64 n,sv,.bool nl,lv,uv]:List Value).toArray]) hVa.enters (by simp only[List.map_toArray,List.map_cons,List.map_nil];rw[eTm,nZ (by decide),nZ (by decide),nZ (by decide),nZ (by decide),nZ (by decide),nZ (by decide),sZ (zZ hz84) (by decide),eTm,nZ (by decide),nZ (by decide),nZ (by decide),nZ (by decide),sZ (zZ (zZ (zZ hz84))) (by decide),eTm,nZ (by decide),nZ (by decide),nZ (by decide),sZ (zZ (zZ (zZ (zZ hz84)))) (by decide),eTm,nZ (by decide),nZ (by decide),sZ (zZ (zZ (zZ (zZ (zZ hz84))))) (by decide),eTm,nZ (by decide),sZ (zZ (zZ (zZ (zZ (zZ (zZ hz84)))))) (by decide),eTm,sZ (zZ (zZ (zZ (zZ (zZ (zZ (zZ hz84))))))) (by decide)]) (Za (hVa.call w9 A B fsv ver flex nu fd.kind _ (.mk n s nl l u) (hsub.kept hF10 (by simp) (fun _ h=>h)) (ht0.kept hF10 (by simp) (fun _ h=>h)) (fun b hb=>Nat.lt_of_lt_of_le (hA b hb) hF10.size) (fun b hb=>Nat.lt_of_lt_of_le (hB b hb) hF10.size) hlen)) ?_);rintro x87 w87 ⟨fr87,ow87⟩;have hF88:Fr [] w w87:=hF10.tr fr87;have rb89:=fr87.range rb11 .nil;have rb90:=fr87.range rb12 .nil;refine wC (wAs (v:=x87) (eS hz84) ?_);refine wEk hz84 hd84 fun a91 ha91 hz91 hd91=>?_;have g91_8:get a91 8=x87:=kG ha91 hz84;refine hK86 a91 w87 (tUp ?_);refine wp_ret ?_;rw[hW];exact ⟨hd91,_,rIs hres g91_8,_,rfl,hF88,ow87.from (by have:=hF10.size;omega)⟩
end Go.Kq

namespace Go.Kq
open Go Go.Proofs
theorem Z3M {n:Nat} (h:n < 18446744073709551616):IntKind.u64.wrap (n:Int)=n:=by
  simp only[IntKind.wrap,IntKind.bits,IntKind.signed];simp;omega
theorem Z2H:∀ {fs:List Fd},(∀ f ∈ fs,f.tag < 0)→Z7 fs=0
  | [],_=>rfl
  | f :: fs, h => by
    have:=h f (by simp);rw[Z7,if_neg (by omega)];exact Z2H fun g hg=>h g (by simp[hg])
theorem Z6Z {fs:List Fd} {ver:Int} {encs:List (List UInt8)}:∀ {m n:Nat},n≤m→(Z0R fs ver encs n).length≤(Z0R fs ver encs m).length
  | 0, n, h => by have : n = 0 := by omega
                  subst this;exact Nat.le_refl _
  | m + 1, n, h => by
    by_cases hn:n=m+1
    · subst hn;exact Nat.le_refl _
    refine Nat.le_trans (Z6Z (m:=m) (by omega)) ?_;unfold Z0R;rw[List.range_succ,List.flatMap_append,List.length_append];omega
theorem Z7R {fs:List Fd} {t:T} {j:Nat} {p:Nat × List UInt8} (h:(ZD fs t)[j]?=some p):((ZD fs t).take (j+1)).flatMap ZP=((ZD fs t).take j).flatMap ZP++ZP p:=by
  rw[List.take_add_one,h,List.flatMap_append];simp
theorem Z5s {fs:List Fd} {t:T} (j:Nat):(((ZD fs t).take j).flatMap ZP).length≤((ZD fs t).flatMap ZP).length:=by
  conv=>rhs;rw[← List.take_append_drop j (ZD fs t),List.flatMap_append,List.length_append]
  omega
end Go.Kq

namespace Go.Kq
open Go Go.Proofs
def zM:List Value:=[.slice none 0 0,.int .i64 0]
theorem Z1b.congr {P:Program} {f:FuncId} {fd:Fd} {e1 e2:Int→Bool→T→List UInt8} (h:Z1b P f fd e1) (he:∀ ver flex t,e1 ver flex t=e2 ver flex t):Z1b P f fd e2:=by
  have:e1=e2:=by funext a b c;exact he a b c
  rw[← this];exact h
structure Z8N (P:Program) (f:FuncId) (fs:List Fd) (enc:Int→Bool→T→List UInt8):Prop where
  enters:Enters P f
  call:∀ (w:World) (A B:Nat→Prop) (ver fx:Int) (fsv:Value) (ct:List Value) (t:T),FdsR w A fsv fs→RepT w B ct t→(∀ b,A b→b < w.heap.size)→(∀ b,B b→b < w.heap.size)→(enc ver (decide (fx≥0) && decide (ver≥fx)) t).length≤4294967296 →
    Calls P f #[.agg ([fsv,.int .i64 fx]:List Value).toArray,.int .i64 ver,.agg ct.toArray] w (Z61 w (enc ver (decide (fx≥0) && decide (ver≥fx)) t))
inductive Z0t (w:World) (A:Nat→Prop):List (List Value)→List Fd→Prop where
  | nil:Z0t w A [] []
  | cons {c:List Value} {f:Fd} {cs:List (List Value)} {fs:List Fd} (h:RepF w A c f) (t:Z0t w A cs fs):Z0t w A (c::cs) (f::fs)
theorem Z0t.len {w:World} {A:Nat→Prop} {cs:List (List Value)} {fs:List Fd} (h:Z0t w A cs fs):cs.length=fs.length:=by
  induction h with
  | nil=>rfl
  | cons _ _ ih=>simp[ih]
theorem Z0t.kept {w w':World} {A A':Nat→Prop} {cs:List (List Value)} {fs:List Fd} (h:Z0t w A cs fs) (f:Fr [] w w') (hA:∀ b,A b→A' b):Z0t w' A' cs fs:=by
  induction h with
  | nil=>exact .nil
  | cons h _ ih=>exact .cons (h.kept f (by simp) hA) ih
theorem Z0t.at {w:World} {A:Nat→Prop} {cs:List (List Value)} {fs:List Fd} (h:Z0t w A cs fs):∀ {b o:Nat},w.rangeAt b o cs.flatten→∀ (i:Nat) (f:Fd),fs[i]?=some f→w.rangeAt b (o+i * 8) (cs.getD i [])∧RepF w A (cs.getD i []) f:=by
  induction h with
  | nil=>intro b o _ i f hi;simp at hi
  | @cons c g cs fs hc _ ih =>
    intro b o hr i f hi;rw[List.flatten_cons,Z4,hc.length] at hr
    cases i with
    | zero=>simp at hi;subst hi;exact ⟨by simpa using hr.1,hc⟩
    | succ i =>
      have:=ih hr.2 i f (by simpa using hi);rw[show o+8+i * 8=o+(i+1) * 8 from by omega] at this
      simpa using this
theorem FdsR.laid {w:World} {A:Nat→Prop} {cs:List (List Value)} {fs:List Fd} {b:Nat} (h:Z0t w A cs fs) (hr:w.rangeAt b 0 cs.flatten) (hb:A b) (hl:fs.length≤4294967296):FdsR w A (.slice (some ⟨b,0,none⟩) fs.length fs.length) fs :=
  .inr ⟨b,0,fs.length,hb,rfl,⟨Nat.le_refl _,hl⟩,fun i=>cs.getD i [],fun i f hi=>(h.at hr i f hi).1,fun i f hi=>(h.at hr i f hi).2⟩
theorem Z3P {P:Program} {a:Act} {w:World} {K:Act→World→Prop} {Q:Exit→Act→World→Prop} {d:Option Tmp} {t:TypeId} {p:String} {af:Array Edge} {g:Option (Nat × Bool)} {T e bs n s0:Nat} {A:Nat→Prop} {xs:List Operand} {css:List (List Value)} {fs:List Fd}
    (hT:Z3 P T e 8 bs=true) (hx:xs.map a.eval=css.map fun c=>.agg c.toArray) (h:Z0t w A css fs) (hn:n=fs.length) (hn0:0 < n) (hn1:n≤2000000) (hA:∀ b,A b→s0≤b∧b < w.heap.size) (hs:s0≤w.heap.size)
    (k:∀ w' v,Fr [] w w'→FdsR w' (From s0 w') v fs→K (a.put d v) w') :
    OW P ⟨d,.buildSlice T n ((xs.zipIdx 0).map fun x=>(x.2,x.1)).toArray,t,p,af,g⟩ a w K Q:=by
  have hl:=h.len;have hr:=ZE w css.flatten.toArray e (0,0);have hl8:∀ (cs:List (List Value)) (fs:List Fd),Z0t w A cs fs→∀ c ∈ cs,c.length=8:=by
    intro cs fs h
    induction h with
    | nil=>simp
    | cons h _ ih => intro c hc; rcases List.mem_cons.1 hc with rfl | hc
                     · exact h.length
                     exact ih c hc
  refine Z1u (css:=css) hT (by omega) hn0 (by omega) (by rw[hx];simp only[List.map_map];congr 1) (hl8 _ _ h) (k _ _ (Fr.alloc _ _ _) ?_);have hf:=Fr.alloc [] w (.cells css.flatten.toArray e);have hsz:=Zb w (.cells css.flatten.toArray e);rw[hn];exact FdsR.laid (h.kept hf fun b hb=>⟨(hA b hb).1,by have:=(hA b hb).2;omega⟩) (by simpa using hr) ⟨hs,by omega⟩ (by omega)
theorem ZU {P:Program} {a:Act} {w:World} {K:Act→World→Prop} {Q:Exit→Act→World→Prop} {d:Option Tmp} {t:TypeId} {p:String} {af:Array Edge} {g:Option (Nat × Bool)} {s:TypeId} {z cs:List Value} {ps:List (Nat × Operand)} {vs:List (Nat × Value)} (h:Flat P s z) (hv:ps.map (fun p=>(p.1,a.eval p.2))=vs) (h1:∀ p ∈ vs,p.1 < z.length∧p.2.oneCell'=true) (hc:laid z vs=cs)
    (k:K (a.put d (.agg cs.toArray)) w):OW P ⟨d,.build s ps.toArray,t,p,af,g⟩ a w K Q:=Z5k h hv h1 (by rw[hc];exact k)
structure SubM (P:Program) (f:FuncId) (fs:List Fd):Prop where
  enters:Enters P f
  call:∀ (w:World),Calls P f #[] w fun e w'=>∃ v,e = .returned v∧Fr [] w w'∧FdsR w' (From w.heap.size w') v fs
structure SchM (P:Program) (f:FuncId) (fs:List Fd) (fx:Int):Prop where
  enters:Enters P f
  call:∀ (w:World),Calls P f #[] w fun e w'=>∃ v,e = .returned (.agg ([v,.int .i64 fx]:List Value).toArray)∧Fr [] w w'∧FdsR w' (From w.heap.size w') v fs
theorem write_m {P:Program} {f:FuncId} {fn:Func} {T3 T26 T29 T31:TypeId} {f26:FuncId} {a0:Array TypeId} {i0 i1:Nat} {t0 t1 t2 t3 t4 t5 t6 t7 t8 t9 t10 t11 t12 t13 t14 t15 t16 t17:TypeId} {p0 p1 p2 p3 p4 p5 p6 p7 p8 p9 p10 p11 p12 p13 p14 p15 p16 p17:String} {e0 e1 e2 e3 e4 e5 e6 e7 e8 e9 e10 e11 e12 e13 e14 e15 e16 e17:Array Edge} {fs:List Fd} {enc:Int→Bool→T→List UInt8}
    (hf:P.funcs[f]?=some fn) (hname:nG fn=false) (hres:fn.results = #[.tmp 6]) (hN:fn.ntmps=21)
    (hbody:fn.body=some (.seq (Code.region i0 ⟨[⟨some 3,.box T31 (.tmp 0),t0,p0,e0,none⟩,⟨some 5,.box T26 (.tmp 2),t1,p1,e1,none⟩,
    oA 6 (.const (.slice none 0 0)) t2 p2 e2]⟩ false) (.seq (Code.region i1 ⟨[oF 7 T31 3 0 t3 p3 e3,
    oL 8 T29 7 t4 p4 e4,
    oM 9 1 t5 p5 e5,
    oF 10 T31 3 1 t6 p6 e6,
    oL 11 T3 10 t7 p7 e7,⟨some 12,.binOp .geq T3 (.tmp 11) (.const (.int .i64 0)) T3,t8,p8,e8,none⟩,
    oM 13 12 t9 p9 e9,⟨some 14,.move (.tmp 1),t10,p10,e10,some (6,true)⟩,⟨some 15,.fieldAddr T31 (.tmp 3) 1,t11,p11,e11,some (6,true)⟩,⟨some 16,.load T3 (.tmp 15),t12,p12,e12,some (6,true)⟩,⟨some 17,.binOp .geq T3 (.tmp 14) (.tmp 16) T3,t13,p13,e13,some (6,true)⟩,⟨some 18,.pick (.tmp 13) (.tmp 17) (.const (.bool false)),t14,p14,e14,none⟩,
    oL 19 T26 5 t15 p15 e15,
    oC 20 f26 #[(.tmp 8),(.tmp 9),(.tmp 18),(.tmp 19)] a0 t16 p16 e16,
    oT 6 20 t17 p17 e17]⟩ false) .ret)))
    (hFlT31:Flat P T31 zM) (hcT29:scal P T29=true) (hcT3:scal P T3=true) (hFlT26:Flat P T26 zT) (hPa:Z1U P f26 fs enc):Z8N P f fs enc:=by
  refine ⟨enters_of hf hname hbody,?_⟩;intro w A B ver fx fsv ct t hfs ht hA hB hlen
  cases t with
  | mk n s nl l u =>
  have ht0:=ht;obtain ⟨sv,lv,uv,rfl,hn,hs,hl,hu⟩:=Z0O.1 ht
  by_cases h1:fx≥0;by_cases h2:ver≥fx
  · have hfl : (decide (fx ≥ 0) && decide (ver ≥ fx)) = true := by simp [h1, h2]
    rw[hfl] at hlen ⊢;refine calls_of_wp hf hbody ?_;generalize ha0:({ tmps:=#[Value.agg ([fsv,.int .i64 fx]:List Value).toArray,Value.int .i64 ver,Value.agg ([.int .i64 n,sv,.bool nl,lv,uv]:List Value).toArray]++Array.replicate (fn.ntmps - (#[Value.agg ([fsv,.int .i64 fx]:List Value).toArray,Value.int .i64 ver,Value.agg ([.int .i64 n,sv,.bool nl,lv,uv]:List Value).toArray]:Array Value).size) undef,defers:=[] }:Act)=a0;have hz0:a0.tmps.size=21:=by subst ha0;simp[hN]
    have hd0:a0.defers=[]:=by subst ha0;rfl
    have g0_0:get a0 0 = .agg ([fsv,.int .i64 fx]:List Value).toArray:=by subst ha0;exact gAr rfl
    have g0_1:get a0 1 = .int .i64 ver:=by subst ha0;exact gAr rfl
    have g0_2:get a0 2 = .agg ([.int .i64 n,sv,.bool nl,lv,uv]:List Value).toArray:=by subst ha0;exact gAr rfl
    refine wT fun K1 hK1=>?_;refine wC (ZS (cs:=[fsv,.int .i64 fx]) (eK g0_0) ?_);rintro w2 f2 sz2 r2 th2;have hF3:Fr [] w w2:=f2;refine wC (ZS (cs:=[.int .i64 n,sv,.bool nl,lv,uv]) (eK g0_2) ?_);rintro w4 f4 sz4 r4 th4;have hF5:Fr [] w w4:=hF3.tr f4;have rb6:=f4.range r2 .nil;refine wC (wAs (v:=.slice none 0 0) rfl ?_);refine wEk hz0 hd0 fun a7 ha7 hz7 hd7=>?_;have g7_1:=kP ha7 g0_1;have g7_3:get a7 3 = .pointer (some ⟨w.heap.size,0,none⟩):=kG ha7 hz0;have g7_5:get a7 5 = .pointer (some ⟨w2.heap.size,0,none⟩):=kG ha7 hz0;refine hK1 a7 w4 (tUp ?_);refine tId (wp_seq_k fun K8 hK8=>?_);refine Z0c ?_;refine gCn ?_;refine wFa (b:=w.heap.size) (i:=0) (hFlT31.fld (by decide)) (eK g7_3) ?_;rw[show (0+0:Nat)=0 from rfl];refine gCn ?_;refine wL0 (j:=0) (v:=fsv) hcT29 (eS hz7) rb6 rfl ?_;refine gCn ?_;refine wMv (v:=.int .i64 ver) (eK g7_1) ?_;refine gCn ?_;refine wFa (b:=w.heap.size) (i:=0) (hFlT31.fld (by decide)) (eK g7_3) ?_;rw[show (0+1:Nat)=1 from rfl];refine gCn ?_;refine wL0 (j:=1) (v:=.int .i64 fx) hcT3 (eS hz7) rb6 rfl ?_;refine gCn ?_;refine Z2w (k1:=.i64) (i:=fx) (j:=0) h1 (eS hz7) rfl ?_;refine gCn ?_;refine wMv (v:=.bool true) (eS hz7) ?_;refine Zq (dj:=13) rfl (lZ hz7) (gS hz7) ?_;refine wMv (v:=.int .i64 ver) (eK g7_1) ?_;refine Zq (dj:=13) rfl (lZ hz7) (gS hz7) ?_;refine wFa (b:=w.heap.size) (i:=0) (hFlT31.fld (by decide)) (eK g7_3) ?_;rw[show (0+1:Nat)=1 from rfl];refine Zq (dj:=13) rfl (lZ hz7) (gS hz7) ?_;refine wL0 (j:=1) (v:=.int .i64 fx) hcT3 (eS hz7) rb6 rfl ?_;refine Zq (dj:=13) rfl (lZ hz7) (gS hz7) ?_;refine Z2w (k1:=.i64) (i:=ver) (j:=fx) h2 (eS hz7) (eS hz7) ?_;refine gCn ?_;refine Zv (v:=.bool true) (eS hz7) (eS hz7) ?_;refine gCn ?_;refine Z8 (cs:=[.int .i64 n,sv,.bool nl,lv,uv]) (b:=w2.heap.size) (o:=0) hFlT26 rfl (eK g7_5) r4 ?_;refine gCn ?_;refine wCr (R:=fun vz wz=>Fr [] w4 wz∧Own wz (From w4.heap.size wz) 1 vz (enc ver true (.mk n s nl l u)).length (Z0 (enc ver true (.mk n s nl l u)))) (vs:=#[fsv,.int .i64 ver,.bool true,.agg ([.int .i64 n,sv,.bool nl,lv,uv]:List Value).toArray]) hPa.enters (mX4 (eS hz7) (eS hz7) (eS hz7) (eS hz7)) (Za (hPa.call w4 A B fsv ver true _ (.mk n s nl l u) (hfs.kept hF5 (by simp) (fun _ h=>h)) (ht0.kept hF5 (by simp) (fun _ h=>h)) (fun b hb=>Nat.lt_of_lt_of_le (hA b hb) hF5.size) (fun b hb=>Nat.lt_of_lt_of_le (hB b hb) hF5.size) hlen)) ?_;rintro x9 w9 ⟨fr9,ow9⟩;have hF10:Fr [] w w9:=hF5.tr fr9;have rb11:=fr9.range rb6 .nil;have rb12:=fr9.range r4 .nil;refine gCn ?_;refine wAs (v:=x9) (eS hz7) ?_;refine Z0u fun a13 ha13=>?_;have hz13:=kS ha13 hz7;have hd13:=kD ha13 hd7;have g13_6:get a13 6=x9:=kG ha13 hz7;refine hK8 a13 w9 (tUp ?_);refine wp_ret ?_;exact ⟨hd13,_,rIs hres g13_6,_,rfl,hF10,ow9.from (by have:=hF5.size;omega)⟩
  · have hfl : (decide (fx ≥ 0) && decide (ver ≥ fx)) = false := by simp [h1, h2]
    rw[hfl] at hlen ⊢;refine calls_of_wp hf hbody ?_;generalize ha0:({ tmps:=#[Value.agg ([fsv,.int .i64 fx]:List Value).toArray,Value.int .i64 ver,Value.agg ([.int .i64 n,sv,.bool nl,lv,uv]:List Value).toArray]++Array.replicate (fn.ntmps - (#[Value.agg ([fsv,.int .i64 fx]:List Value).toArray,Value.int .i64 ver,Value.agg ([.int .i64 n,sv,.bool nl,lv,uv]:List Value).toArray]:Array Value).size) undef,defers:=[] }:Act)=a0;have hz0:a0.tmps.size=21:=by subst ha0;simp[hN]
    have hd0:a0.defers=[]:=by subst ha0;rfl
    have g0_0:get a0 0 = .agg ([fsv,.int .i64 fx]:List Value).toArray:=by subst ha0;exact gAr rfl
    have g0_1:get a0 1 = .int .i64 ver:=by subst ha0;exact gAr rfl
    have g0_2:get a0 2 = .agg ([.int .i64 n,sv,.bool nl,lv,uv]:List Value).toArray:=by subst ha0;exact gAr rfl
    refine wT fun K1 hK1=>?_;refine wC (ZS (cs:=[fsv,.int .i64 fx]) (eK g0_0) ?_);rintro w2 f2 sz2 r2 th2;have hF3:Fr [] w w2:=f2;refine wC (ZS (cs:=[.int .i64 n,sv,.bool nl,lv,uv]) (eK g0_2) ?_);rintro w4 f4 sz4 r4 th4;have hF5:Fr [] w w4:=hF3.tr f4;have rb6:=f4.range r2 .nil;refine wC (wAs (v:=.slice none 0 0) rfl ?_);refine wEk hz0 hd0 fun a7 ha7 hz7 hd7=>?_;have g7_1:=kP ha7 g0_1;have g7_3:get a7 3 = .pointer (some ⟨w.heap.size,0,none⟩):=kG ha7 hz0;have g7_5:get a7 5 = .pointer (some ⟨w2.heap.size,0,none⟩):=kG ha7 hz0;refine hK1 a7 w4 (tUp ?_);refine tId (wp_seq_k fun K8 hK8=>?_);refine Z0c ?_;refine gCn ?_;refine wFa (b:=w.heap.size) (i:=0) (hFlT31.fld (by decide)) (eK g7_3) ?_;rw[show (0+0:Nat)=0 from rfl];refine gCn ?_;refine wL0 (j:=0) (v:=fsv) hcT29 (eS hz7) rb6 rfl ?_;refine gCn ?_;refine wMv (v:=.int .i64 ver) (eK g7_1) ?_;refine gCn ?_;refine wFa (b:=w.heap.size) (i:=0) (hFlT31.fld (by decide)) (eK g7_3) ?_;rw[show (0+1:Nat)=1 from rfl];refine gCn ?_;refine wL0 (j:=1) (v:=.int .i64 fx) hcT3 (eS hz7) rb6 rfl ?_;refine gCn ?_;refine Z2w (k1:=.i64) (i:=fx) (j:=0) h1 (eS hz7) rfl ?_;refine gCn ?_;refine wMv (v:=.bool true) (eS hz7) ?_;refine Zq (dj:=13) rfl (lZ hz7) (gS hz7) ?_;refine wMv (v:=.int .i64 ver) (eK g7_1) ?_;refine Zq (dj:=13) rfl (lZ hz7) (gS hz7) ?_;refine wFa (b:=w.heap.size) (i:=0) (hFlT31.fld (by decide)) (eK g7_3) ?_;rw[show (0+1:Nat)=1 from rfl];refine Zq (dj:=13) rfl (lZ hz7) (gS hz7) ?_;refine wL0 (j:=1) (v:=.int .i64 fx) hcT3 (eS hz7) rb6 rfl ?_;refine Zq (dj:=13) rfl (lZ hz7) (gS hz7) ?_;refine Z3c (k1:=.i64) (i:=ver) (j:=fx) h2 (eS hz7) (eS hz7) ?_;refine gCn ?_;refine Zv (v:=.bool false) (eS hz7) (eS hz7) ?_;refine gCn ?_;refine Z8 (cs:=[.int .i64 n,sv,.bool nl,lv,uv]) (b:=w2.heap.size) (o:=0) hFlT26 rfl (eK g7_5) r4 ?_;refine gCn ?_;refine wCr (R:=fun vz wz=>Fr [] w4 wz∧Own wz (From w4.heap.size wz) 1 vz (enc ver false (.mk n s nl l u)).length (Z0 (enc ver false (.mk n s nl l u)))) (vs:=#[fsv,.int .i64 ver,.bool false,.agg ([.int .i64 n,sv,.bool nl,lv,uv]:List Value).toArray]) hPa.enters (mX4 (eS hz7) (eS hz7) (eS hz7) (eS hz7)) (Za (hPa.call w4 A B fsv ver false _ (.mk n s nl l u) (hfs.kept hF5 (by simp) (fun _ h=>h)) (ht0.kept hF5 (by simp) (fun _ h=>h)) (fun b hb=>Nat.lt_of_lt_of_le (hA b hb) hF5.size) (fun b hb=>Nat.lt_of_lt_of_le (hB b hb) hF5.size) hlen)) ?_;rintro x9 w9 ⟨fr9,ow9⟩;have hF10:Fr [] w w9:=hF5.tr fr9;have rb11:=fr9.range rb6 .nil;have rb12:=fr9.range r4 .nil;refine gCn ?_;refine wAs (v:=x9) (eS hz7) ?_;refine Z0u fun a13 ha13=>?_;have hz13:=kS ha13 hz7;have hd13:=kD ha13 hd7;have g13_6:get a13 6=x9:=kG ha13 hz7;refine hK8 a13 w9 (tUp ?_);refine wp_ret ?_;exact ⟨hd13,_,rIs hres g13_6,_,rfl,hF10,ow9.from (by have:=hF5.size;omega)⟩
  have hfl:(decide (fx≥0) && decide (ver≥fx))=false:=by simp[h1]
  rw[hfl] at hlen ⊢;refine calls_of_wp hf hbody ?_;generalize ha0:({ tmps:=#[Value.agg ([fsv,.int .i64 fx]:List Value).toArray,Value.int .i64 ver,Value.agg ([.int .i64 n,sv,.bool nl,lv,uv]:List Value).toArray]++Array.replicate (fn.ntmps - (#[Value.agg ([fsv,.int .i64 fx]:List Value).toArray,Value.int .i64 ver,Value.agg ([.int .i64 n,sv,.bool nl,lv,uv]:List Value).toArray]:Array Value).size) undef,defers:=[] }:Act)=a0;have hz0:a0.tmps.size=21:=by subst ha0;simp[hN]
  have hd0:a0.defers=[]:=by subst ha0;rfl
  have g0_0:get a0 0 = .agg ([fsv,.int .i64 fx]:List Value).toArray:=by subst ha0;exact gAr rfl
  have g0_1:get a0 1 = .int .i64 ver:=by subst ha0;exact gAr rfl
  have g0_2:get a0 2 = .agg ([.int .i64 n,sv,.bool nl,lv,uv]:List Value).toArray:=by subst ha0;exact gAr rfl
  refine wT fun K1 hK1=>?_;refine wC (ZS (cs:=[fsv,.int .i64 fx]) (eK g0_0) ?_);rintro w2 f2 sz2 r2 th2;have hF3:Fr [] w w2:=f2;refine wC (ZS (cs:=[.int .i64 n,sv,.bool nl,lv,uv]) (eK g0_2) ?_);rintro w4 f4 sz4 r4 th4;have hF5:Fr [] w w4:=hF3.tr f4;have rb6:=f4.range r2 .nil;refine wC (wAs (v:=.slice none 0 0) rfl ?_);refine wEk hz0 hd0 fun a7 ha7 hz7 hd7=>?_;have g7_1:=kP ha7 g0_1;have g7_3:get a7 3 = .pointer (some ⟨w.heap.size,0,none⟩):=kG ha7 hz0;have g7_5:get a7 5 = .pointer (some ⟨w2.heap.size,0,none⟩):=kG ha7 hz0;refine hK1 a7 w4 (tUp ?_);refine tId (wp_seq_k fun K8 hK8=>?_);refine Z0c ?_;refine gCn ?_;refine wFa (b:=w.heap.size) (i:=0) (hFlT31.fld (by decide)) (eK g7_3) ?_;rw[show (0+0:Nat)=0 from rfl];refine gCn ?_;refine wL0 (j:=0) (v:=fsv) hcT29 (eS hz7) rb6 rfl ?_;refine gCn ?_;refine wMv (v:=.int .i64 ver) (eK g7_1) ?_;refine gCn ?_;refine wFa (b:=w.heap.size) (i:=0) (hFlT31.fld (by decide)) (eK g7_3) ?_;rw[show (0+1:Nat)=1 from rfl];refine gCn ?_;refine wL0 (j:=1) (v:=.int .i64 fx) hcT3 (eS hz7) rb6 rfl ?_;refine gCn ?_;refine Z3c (k1:=.i64) (i:=fx) (j:=0) h1 (eS hz7) rfl ?_;refine gCn ?_;refine wMv (v:=.bool false) (eS hz7) ?_;refine Z09 (dj:=13) rfl (lZ hz7) (gS hz7) ?_;refine Z09 (dj:=13) rfl (lZ hz7) (gS hz7) ?_;refine Z09 (dj:=13) rfl (lZ hz7) (gS hz7) ?_;refine Z09 (dj:=13) rfl (lZ hz7) (gS hz7) ?_;refine gCn ?_;refine ZL (v:=.bool false) (eS hz7) rfl ?_;refine gCn ?_;refine Z8 (cs:=[.int .i64 n,sv,.bool nl,lv,uv]) (b:=w2.heap.size) (o:=0) hFlT26 rfl (eK g7_5) r4 ?_;refine gCn ?_;refine wCr (R:=fun vz wz=>Fr [] w4 wz∧Own wz (From w4.heap.size wz) 1 vz (enc ver false (.mk n s nl l u)).length (Z0 (enc ver false (.mk n s nl l u)))) (vs:=#[fsv,.int .i64 ver,.bool false,.agg ([.int .i64 n,sv,.bool nl,lv,uv]:List Value).toArray]) hPa.enters (mX4 (eS hz7) (eS hz7) (eS hz7) (eS hz7)) (Za (hPa.call w4 A B fsv ver false _ (.mk n s nl l u) (hfs.kept hF5 (by simp) (fun _ h=>h)) (ht0.kept hF5 (by simp) (fun _ h=>h)) (fun b hb=>Nat.lt_of_lt_of_le (hA b hb) hF5.size) (fun b hb=>Nat.lt_of_lt_of_le (hB b hb) hF5.size) hlen)) ?_;rintro x9 w9 ⟨fr9,ow9⟩;have hF10:Fr [] w w9:=hF5.tr fr9;have rb11:=fr9.range rb6 .nil;have rb12:=fr9.range r4 .nil;refine gCn ?_;refine wAs (v:=x9) (eS hz7) ?_;refine Z0u fun a13 ha13=>?_;have hz13:=kS ha13 hz7;have hd13:=kD ha13 hd7;have g13_6:get a13 6=x9:=kG ha13 hz7;refine hK8 a13 w9 (tUp ?_);refine wp_ret ?_;exact ⟨hd13,_,rIs hres g13_6,_,rfl,hF10,ow9.from (by have:=hF5.size;omega)⟩
end Go.Kq

namespace Go.Kq
open Go Go.Proofs
def Z5Y (g:Rd) (fl:Int→Bool) (ga:Int→V→List UInt8) (ver:Int) (xs:List UInt8):Option (List UInt8) :=
  match g ver (fl ver) ⟨xs,xs.isEmpty,false⟩ with
  | some (.l ys,st')=>if st'.bad then none else some (ga ver (.l (.n ver::ys)))
  | _=>none
theorem Z6g {P:Program} {fn:Func} {t t2:Nat} {a:Act} {w:World} {v v2:Value} (h:fn.results = #[.tmp t,.tmp t2]) (h1:get a t=v) (h2:get a t2=v2):(results fn a.tmps).run P w = .ok (.tuple #[v,v2]) w:=by
  subst h1 h2;simp[results,h,get]
end Go.Kq

namespace Go.Kq
open Go Go.Proofs
structure Fit3M (P:Program) (f:FuncId):Prop where
  enters:Enters P f
  call:∀ (w:World) (A:Nat→Prop) (k:Nat) (xv:Value) (x:List UInt8),OctE w A xv x→Calls P f #[.agg ([.int .u32 (k:Int),xv]:List Value).toArray] w fun e w'=>(∃ b:Bool,e = .returned (.bool b))∧Fr [] w w'
structure Fit2M (P:Program) (f:FuncId):Prop where
  enters:Enters P f
  call:∀ (w:World) (A:Nat→Prop) (v:Value) (u:List (Nat × List UInt8)),Z1T w A v u→Calls P f #[v] w fun e w'=>(∃ b:Bool,e = .returned (.bool b))∧Fr [] w w'
structure FitM (P:Program) (f:FuncId):Prop where
  enters:Enters P f
  call:∀ (w:World) (A:Nat→Prop) (ct:List Value) (t:T),RepT w A ct t→Calls P f #[.agg ct.toArray] w fun e w'=>(∃ b:Bool,e = .returned (.bool b))∧Fr [] w w'
theorem fits3_m {P:Program} {f:FuncId} {fn:Func} {T3 T22 T60:TypeId} {i0 i1 i2 i3:Nat} {t0 t1 t2 t3 t4 t5 t6 t7:TypeId} {p0 p1 p2 p3 p4 p5 p6 p7:String} {e0 e1 e2 e3 e4 e5 e6 e7:Array Edge} 
    (hf:P.funcs[f]?=some fn) (hname:nG fn=false) (hres:fn.results = #[.tmp 2]) (hN:fn.ntmps=7)
    (hbody:fn.body=some (.seq (Code.region i0 ⟨[⟨some 1,.box T60 (.tmp 0),t0,p0,e0,none⟩,
    oA 2 (.const (.bool false)) t1 p1 e1]⟩ false) (.seq (.seq (Code.region i1 ⟨[oF 3 T60 1 1 t2 p2 e2,
    oL 4 T22 3 t3 p3 e3,⟨some 5,.call ⟨.builtin .len,#[(.tmp 4)],#[T22]⟩,t4,p4,e4,none⟩,⟨some 6,.binOp .gtr T3 (.tmp 5) (.const (.int .i64 2147483647)) T3,t5,p5,e5,none⟩]⟩ false) (.cond (.tmp 6) (.seq (Code.region i2 ⟨[oA 2 (.const (.bool false)) t6 p6 e6]⟩ false) .ret) .skip)) (.seq (Code.region i3 ⟨[oA 2 (.const (.bool true)) t7 p7 e7]⟩ false) .ret))))
    (hFlT60:Flat P T60 zTag) (hcT22:scal P T22=true) (hsT22:slTy P T22=true) :Fit3M P f:=by
  refine ⟨enters_of hf hname hbody,?_⟩;intro w A k xv x ho;obtain ⟨q,cap,rfl,-,hl,-⟩:=ho.slice2;refine calls_of_wp hf hbody ?_;generalize ha0:({ tmps:=#[Value.agg ([.int .u32 (k:Int),.slice q x.length cap]:List Value).toArray]++Array.replicate (fn.ntmps - (#[Value.agg ([.int .u32 (k:Int),.slice q x.length cap]:List Value).toArray]:Array Value).size) undef,defers:=[] }:Act)=a0;have hz0:a0.tmps.size=7:=by subst ha0;simp[hN]
  have hd0:a0.defers=[]:=by subst ha0;rfl
  have g0_0:get a0 0 = .agg ([.int .u32 (k:Int),.slice q x.length cap]:List Value).toArray:=by subst ha0;exact gAr rfl
  refine wT fun K1 hK1=>?_;refine wC (ZS (cs:=[.int .u32 (k:Int),.slice q x.length cap]) (eK g0_0) ?_);rintro w2 f2 sz2 r2 th2;have hF3:Fr [] w w2:=f2;refine wC (wAs (v:=.bool false) rfl ?_);refine wEk hz0 hd0 fun a4 ha4 hz4 hd4=>?_;have g4_1:get a4 1 = .pointer (some ⟨w.heap.size,0,none⟩):=kG ha4 hz0;refine hK1 a4 w2 (tUp ?_);refine tId (wp_seq_k fun K5 hK5=>?_);refine wS fun K6 hK6=>?_;refine wC (wFa (b:=w.heap.size) (i:=0) (hFlT60.fld (by decide)) (eK g4_1) ?_);rw[show (0+1:Nat)=1 from rfl];refine wC (wL0 (j:=1) (v:=.slice q x.length cap) hcT22 (eS hz4) r2 rfl ?_);refine wC (Zs (n:=x.length) hsT22 (eS hz4) ?_);refine wC (Z2o (k1:=.i64) (i:=((x.length:Nat):Int)) (j:=2147483647) (eS hz4) rfl ?_);refine wEk hz4 hd4 fun a7 ha7 hz7 hd7=>?_;have g7_6:get a7 6 = .bool (decide ((((x.length:Nat):Int):Int) > (2147483647:Int))):=kG ha7 hz4;refine hK6 a7 w2 ?_;refine wp_cond_split (t:=decide ((((x.length:Nat):Int):Int) > (2147483647:Int))) (eK g7_6) (fun hc8=>?_) (fun hc8=>?_)
  · refine wp_seq_k fun K9 hK9=>?_;refine Z2 ?_;refine wC (wAs (v:=.bool false) rfl ?_);refine wEk hz7 hd7 fun a10 ha10 hz10 hd10=>?_;have g10_2:get a10 2 = .bool false:=kG ha10 hz7;refine hK9 a10 w2 ?_;refine wp_ret ?_;exact ⟨hd10,_,rIs hres g10_2,⟨_,rfl⟩,hF3⟩
  refine wp_skip ?_;refine hK5 a7 w2 (tUp ?_);refine wT fun K11 hK11=>?_;refine wC (wAs (v:=.bool true) rfl ?_);refine wEk hz7 hd7 fun a12 ha12 hz12 hd12=>?_;have g12_2:get a12 2 = .bool true:=kG ha12 hz7;refine hK11 a12 w2 (tUp ?_);refine wp_ret ?_;exact ⟨hd12,_,rIs hres g12_2,⟨_,rfl⟩,hF3⟩
theorem fits2_m {P:Program} {f:FuncId} {fn:Func} {T3 T4 T24 T60:TypeId} {f45:FuncId} {a0:Array TypeId} {i0 i1 i2 i3 i4 i5 i6 i7 i8 i9:Nat} {t0 t1 t2 t3 t4 t5 t6 t7 t8 t9 t10 t11 t12 t13 t14 t15 t16 t17 t18 t19:TypeId} {p0 p1 p2 p3 p4 p5 p6 p7 p8 p9 p10 p11 p12 p13 p14 p15 p16 p17 p18 p19:String} {e0 e1 e2 e3 e4 e5 e6 e7 e8 e9 e10 e11 e12 e13 e14 e15 e16 e17 e18 e19:Array Edge} {te:TypeId} {tb:Nat}
    (hf:P.funcs[f]?=some fn) (hname:nG fn=false) (hres:fn.results = #[.tmp 2]) (hN:fn.ntmps=18)
    (hbody:fn.body=some (.seq (Code.region i0 ⟨[oA 2 (.const (.bool false)) t0 p0 e0]⟩ false) (.seq (.seq (Code.region i1 ⟨[oM 5 0 t1 p1 e1,⟨some 6,.call ⟨.builtin .len,#[(.tmp 5)],#[T24]⟩,t2,p2,e2,none⟩,⟨some 7,.binOp .gtr T3 (.tmp 6) (.const (.int .i64 2147483647)) T3,t3,p3,e3,none⟩]⟩ false) (.cond (.tmp 7) (.seq (Code.region i2 ⟨[oA 2 (.const (.bool false)) t4 p4 e4]⟩ false) .ret) .skip)) (.seq (.seq (Code.region i3 ⟨[oM 8 0 t5 p5 e5,⟨some 9,.call ⟨.builtin .len,#[(.tmp 8)],#[T24]⟩,t6,p6,e6,none⟩,⟨some 10,.move (.const (.int .i64 0)),t7,p7,e7,none⟩]⟩ false) (.block 0 (.loop (.seq (Code.region i4 ⟨[⟨some 11,.binOp .lss T3 (.tmp 10) (.tmp 9) T3,t8,p8,e8,none⟩]⟩ false) (.seq (.cond (.tmp 11) .skip
  (.exit 0)) (.seq (.block 1 (.seq (Code.region i5 ⟨[⟨some 12,.indexAddr T24 (.tmp 8) (.tmp 10),t9,p9,e9,none⟩,
    oL 13 T60 12 t10 p10 e10,⟨some 4,.alloc T60,t11,p11,e11,none⟩,
    oS T60 4 13 t12 p12 e12]⟩ false) (.seq (Code.region i6 ⟨[oL 14 T60 4 t13 p13 e13,
    oC 15 f45 #[(.tmp 14)] a0 t14 p14 e14,⟨some 16,.unOp .not T4 (.tmp 15),t15,p15,e15,none⟩]⟩ false) (.cond (.tmp 16) (.seq (Code.region i7 ⟨[oA 2 (.const (.bool false)) t16 p16 e16]⟩ false) .ret) .skip))))
  (Code.region i8 ⟨[⟨some 17,.binOp .add T3 (.tmp 10) (.const (.int .i64 1)) T3,t17,p17,e17,none⟩,
    oM 10 17 t18 p18 e18]⟩ false))))))) (.seq (Code.region i9 ⟨[oA 2 (.const (.bool true)) t19 p19 e19]⟩ false) .ret)))))
    (hsT24:slTy P T24=true) (hs_T24:Z3 P T24 te 2 tb=true) (hFlT60:Flat P T60 zTag) (h3:Fit3M P f45):Fit2M P f:=by
  refine ⟨enters_of hf hname hbody,?_⟩;intro w A v u hu;obtain ⟨q,cap,rfl,-,hbig,hk⟩:=hu.sl2;refine calls_of_wp hf hbody ?_;generalize ha0:({ tmps:=#[Value.slice q u.length cap]++Array.replicate (fn.ntmps - (#[Value.slice q u.length cap]:Array Value).size) undef,defers:=[] }:Act)=a0;have hz0:a0.tmps.size=18:=by subst ha0;simp[hN]
  have hd0:a0.defers=[]:=by subst ha0;rfl
  have g0_0:get a0 0 = .slice q u.length cap:=by subst ha0;exact gAr rfl
  refine wT fun K1 hK1=>?_;refine wC (wAs (v:=.bool false) rfl ?_);refine wEk hz0 hd0 fun a2 ha2 hz2 hd2=>?_;have g2_0:=kP ha2 g0_0;refine hK1 a2 w (tUp ?_);refine tId (wp_seq_k fun K3 hK3=>?_);refine wS fun K4 hK4=>?_;refine wC (wMv (v:=.slice q u.length cap) (eK g2_0) ?_);refine wC (Zs (n:=u.length) hsT24 (eS hz2) ?_);refine wC (Z2o (k1:=.i64) (i:=((u.length:Nat):Int)) (j:=2147483647) (eS hz2) rfl ?_);refine wEk hz2 hd2 fun a5 ha5 hz5 hd5=>?_;have g5_0:=kP ha5 g2_0;have g5_7:get a5 7 = .bool (decide ((((u.length:Nat):Int):Int) > (2147483647:Int))):=kG ha5 hz2;refine hK4 a5 w ?_;refine wp_cond_split (t:=decide ((((u.length:Nat):Int):Int) > (2147483647:Int))) (eK g5_7) (fun hc6=>?_) (fun hc6=>?_)
  · refine wp_seq_k fun K7 hK7=>?_;refine Z2 ?_;refine wC (wAs (v:=.bool false) rfl ?_);refine wEk hz5 hd5 fun a8 ha8 hz8 hd8=>?_;have g8_2:get a8 2 = .bool false:=kG ha8 hz5;refine hK7 a8 w ?_;refine wp_ret ?_;exact ⟨hd8,_,rIs hres g8_2,⟨_,rfl⟩,Fr.refl _ _⟩
  refine wp_skip ?_;refine hK3 a5 w (tUp ?_);refine tId (wp_seq_k fun K9 hK9=>?_);refine wS fun K10 hK10=>?_;refine wC (wMv (v:=.slice q u.length cap) (eK g5_0) ?_);refine wC (Zs (n:=u.length) hsT24 (eS hz5) ?_);refine wC (wMv (v:=.int .i64 0) rfl ?_);refine wEk hz5 hd5 fun a11 ha11 hz11 hd11=>?_;have g11_8:get a11 8 = .slice q u.length cap:=kG ha11 hz5;have g11_9:get a11 9 = .int .i64 ((u.length:Nat):Int):=kG ha11 hz5;have g11_10:get a11 10 = .int .i64 0:=kG ha11 hz5;refine hK10 a11 w ?_;refine wp_block (wp_loop_ghost (fun (m:Nat) a' w'=>∃ (j:Nat),a'.tmps.size=18∧a'.defers=[]∧get a' 8 = .slice q u.length cap∧get a' 9 = .int .i64 (u.length:Int)∧get a' 10 = .int .i64 (j:Int)∧j+m=u.length∧Fr [] w w') u.length ?_ ?_)
  · exact ⟨0,hz11,hd11,g11_8,g11_9,g11_10,by omega,Fr.refl _ _⟩
  rintro m a12 w12 ⟨j,hz12,hd12,g12_8,g12_9,g12_10,hjm,hfw⟩;refine wS fun K13 hK13=>?_;refine wC (Z08 (k1:=.i64) (i:=(j:Int)) (j:=(u.length:Int)) (eK g12_10) (eK g12_9) ?_);refine wEk hz12 hd12 fun a14 ha14 hz14 hd14=>?_;have g14_8:=kP ha14 g12_8;have g14_9:=kP ha14 g12_9;have g14_10:=kP ha14 g12_10;have g14_11:get a14 11 = .bool (decide (((j:Int):Int) < ((u.length:Int):Int))):=kG ha14 hz12;refine hK13 a14 w12 ?_;refine wp_seq_k fun K15 hK15=>?_;refine wp_cond_split (t:=decide (((j:Int):Int) < ((u.length:Int):Int))) (eK g14_11) (fun hc16=>?_) (fun hc16=>?_)
  · have hjl : j < u.length := by simp at hc16; omega
    obtain ⟨k,x,hkx⟩:∃ k x,u[j]?=some (k,x):=⟨(u[j]).1,(u[j]).2,by simp[hjl]⟩;obtain ⟨bl,ol,xv,hq,hbl,hk32,hrl,hox⟩:=hk j k x hkx;refine wp_skip ?_;refine hK15 a14 w12 ?_;refine wp_seq_k fun K17 hK17=>?_;refine Zm ?_;refine wS fun K18 hK18=>?_;refine wC (Z14 (b:=bl) (o:=ol) (i:=j) hs_T24 (by rw[eTm,g14_8,hq]) (eK g14_10) hjl ?_);refine wC (Z8 (cs:=[.int .u32 (k:Int),xv]) (b:=bl) (o:=ol+j * 2) hFlT60 rfl (eS hz14) (hfw.range hrl .nil) ?_);refine wC (Z0A hFlT60 ?_);rintro w19 f19 sz19 r19 th19;have hF20:Fr [] w w19:=hfw.tr f19;refine wC (Z0g (cs:=[.int .u32 (k:Int),xv]) (o:=0) hFlT60 rfl (eS hz14) (eS hz14) (by intro u hu;simp at hu;rcases hu with rfl | rfl;rfl;exact hox.one) th19 ?_);rintro w21 f21 sz21 r21 th21;have hF21:Fr [] w w21:=hF20.trans f21 (fun r hr=>.inl (by simp at hr;subst hr;have:=hfw.size;simp only;omega));refine wEk hz14 hd14 fun a22 ha22 hz22 hd22=>?_;have g22_4:get a22 4 = .pointer (some ⟨w12.heap.size,0,none⟩):=kG ha22 hz14;have g22_8:=kP ha22 g14_8;have g22_9:=kP ha22 g14_9;have g22_10:=kP ha22 g14_10;refine hK18 a22 w21 ?_;refine wS fun K23 hK23=>?_;refine wC (Z8 (cs:=[.int .u32 (k:Int),xv]) (b:=w12.heap.size) (o:=0) hFlT60 rfl (eK g22_4) r21 ?_);refine wC (wCr (R:=fun vz wz=>(∃ b:Bool,vz = .bool b)∧Fr [] w21 wz) (vs:=#[.agg ([.int .u32 (k:Int),xv]:List Value).toArray]) h3.enters (mX1 (eS hz22)) ((h3.call w21 A k xv x (hox.kept hF21 (by simp) (fun _ h=>h))).mono (by rintro e wz ⟨⟨b,rfl⟩,h⟩;exact ⟨_,rfl,⟨b,rfl⟩,h⟩)) ?_);rintro _ w24 ⟨⟨bb,rfl⟩,fr24⟩;have hF25:Fr [] w w24:=hF21.tr fr24;have rb26:=fr24.range r21 .nil;refine wC (Z4s (b:=bb) (eS hz22) ?_);refine wEk hz22 hd22 fun a27 ha27 hz27 hd27=>?_;have g27_8:=kP ha27 g22_8;have g27_9:=kP ha27 g22_9;have g27_10:=kP ha27 g22_10;have g27_16:get a27 16 = .bool (!bb):=kG ha27 hz22;refine hK23 a27 w24 ?_;refine wp_cond_split (t := !bb) (eK g27_16) (fun hc28=>?_) (fun hc28=>?_)
    · refine wp_seq_k fun K29 hK29=>?_;refine Z2 ?_;refine wC (wAs (v:=.bool false) rfl ?_);refine wEk hz27 hd27 fun a30 ha30 hz30 hd30=>?_;have g30_2:get a30 2 = .bool false:=kG ha30 hz27;refine hK29 a30 w24 ?_;refine wp_ret ?_;exact ⟨hd30,_,rIs hres g30_2,⟨_,rfl⟩,hF25⟩
    refine wp_skip ?_;refine hK17 a27 w24 ?_;refine Z2 ?_;refine wC (ZJ (k1:=.i64) (i:=(j:Int)) (j:=1) (eK g27_10) rfl ?_);rw[show (IntKind.i64.wrap (((j:Int):Int)+(1:Int)):Int)=(((j+1:Nat):Int):Int) from by simp only[IntKind.wrap,IntKind.bits,IntKind.signed];simp;omega];refine wC (wMv (v:=.int .i64 ((j+1:Nat):Int)) (eS hz27) ?_);refine wEk hz27 hd27 fun a31 ha31 hz31 hd31=>?_;have g31_8:=kP ha31 g27_8;have g31_9:=kP ha31 g27_9;have g31_10:get a31 10 = .int .i64 ((j+1:Nat):Int):=kG ha31 hz27;exact ⟨m - 1,by omega,j+1,hz31,hd31,g31_8,g31_9,g31_10,by omega,hF25⟩
  refine wp_exit ?_;show K9 a14 w12
  refine hK9 a14 w12 (tUp ?_);refine wT fun K32 hK32=>?_;refine wC (wAs (v:=.bool true) rfl ?_);refine wEk hz14 hd14 fun a33 ha33 hz33 hd33=>?_;have g33_2:get a33 2 = .bool true:=kG ha33 hz14;refine hK32 a33 w12 (tUp ?_);refine wp_ret ?_;exact ⟨hd33,_,rIs hres g33_2,⟨_,rfl⟩,hfw⟩
theorem fits1_m {P:Program} {f:FuncId} {fn:Func} {T3 T4 T22 T23 T24 T26:TypeId} {f23:FuncId} {a0:Array TypeId} {i0 i1 i2 i3 i4 i5 i6 i7:Nat} {t0 t1 t2 t3 t4 t5 t6 t7 t8 t9 t10 t11 t12 t13 t14 t15 t16 t17:TypeId} {p0 p1 p2 p3 p4 p5 p6 p7 p8 p9 p10 p11 p12 p13 p14 p15 p16 p17:String} {e0 e1 e2 e3 e4 e5 e6 e7 e8 e9 e10 e11 e12 e13 e14 e15 e16 e17:Array Edge} 
    (hf:P.funcs[f]?=some fn) (hname:nG fn=false) (hres:fn.results = #[.tmp 2]) (hN:fn.ntmps=15)
    (hbody:fn.body=some (.seq (Code.region i0 ⟨[⟨some 1,.box T26 (.tmp 0),t0,p0,e0,none⟩,
    oA 2 (.const (.bool false)) t1 p1 e1]⟩ false) (.seq (.seq (Code.region i1 ⟨[oF 3 T26 1 1 t2 p2 e2,
    oL 4 T22 3 t3 p3 e3,⟨some 5,.call ⟨.builtin .len,#[(.tmp 4)],#[T22]⟩,t4,p4,e4,none⟩,⟨some 6,.binOp .gtr T3 (.tmp 5) (.const (.int .i64 2147483647)) T3,t5,p5,e5,none⟩]⟩ false) (.cond (.tmp 6) (.seq (Code.region i2 ⟨[oA 2 (.const (.bool false)) t6 p6 e6]⟩ false) .ret) .skip)) (.seq (.seq (Code.region i3 ⟨[oF 7 T26 1 3 t7 p7 e7,
    oL 8 T23 7 t8 p8 e8,⟨some 9,.call ⟨.builtin .len,#[(.tmp 8)],#[T23]⟩,t9,p9,e9,none⟩,⟨some 10,.binOp .gtr T3 (.tmp 9) (.const (.int .i64 2147483647)) T3,t10,p10,e10,none⟩]⟩ false) (.cond (.tmp 10) (.seq (Code.region i4 ⟨[oA 2 (.const (.bool false)) t11 p11 e11]⟩ false) .ret) .skip)) (.seq (.seq (Code.region i5 ⟨[oF 11 T26 1 4 t12 p12 e12,
    oL 12 T24 11 t13 p13 e13,
    oC 13 f23 #[(.tmp 12)] a0 t14 p14 e14,⟨some 14,.unOp .not T4 (.tmp 13),t15,p15,e15,none⟩]⟩ false) (.cond (.tmp 14) (.seq (Code.region i6 ⟨[oA 2 (.const (.bool false)) t16 p16 e16]⟩ false) .ret) .skip)) (.seq (Code.region i7 ⟨[oA 2 (.const (.bool true)) t17 p17 e17]⟩ false) .ret))))))
    (hFlT26:Flat P T26 zT) (hcT22:scal P T22=true) (hsT22:slTy P T22=true) (hcT23:scal P T23=true) (hsT23:slTy P T23=true) (hcT24:scal P T24=true) (h2:Fit2M P f23):FitM P f:=by
  refine ⟨enters_of hf hname hbody,?_⟩;intro w A ct t ht
  cases t with
  | mk n s nl l u =>
  obtain ⟨sv,lv,uv,rfl,hn,hs,hl,hu⟩:=Z0O.1 ht;obtain ⟨q,cap,rfl,-,-,-⟩:=hs.slice2;obtain ⟨lq,lcap,rfl⟩:=hl.slice;refine calls_of_wp hf hbody ?_;generalize ha0:({ tmps:=#[Value.agg ([.int .i64 n,.slice q s.length cap,.bool nl,.slice lq l.length lcap,uv]:List Value).toArray]++Array.replicate (fn.ntmps - (#[Value.agg ([.int .i64 n,.slice q s.length cap,.bool nl,.slice lq l.length lcap,uv]:List Value).toArray]:Array Value).size) undef,defers:=[] }:Act)=a0;have hz0:a0.tmps.size=15:=by subst ha0;simp[hN]
  have hd0:a0.defers=[]:=by subst ha0;rfl
  have g0_0:get a0 0 = .agg ([.int .i64 n,.slice q s.length cap,.bool nl,.slice lq l.length lcap,uv]:List Value).toArray:=by subst ha0;exact gAr rfl
  refine wT fun K1 hK1=>?_;refine wC (ZS (cs:=[.int .i64 n,.slice q s.length cap,.bool nl,.slice lq l.length lcap,uv]) (eK g0_0) ?_);rintro w2 f2 sz2 r2 th2;have hF3:Fr [] w w2:=f2;refine wC (wAs (v:=.bool false) rfl ?_);refine wEk hz0 hd0 fun a4 ha4 hz4 hd4=>?_;have g4_1:get a4 1 = .pointer (some ⟨w.heap.size,0,none⟩):=kG ha4 hz0;refine hK1 a4 w2 (tUp ?_);refine tId (wp_seq_k fun K5 hK5=>?_);refine wS fun K6 hK6=>?_;refine wC (wFa (b:=w.heap.size) (i:=0) (hFlT26.fld (by decide)) (eK g4_1) ?_);rw[show (0+1:Nat)=1 from rfl];refine wC (wL0 (j:=1) (v:=.slice q s.length cap) hcT22 (eS hz4) r2 rfl ?_);refine wC (Zs (n:=s.length) hsT22 (eS hz4) ?_);refine wC (Z2o (k1:=.i64) (i:=((s.length:Nat):Int)) (j:=2147483647) (eS hz4) rfl ?_);refine wEk hz4 hd4 fun a7 ha7 hz7 hd7=>?_;have g7_1:=kP ha7 g4_1;have g7_6:get a7 6 = .bool (decide ((((s.length:Nat):Int):Int) > (2147483647:Int))):=kG ha7 hz4;refine hK6 a7 w2 ?_;refine wp_cond_split (t:=decide ((((s.length:Nat):Int):Int) > (2147483647:Int))) (eK g7_6) (fun hc8=>?_) (fun hc8=>?_)
  · refine wp_seq_k fun K9 hK9=>?_;refine Z2 ?_;refine wC (wAs (v:=.bool false) rfl ?_);refine wEk hz7 hd7 fun a10 ha10 hz10 hd10=>?_;have g10_2:get a10 2 = .bool false:=kG ha10 hz7;refine hK9 a10 w2 ?_;refine wp_ret ?_;exact ⟨hd10,_,rIs hres g10_2,⟨_,rfl⟩,hF3⟩
  refine wp_skip ?_;refine hK5 a7 w2 (tUp ?_);refine tId (wp_seq_k fun K11 hK11=>?_);refine wS fun K12 hK12=>?_;refine wC (wFa (b:=w.heap.size) (i:=0) (hFlT26.fld (by decide)) (eK g7_1) ?_);rw[show (0+3:Nat)=3 from rfl];refine wC (wL0 (j:=3) (v:=.slice lq l.length lcap) hcT23 (eS hz7) r2 rfl ?_);refine wC (Zs (n:=l.length) hsT23 (eS hz7) ?_);refine wC (Z2o (k1:=.i64) (i:=((l.length:Nat):Int)) (j:=2147483647) (eS hz7) rfl ?_);refine wEk hz7 hd7 fun a13 ha13 hz13 hd13=>?_;have g13_1:=kP ha13 g7_1;have g13_10:get a13 10 = .bool (decide ((((l.length:Nat):Int):Int) > (2147483647:Int))):=kG ha13 hz7;refine hK12 a13 w2 ?_;refine wp_cond_split (t:=decide ((((l.length:Nat):Int):Int) > (2147483647:Int))) (eK g13_10) (fun hc14=>?_) (fun hc14=>?_)
  · refine wp_seq_k fun K15 hK15=>?_;refine Z2 ?_;refine wC (wAs (v:=.bool false) rfl ?_);refine wEk hz13 hd13 fun a16 ha16 hz16 hd16=>?_;have g16_2:get a16 2 = .bool false:=kG ha16 hz13;refine hK15 a16 w2 ?_;refine wp_ret ?_;exact ⟨hd16,_,rIs hres g16_2,⟨_,rfl⟩,hF3⟩
  refine wp_skip ?_;refine hK11 a13 w2 (tUp ?_);refine tId (wp_seq_k fun K17 hK17=>?_);refine wS fun K18 hK18=>?_;refine wC (wFa (b:=w.heap.size) (i:=0) (hFlT26.fld (by decide)) (eK g13_1) ?_);rw[show (0+4:Nat)=4 from rfl];refine wC (wL0 (j:=4) (v:=uv) hcT24 (eS hz13) r2 rfl ?_);refine wC (wCr (R:=fun vz wz=>(∃ b:Bool,vz = .bool b)∧Fr [] w2 wz) (vs:=#[uv]) h2.enters (mX1 (eS hz13)) ((h2.call w2 A _ u (hu.kept hF3 (by simp) (fun _ h=>h))).mono (by rintro e wz ⟨⟨b,rfl⟩,h⟩;exact ⟨_,rfl,⟨b,rfl⟩,h⟩)) ?_);rintro _ w19 ⟨⟨bb,rfl⟩,fr19⟩;have hF20:Fr [] w w19:=hF3.tr fr19;have rb21:=fr19.range r2 .nil;refine wC (Z4s (b:=bb) (eS hz13) ?_);refine wEk hz13 hd13 fun a22 ha22 hz22 hd22=>?_;have g22_14:get a22 14 = .bool (!bb):=kG ha22 hz13;refine hK18 a22 w19 ?_;refine wp_cond_split (t := !bb) (eK g22_14) (fun hc23=>?_) (fun hc23=>?_)
  · refine wp_seq_k fun K24 hK24=>?_;refine Z2 ?_;refine wC (wAs (v:=.bool false) rfl ?_);refine wEk hz22 hd22 fun a25 ha25 hz25 hd25=>?_;have g25_2:get a25 2 = .bool false:=kG ha25 hz22;refine hK24 a25 w19 ?_;refine wp_ret ?_;exact ⟨hd25,_,rIs hres g25_2,⟨_,rfl⟩,hF20⟩
  refine wp_skip ?_;refine hK17 a22 w19 (tUp ?_);refine wT fun K26 hK26=>?_;refine wC (wAs (v:=.bool true) rfl ?_);refine wEk hz22 hd22 fun a27 ha27 hz27 hd27=>?_;have g27_2:get a27 2 = .bool true:=kG ha27 hz22;refine hK26 a27 w19 (tUp ?_);refine wp_ret ?_;exact ⟨hd27,_,rIs hres g27_2,⟨_,rfl⟩,hF20⟩
end Go.Kq

namespace Go.Kq
open Go Go.Proofs
theorem Z7F {P:Program} {a:Act} {w:World} {K:Act→World→Prop} {Q:Exit→Act→World→Prop} {d:Option Tmp} {t:TypeId} {p:String} {af:Array Edge} {g:Option (Nat × Bool)} {T e sz bs:Nat} (hT:Z3 P T e sz bs=true)
    (k:∀ w',Fr [] w w'→Own w' (From w.heap.size w') 1 (.slice (some ⟨w.heap.size,0,none⟩) 0 0) ([]:List UInt8).length (Z0 [])→K (a.put d (.slice (some ⟨w.heap.size,0,none⟩) 0 0)) w'):OW P ⟨d,.buildSlice T 0 #[],t,p,af,g⟩ a w K Q:=by
  obtain ⟨hu,i,z0,hi,hs,hby,hzz,hsz0⟩:=Zt hT;refine Zf (v:=.slice (some ⟨w.heap.size,0,none⟩) 0 0) (w':=w.alloc (.cells #[] e)) ?_ (k _ (Fr.alloc _ _ _) ?_)
  · simp [execOp, Instr.buildSlice, run_underlying hu, sizeOf, typeInfo, hi, Instr.fill, newRow]
    congr 2
    exact Array.eq_empty_of_size_eq_zero (by simp)
  exact ⟨rfl,.inr ⟨w.heap.size,0,0,⟨Nat.le_refl _,by rw[Zb];omega⟩,rfl,Nat.le_refl _,by simp[maxLen],Z42,fun j hj=>absurd hj (by simp)⟩⟩
structure LawB (P:Program) (ge:Nat) (f:FuncId) (small:T→Prop):Prop where
  enters:Enters P f
  call:∀ (w:World) (n:Nat) (A B:Nat→Prop) (dv:Value) (dxs:List UInt8) (ct:List Value) (t:T) (er:Value) (ty:TypeId) (u:Value),n < 256→OctE w A dv dxs→dxs.length≤1048576→RepT w B ct t→(∀ b,A b→b < w.heap.size)→(∀ b,B b→b < w.heap.size) →
    w.cell? ⟨ge,0,none⟩=some er→er = .iface ty u→small t→Calls P f #[.int .u8 (n:Int),dv,.agg ct.toArray] w fun e w'=>e = .returned (.bool true)∧Fr [] w w'
end Go.Kq

namespace Go.Kq
open Go Go.Proofs
structure Z8Q (P:Program) (f:FuncId):Prop where
  enters:Enters P f
  call:∀ w v1 v2 s s2 A1 A2,OctE w A1 v1 s→OctE w A2 v2 s2→s2.length=s.length→Calls P f #[v1,v2] w fun e w'=>e = .returned (.bool (decide (s=s2)))∧Fr [] w w'
theorem samed_m {P:Program} {f:FuncId} {fn:Func} {TS TE et bs:TypeId} {T1 T2 T3 T4 T5 T6 T7 T8:TypeId} {i0 i1 i2 i3 i4 i5 i6 i7 i8 i9:Nat}
    {t0 t1 t2 t3 t4 t5 t6 t7 t8 t9 t10 t11 t12 t13 t14 t15 t16 t17 t18 t19 t20 t21 t22 t23 t24 t25:TypeId}
    {p0 p1 p2 p3 p4 p5 p6 p7 p8 p9 p10 p11 p12 p13 p14 p15 p16 p17 p18 p19 p20 p21 p22 p23 p24 p25:String}
    {e0 e1 e2 e3 e4 e5 e6 e7 e8 e9 e10 e11 e12 e13 e14 e15 e16 e17 e18 e19 e20 e21 e22 e23 e24 e25:Array Edge}
    (hmx:P.follows .mixedOrders=true) (hf:P.funcs[f]?=some fn) (hname:nG fn=false) (hres:fn.results = #[.tmp 4]) (hN:fn.ntmps=26)
    (hbody:fn.body=some (.seq (Code.region i0 ⟨[oA 4 (.const (.bool false)) t0 p0 e0]⟩ false) (.seq (.seq (Code.region i1 ⟨[oM 6 0 t1 p1 e1,⟨some 7,.call ⟨.builtin .len,#[.tmp 6],#[TS]⟩,t2,p2,e2,none⟩,oM 8 1 t3 p3 e3,⟨some 9,.call ⟨.builtin .len,#[.tmp 8],#[TS]⟩,t4,p4,e4,none⟩,⟨some 10,.binOp .neq T1 (.tmp 7) (.tmp 9) T2,t5,p5,e5,none⟩]⟩ false) (.cond (.tmp 10) (.seq (Code.region i2 ⟨[oA 4 (.const (.bool false)) t6 p6 e6]⟩ false) .ret) .skip)) (.seq (.seq (Code.region i3 ⟨[oM 11 0 t7 p7 e7,⟨some 12,.call ⟨.builtin .len,#[.tmp 11],#[TS]⟩,t8,p8,e8,none⟩,⟨some 13,.move (.const (.int .i64 0)),t9,p9,e9,none⟩]⟩ false) (.block 0 (.loop (.seq (Code.region i4 ⟨[⟨some 14,.binOp .lss T3 (.tmp 13) (.tmp 12) T4,t10,p10,e10,none⟩]⟩ false) (.seq (.cond (.tmp 14) .skip (.exit 0)) (.seq (.block 1 (.seq (Code.region i5 ⟨[oM 15 13 t11 p11 e11,oT 5 15 t12 p12 e12]⟩ false) (.seq (Code.region i6 ⟨[oM 16 0 t13 p13 e13,oM 17 5 t14 p14 e14,⟨some 18,.indexAddr TS (.tmp 16) (.tmp 17),t15,p15,e15,none⟩,oL 19 TE 18 t16 p16 e16,
                        oM 20 1 t17 p17 e17,oM 21 5 t18 p18 e18,⟨some 22,.indexAddr TS (.tmp 20) (.tmp 21),t19,p19,e19,none⟩,oL 23 TE 22 t20 p20 e20,⟨some 24,.binOp .neq T5 (.tmp 19) (.tmp 23) T6,t21,p21,e21,none⟩]⟩ true) (.cond (.tmp 24) (.seq (Code.region i7 ⟨[oA 4 (.const (.bool false)) t22 p22 e22]⟩ false) .ret) .skip))))
                  (Code.region i8 ⟨[⟨some 25,.binOp .add T7 (.tmp 13) (.const (.int .i64 1)) T8,t23,p23,e23,none⟩,oM 13 25 t24 p24 e24]⟩ false))))))) (.seq (Code.region i9 ⟨[oA 4 (.const (.bool true)) t25 p25 e25]⟩ false) .ret)))))
    (hTS:Z3 P TS et 1 bs=true) (hTE:scal P TE=true)
    (he:Z0I 0 [e13,e14,e15,e16,e17,e18,e19,e20,e21] [[],[],[0,1],[2],[],[],[4,5],[6],[3,7]]=true):Z8Q P f:=by
  refine ⟨enters_of hf hname hbody,?_⟩;intro w v1 v2 s s2 A1 A2 h1 h2 hl2;have hlen:=h1.big;obtain ⟨q1,c1,rfl,hq1⟩:=h1.slice;obtain ⟨q2,c2,hv2,hq2⟩:=h2.slice;rw[hl2] at hv2;subst hv2;refine calls_of_wp hf hbody ?_;generalize ha0:({ tmps:=#[Value.slice q1 s.length c1,Value.slice q2 s.length c2]++Array.replicate (fn.ntmps - #[Value.slice q1 s.length c1,Value.slice q2 s.length c2].size) undef,defers:=[] }:Act)=a0;have hsz:a0.tmps.size=26:=by subst ha0;simp[hN]
  have hd0:a0.defers=[]:=by subst ha0;rfl
  have g0:get a0 0 = .slice q1 s.length c1:=by subst ha0;exact gAr rfl
  have g1:get a0 1 = .slice q2 s.length c2:=by subst ha0;exact gAr rfl
  refine tId (wp_seq_k fun K1 hK1=>?_);refine Zu (m:=4) (by omega) (by omega) fun a1 k1 _=>hK1 a1 w (tUp ?_);have hz1:=k1.size;refine tId (wp_seq_k fun K2 hK2=>?_);refine wS fun K3 hK3=>?_;rw[wCo,wMw,eTm,k1.get 0 (by omega),g0,wCo];refine Z1v hTS (by rw[eTm,gQ]) ?_;rw[wCo,wMw,eTm,gR,gR,k1.get 1 (by omega),g1,wCo];refine Z1v hTS (by rw[eTm,gQ]) ?_;refine wC (Z4t (k1:=.i64) (i:=s.length) (j:=s.length) (by rw[eTm,gR,gR,gQ]) (by rw[eTm,gQ]) ?_);rw[wNi];generalize ha2:(((((a1.put (some 6) (.slice q1 s.length c1)).put (some 7) (.int .i64 s.length)).put (some 8) (.slice q2 s.length c2)).put (some 9) (.int .i64 s.length)).put (some 10) (.bool ((s.length:Int) != s.length)))=a2;have k2:Kept 6 a1 a2:=by subst ha2;exact (((((Kept.put0 (by omega) _).pt).pt).pt).pt)
  have g10:get a2 10 = .bool false:=by subst ha2;rw[gQ];simp
  have hz2:=k2.size;refine hK3 a2 w ?_;refine wp_cond_split (t:=false) (by rw[eTm,g10]) (fun h=>by cases h) fun _=>wp_skip (hK2 a2 w (tUp ?_));have kk2:Kept 4 a0 a2:=k1.trans (k2.mono (by omega));refine tId (wp_seq_k fun K4 hK4=>?_);refine wS fun K5 hK5=>?_;rw[wCo,wMw,eTm,kk2.get 0 (by omega),g0,wCo];refine Z1v hTS (by rw[eTm,gQ]) ?_;rw[wCo,wMw,eCo,wNi];generalize ha3:((a2.put (some 11) (.slice q1 s.length c1)).put (some 12) (.int .i64 s.length)).put (some 13) (.int .i64 0)=a3;have k3:Kept 6 a2 a3:=by subst ha3;exact ((Kept.put0 (by omega) _).pt).pt
  have g12:get a3 12 = .int .i64 s.length:=by subst ha3;rw[gR,gQ]
  have g13:get a3 13 = .int .i64 0:=by subst ha3;rw[gQ]
  have hz3:=k3.size;refine hK5 a3 w ?_;refine wp_block (wp_loop (fun a' w'=>∃ j:Nat,j≤s.length∧s.take j=s2.take j∧Kept 4 a0 a'∧get a' 12 = .int .i64 s.length∧get a' 13 = .int .i64 j∧Fr [] w w') (fun a' _=>s.length - Z2J (get a' 13)) ?_ ?_)
  · exact ⟨0,Nat.zero_le _,by simp,kk2.trans (k3.mono (by omega)),g12,g13,Fr.refl _ _⟩
  rintro a4 w4 ⟨j,hj,htk,k4,gl,gi,f4⟩;have hz4:=k4.size;refine wS fun K6 hK6=>?_;refine wC (Z08 (k1:=.i64) (i:=j) (j:=s.length) (by rw[eTm,gi]) (by rw[eTm,gl]) ?_);rw[wNi];generalize ha5:a4.put (some 14) (.bool (decide ((j:Int) < s.length)))=a5;have k5:Kept 14 a4 a5:=by subst ha5;exact Kept.put0 (Nat.le_refl _) _
  have g14:get a5 14 = .bool (decide ((j:Int) < s.length)):=by subst ha5;exact gQ
  have hz5:=k5.size;refine hK6 a5 w4 ?_;refine wp_seq_k fun K7 hK7=>?_;refine wp_cond_split (t:=decide ((j:Int) < s.length)) (by rw[eTm,g14]) ?_ ?_
  · intro hlt;have hjl : j < s.length := by simpa using hlt
    refine wp_skip (hK7 a5 w4 ?_);refine wp_seq_k fun K8 hK8=>?_;obtain ⟨b1,o1,rfl,hr1⟩:=hq1 (by omega);obtain ⟨b2,o2,rfl,hr2⟩:=hq2 (by omega);have hjl2:j < s2.length:=by omega
    refine wp_block (wp_mono (show Code.wp P _ (Exit.then K8 (Exit.inBlock 1 (Exit.then K8 _))) a5 w4 from ?_) (fun _ _ _=>Z05));refine wS fun K9 hK9=>?_;rw[wCo,wMw,eTm,k5.get 13 (by omega),gi,wCo,wAg,eTm,gQ,wNi];generalize ha6:(a5.put (some 15) (.int .i64 j)).put (some 5) (.int .i64 j)=a6;have k6:Kept 4 a4 a6:=by subst ha6;exact (k5.mono (by omega)).trans ((Kept.put0 (by omega) _).pt)
    have g5:get a6 5 = .int .i64 j:=by subst ha6;exact gQ
    have g12':get a6 12 = .int .i64 s.length:=by subst ha6;rw[gR,gR,k5.get 12 (by omega),gl]
    have g13':get a6 13 = .int .i64 j:=by subst ha6;rw[gR,gR,k5.get 13 (by omega),gi]
    have hz6:=k6.size;have kk6:=k4.trans k6;refine hK9 a6 w4 ?_;refine wp_seq_k fun K10 hK10=>?_;refine Z0n [spC [] (.slice (some ⟨b1,o1,none⟩) s.length c1),spC [] (.int .i64 j),spC [0,1] (.pointer (some ⟨b1,o1+(j:Int).toNat * 1,none⟩)),spC [2] (.int .u8 (s[j]).toNat),
      spC [] (.slice (some ⟨b2,o2,none⟩) s.length c2),spC [] (.int .i64 j),spC [4,5] (.pointer (some ⟨b2,o2+(j:Int).toNat * 1,none⟩)),spC [6] (.int .u8 (s2[j]).toNat),spC [3,7] (.bool (((s[j]).toNat:Int) != ((s2[j]).toNat:Int)))] 16 [] hmx he (by simp[Z0B]) (by simp[spC]) (by simp;omega)
      ⟨lCc _ _ _,lCc _ _ _,lCc _ _ _,lCc _ _ _,lCc _ _ _,lCc _ _ _,lCc _ _ _,lCc _ _ _,lCc _ _ _,trivial⟩ ?_ ?_
    · refine ⟨op_c fun a' w' hk' hf' hd' K' hK'=>?_,op_c fun a' w' hk' hf' hd' K' hK'=>?_,op_c fun a' w' hk' hf' hd' K' hK'=>?_,op_c fun a' w' hk' hf' hd' K' hK'=>?_,op_c fun a' w' hk' hf' hd' K' hK'=>?_,
        op_c fun a' w' hk' hf' hd' K' hK'=>?_,op_c fun a' w' hk' hf' hd' K' hK'=>?_,op_c fun a' w' hk' hf' hd' K' hK'=>?_,op_c fun a' w' hk' hf' hd' K' hK'=>?_,trivial⟩
      · rw[wMw,eTm,hk'.get 0 (by omega),kk6.get 0 (by omega),g0];exact hK'
      · rw[wMw,eTm,hk'.get 5 (by omega),g5];exact hK'
      · exact Zw hTS (by rw[eTm];exact hd'.c 0 (by simp) rfl) (by rw[eTm];exact hd'.c 1 (by simp) rfl) (by omega) (by omega) hK'
      · refine Zj hTE (by rw [eTm]; exact hd'.c 2 (by simp) rfl) ?_ hK';have := Z27 ((f4.tr hf').range hr1 .nil) hjl
        simpa using this
      · rw[wMw,eTm,hk'.get 1 (by omega),kk6.get 1 (by omega),g1];exact hK'
      · rw[wMw,eTm,hk'.get 5 (by omega),g5];exact hK'
      · exact Zw hTS (by rw[eTm];exact hd'.c 4 (by simp) rfl) (by rw[eTm];exact hd'.c 5 (by simp) rfl) (by omega) (by omega) hK'
      · refine Zj hTE (by rw [eTm]; exact hd'.c 6 (by simp) rfl) ?_ hK';have := Z27 ((f4.tr hf').range hr2 .nil) hjl2
        simpa using this
      refine Z4t (k1:=.u8) (by rw[eTm];exact hd'.c 3 (by simp) rfl) (by rw[eTm];exact hd'.c 7 (by simp) rfl) ?_;exact hK'
    intro a7 w7 k7 f7 hd7;have g24:get a7 24 = .bool (((s[j]).toNat:Int) != ((s2[j]).toNat:Int)):=hd7.c (nd':=[3,7]) 8 (by simp) rfl;refine hK10 a7 w7 ?_;refine wp_cond_split (t:=((s[j]).toNat:Int) != ((s2[j]).toNat:Int)) (by rw[eTm,g24]) (fun hne=>?_) fun heq=>wp_skip (hK8 a7 w7 ?_)
    · have hz7:=k7.size;refine wp_seq_k fun K12 hK12=>?_;refine Zu (m:=4) (by omega) (by omega) fun a8 k8 g8=>hK12 a8 w7 ?_;refine wp_ret ?_;refine ⟨by rw[k8.defers,k7.defers,kk6.defers,hd0],_,Z5 hres,?_,f4.tr f7⟩;rw[g8,decide_eq_false];intro e;subst e;simp at hne
    have hsj:s[j]=s2[j]:=by
      have:((s[j]).toNat:Int)=((s2[j]).toNat:Int):=by simpa using heq
      exact UInt8.toNat.inj (by omega)
    have htk':s.take (j+1)=s2.take (j+1):=by rw[List.take_succ_eq_append_getElem hjl,List.take_succ_eq_append_getElem hjl2,htk,hsj]
    have hz7:=k7.size;refine Z2 ?_;refine wC (ZJ (k1:=.i64) (i:=j) (j:=1) (by rw[eTm,k7.get 13 (by omega),g13']) rfl ?_);rw[wCo,wMw,eTm,gQ,wNi];have hwr:IntKind.i64.wrap ((j:Int)+1)=((j+1:Nat):Int):=by
      simp[IntKind.wrap,IntKind.bits,IntKind.signed];omega
    rw[hwr];refine ⟨⟨j+1,hjl,htk',?_,?_,?_,f4.tr f7⟩,?_⟩
    · exact (kk6.trans (k7.mono (by omega))).trans ((Kept.put0 (by omega) _).pt)
    · rw[gR,gR,k7.get 12 (by omega),g12']
    · rw[gQ]
    rw[gQ,gi];simp[Z2J];omega
  intro hge;refine wp_exit ?_;show K4 a5 w4
  refine hK4 a5 w4 (tUp ?_);refine tId (wp_seq_k fun K11 hK11=>?_);have hz5:=k5.size;refine Zu (m:=4) (by omega) (by omega) fun a8 k8 g8=>hK11 a8 w4 (tUp ?_);refine wp_ret ?_;refine ⟨by rw[k8.defers,k5.defers,k4.defers,hd0],_,Z5 hres,?_,f4⟩;have hge':s.length≤j:=by simpa using hge
  rw[List.take_of_length_le hge',List.take_of_length_le (by omega)] at htk;rw[g8,htk];simp
end Go.Kq

namespace Go.Kq
open Go Go.Proofs
structure Z2u (P:Program) (f:FuncId) (fd:Fd):Prop where
  enters:Enters P f
  call:∀ (w:World) (A B:Nat→Prop) (cs ct:List Value) (t:T),RepF w A cs fd→RepT w B ct t→Calls P f #[.agg cs.toArray,.agg ct.toArray] w fun e w'=>e = .returned (.bool (Z02 fd t))∧Fr [] w w'
theorem Z1w (fd:Fd) (t:T):Z02 fd t=if fd.kind=0 then decide (t.n % 2=fd.df) else if fd.kind=7 then (t.s.take 16).all (·==0) else if fd.kind=8∨fd.kind=9 then (if fd.nul≥0 then t.nl else t.s.isEmpty)
    else if fd.kind=11 then t.l.isEmpty else if fd.kind=10 then Z6a fd.sub t.l 0 && (ZA fd.sub t.u).isEmpty else decide (fxW t.n (Zg fd.kind)=fxW fd.df (Zg fd.kind)):=by
  cases fd with
  | mk kind fr to nul tag df of sub=>rw[Z02];rfl
theorem Z2Q (k:Int):Zg k≤8:=by unfold Zg;(repeat' split) <;> decide
set_option maxHeartbeats 4000000 in
theorem usualw_m {P:Program} {f:FuncId} {fn:Func} {T2 T3 T4 T5 T22 T23 T24 T26 T29 T45:TypeId} {f13 f56 f58 f60 f94 f95:FuncId} {ct0:Array TypeId} {ct1:Array TypeId} {ct2:Array TypeId} {ct3:Array TypeId} {ct4:Array TypeId} {ct5:Array TypeId} {ct6:Array TypeId} {ct7:Array TypeId} {i0 i1 i2 i3 i4 i5 i6 i7 i8 i9 i10 i11 i12 i13 i14 i15 i16 i17 i18 i19 i20 i21 i22 i23 i24 i25 i26 i27:Nat} {t0 t1 t2 t3 t4 t5 t6 t7 t8 t9 t10 t11 t12 t13 t14 t15 t16 t17 t18 t19 t20 t21 t22 t23 t24 t25 t26 t27 t28 t29 t30 t31 t32 t33 t34 t35 t36 t37 t38 t39 t40 t41 t42 t43 t44 t45 t46 t47 t48 t49 t50 t51 t52 t53 t54 t55 t56 t57 t58 t59 t60 t61 t62 t63 t64 t65 t66 t67 t68 t69 t70 t71 t72 t73 t74 t75 t76 t77 t78 t79 t80 t81 t82 t83 t84 t85 t86 t87 t88 t89 t90 t91 t92 t93 t94 t95 t96 t97 t98 t99 t100 t101:TypeId} {p0 p1 p2 p3 p4 p5 p6 p7 p8 p9 p10 p11 p12 p13 p14 p15 p16 p17 p18 p19 p20 p21 p22 p23 p24 p25 p26 p27 p28 p29 p30 p31 p32 p33 p34 p35 p36 p37 p38 p39 p40 p41 p42 p43 p44 p45 p46 p47 p48 p49 p50 p51 p52 p53 p54 p55 p56 p57 p58 p59 p60 p61 p62 p63 p64 p65 p66 p67 p68 p69 p70 p71 p72 p73 p74 p75 p76 p77 p78 p79 p80 p81 p82 p83 p84 p85 p86 p87 p88 p89 p90 p91 p92 p93 p94 p95 p96 p97 p98 p99 p100 p101:String} {e0 e1 e2 e3 e4 e5 e6 e7 e8 e9 e10 e11 e12 e13 e14 e15 e16 e17 e18 e19 e20 e21 e22 e23 e24 e25 e26 e27 e28 e29 e30 e31 e32 e33 e34 e35 e36 e37 e38 e39 e40 e41 e42 e43 e44 e45 e46 e47 e48 e49 e50 e51 e52 e53 e54 e55 e56 e57 e58 e59 e60 e61 e62 e63 e64 e65 e66 e67 e68 e69 e70 e71 e72 e73 e74 e75 e76 e77 e78 e79 e80 e81 e82 e83 e84 e85 e86 e87 e88 e89 e90 e91 e92 e93 e94 e95 e96 e97 e98 e99 e100 e101:Array Edge} {fd:Fd}
    (hf:P.funcs[f]?=some fn) (hname:nG fn=false) (hres:fn.results = #[.tmp 4]) (hN:fn.ntmps=91)
    (hbody:fn.body=some (.seq (Code.region i0 ⟨[⟨some 2,.box T45 (.tmp 0),t0,p0,e0,none⟩,⟨some 3,.box T26 (.tmp 1),t1,p1,e1,none⟩,
    oA 4 (.const (.bool false)) t2 p2 e2]⟩ false) (.seq (.seq (Code.region i1 ⟨[oF 9 T45 2 0 t3 p3 e3,
    oL 10 T3 9 t4 p4 e4]⟩ false) (.block 0 (.seq (Code.region i2 ⟨[⟨some 12,.binOp .eql T3 (.tmp 10) (.const (.int .i64 0)) T3,t5,p5,e5,none⟩,
    oT 11 12 t6 p6 e6]⟩ false) (.cond (.tmp 11) (.seq (Code.region i3 ⟨[oF 13 T26 3 0 t7 p7 e7,
    oL 14 T2 13 t8 p8 e8,⟨some 15,.binOp .and T2 (.tmp 14) (.const (.int .i64 1)) T2,t9,p9,e9,none⟩,
    oF 16 T45 2 5 t10 p10 e10,
    oL 17 T2 16 t11 p11 e11,⟨some 18,.binOp .eql T2 (.tmp 15) (.tmp 17) T2,t12,p12,e12,none⟩,
    oT 4 18 t13 p13 e13]⟩ false) .ret) (.seq (Code.region i4 ⟨[⟨some 20,.binOp .eql T3 (.tmp 10) (.const (.int .i64 7)) T3,t14,p14,e14,none⟩,
    oT 19 20 t15 p15 e15]⟩ false) (.cond (.tmp 19) (.seq (.seq (Code.region i5 ⟨[oF 21 T26 3 1 t16 p16 e16,
    oL 22 T22 21 t17 p17 e17,⟨some 23,.call ⟨.builtin .len,#[(.tmp 22)],#[T22]⟩,t18,p18,e18,none⟩,⟨some 24,.move (.const (.int .i64 0)),t19,p19,e19,none⟩]⟩ false) (.block 1 (.loop (.seq (Code.region i6 ⟨[⟨some 25,.binOp .lss T3 (.tmp 24) (.tmp 23) T3,t20,p20,e20,none⟩]⟩ false) (.seq (.cond (.tmp 25) .skip
  (.exit 1)) (.seq (.block 2 (.seq (Code.region i7 ⟨[oM 26 24 t21 p21 e21,⟨some 27,.indexAddr T22 (.tmp 22) (.tmp 24),t22,p22,e22,none⟩,
    oL 28 T5 27 t23 p23 e23,
    oT 5 26 t24 p24 e24,
    oT 6 28 t25 p25 e25]⟩ false) (.seq (Code.region i8 ⟨[oM 29 5 t26 p26 e26,⟨some 30,.binOp .lss T3 (.tmp 29) (.const (.int .i64 16)) T3,t27,p27,e27,none⟩,
    oM 31 30 t28 p28 e28,⟨some 32,.move (.tmp 6),t29,p29,e29,some (2,true)⟩,⟨some 33,.binOp .neq T5 (.tmp 32) (.const (.int .u8 0)) T5,t30,p30,e30,some (2,true)⟩,⟨some 34,.pick (.tmp 31) (.tmp 33) (.const (.bool false)),t31,p31,e31,none⟩]⟩ false) (.cond (.tmp 34) (.seq (Code.region i9 ⟨[oA 4 (.const (.bool false)) t32 p32 e32]⟩ false) .ret) .skip))))
  (Code.region i10 ⟨[⟨some 35,.binOp .add T3 (.tmp 24) (.const (.int .i64 1)) T3,t33,p33,e33,none⟩,
    oM 24 35 t34 p34 e34]⟩ false))))))) (.seq (Code.region i11 ⟨[oA 4 (.const (.bool true)) t35 p35 e35]⟩ false) .ret)) (.seq (.seq (Code.region i12 ⟨[⟨some 37,.binOp .eql T3 (.tmp 10) (.const (.int .i64 8)) T3,t36,p36,e36,none⟩,
    oT 36 37 t37 p37 e37]⟩ false) (.cond (.tmp 36) .skip
  (Code.region i13 ⟨[⟨some 38,.binOp .eql T3 (.tmp 10) (.const (.int .i64 9)) T3,t38,p38,e38,none⟩,
    oT 36 38 t39 p39 e39]⟩ false))) (.cond (.tmp 36) (.seq (.seq (Code.region i14 ⟨[oF 39 T45 2 3 t40 p40 e40,
    oL 40 T3 39 t41 p41 e41,⟨some 41,.binOp .geq T3 (.tmp 40) (.const (.int .i64 0)) T3,t42,p42,e42,none⟩]⟩ false) (.cond (.tmp 41) (.seq (Code.region i15 ⟨[oF 42 T26 3 2 t43 p43 e43,
    oL 43 T4 42 t44 p44 e44,
    oT 4 43 t45 p45 e45]⟩ false) .ret) .skip)) (.seq (Code.region i16 ⟨[oF 44 T26 3 1 t46 p46 e46,
    oL 45 T22 44 t47 p47 e47,⟨some 46,.call ⟨.builtin .len,#[(.tmp 45)],#[T22]⟩,t48,p48,e48,none⟩,⟨some 47,.binOp .eql T3 (.tmp 46) (.const (.int .i64 0)) T3,t49,p49,e49,none⟩,
    oT 4 47 t50 p50 e50]⟩ false) .ret)) (.seq (Code.region i17 ⟨[⟨some 49,.binOp .eql T3 (.tmp 10) (.const (.int .i64 11)) T3,t51,p51,e51,none⟩,
    oT 48 49 t52 p52 e52]⟩ false) (.cond (.tmp 48) (.seq (Code.region i18 ⟨[oF 50 T26 3 3 t53 p53 e53,
    oL 51 T23 50 t54 p54 e54,⟨some 52,.call ⟨.builtin .len,#[(.tmp 51)],#[T23]⟩,t55,p55,e55,none⟩,⟨some 53,.binOp .eql T3 (.tmp 52) (.const (.int .i64 0)) T3,t56,p56,e56,none⟩,
    oT 4 53 t57 p57 e57]⟩ false) .ret) (.seq (Code.region i19 ⟨[⟨some 55,.binOp .eql T3 (.tmp 10) (.const (.int .i64 10)) T3,t58,p58,e58,none⟩,
    oT 54 55 t59 p59 e59]⟩ false) (.cond (.tmp 54) (.seq (.seq (Code.region i20 ⟨[oF 56 T45 2 7 t60 p60 e60,
    oL 57 T29 56 t61 p61 e61,⟨some 58,.call ⟨.builtin .len,#[(.tmp 57)],#[T29]⟩,t62,p62,e62,none⟩,⟨some 59,.move (.const (.int .i64 0)),t63,p63,e63,none⟩]⟩ false) (.block 3 (.loop (.seq (Code.region i21 ⟨[⟨some 60,.binOp .lss T3 (.tmp 59) (.tmp 58) T3,t64,p64,e64,none⟩]⟩ false) (.seq (.cond (.tmp 60) .skip
  (.exit 3)) (.seq (.block 4 (.seq (Code.region i22 ⟨[oM 61 59 t65 p65 e65,⟨some 62,.indexAddr T29 (.tmp 57) (.tmp 59),t66,p66,e66,none⟩,
    oL 63 T45 62 t67 p67 e67,⟨some 8,.alloc T45,t68,p68,e68,none⟩,
    oT 7 61 t69 p69 e69,
    oS T45 8 63 t70 p70 e70]⟩ false) (.seq (Code.region i23 ⟨[oL 64 T45 8 t71 p71 e71,
    oL 65 T26 3 t72 p72 e72,
    oM 66 7 t73 p73 e73,
    oC 67 f56 #[(.tmp 65),(.tmp 66)] ct0 t74 p74 e74,
    oC 68 f58 #[(.tmp 64),(.tmp 67)] ct1 t75 p75 e75,⟨some 69,.unOp .not T4 (.tmp 68),t76,p76,e76,none⟩]⟩ true) (.cond (.tmp 69) (.seq (Code.region i24 ⟨[oA 4 (.const (.bool false)) t77 p77 e77]⟩ false) .ret) .skip))))
  (Code.region i25 ⟨[⟨some 70,.binOp .add T3 (.tmp 59) (.const (.int .i64 1)) T3,t78,p78,e78,none⟩,
    oM 59 70 t79 p79 e79]⟩ false))))))) (.seq (Code.region i26 ⟨[oF 71 T45 2 7 t80 p80 e80,
    oL 72 T29 71 t81 p81 e81,
    oF 73 T26 3 4 t82 p82 e82,
    oL 74 T24 73 t83 p83 e83,
    oC 75 f60 #[(.tmp 72),(.tmp 74)] ct2 t84 p84 e84,⟨some 76,.call ⟨.builtin .len,#[(.tmp 75)],#[T24]⟩,t85,p85,e85,none⟩,⟨some 77,.binOp .eql T3 (.tmp 76) (.const (.int .i64 0)) T3,t86,p86,e86,none⟩,
    oT 4 77 t87 p87 e87]⟩ false) .ret)) .skip)))))))))))) (.seq (Code.region i27 ⟨[oF 78 T26 3 0 t88 p88 e88,
    oL 79 T2 78 t89 p89 e89,
    oF 80 T45 2 0 t90 p90 e90,
    oL 81 T3 80 t91 p91 e91,
    oC 82 f95 #[(.tmp 81)] ct3 t92 p92 e92,
    oC 83 f94 #[(.tmp 79),(.tmp 82)] ct4 t93 p93 e93,
    oF 84 T45 2 5 t94 p94 e94,
    oL 85 T2 84 t95 p95 e95,
    oF 86 T45 2 0 t96 p96 e96,
    oL 87 T3 86 t97 p97 e97,
    oC 88 f95 #[(.tmp 87)] ct5 t98 p98 e98,
    oC 89 f94 #[(.tmp 85),(.tmp 88)] ct6 t99 p99 e99,
    oC 90 f13 #[(.tmp 83),(.tmp 89)] ct7 t100 p100 e100,
    oT 4 90 t101 p101 e101]⟩ true) .ret))))
    (hFlT45:Flat P T45 zF) (hcT3:scal P T3=true) (hFlT26:Flat P T26 zT) (hcT4:scal P T4=true) (hcT22:scal P T22=true) (hsT22:slTy P T22=true) (hcT23:scal P T23=true) (hsT23:slTy P T23=true) (hcT2:scal P T2=true) (he27:Z0I 0 [e88,e89,e90,e91,e92,e93,e94,e95,e96,e97,e98,e99,e100,e101] [[],[0],[],[2],[3],[1,4],[],[6],[],[8],[9],[7,10],[5,11],[0,1,2,3,4,5,6,7,8,9,10,11,12]]=true) (hmx:P.follows .mixedOrders=true) (h0:¬ fd.kind=0) (h7:¬ fd.kind=7) (h10:¬ fd.kind=10) (hFx:FixM P f94) (hWi:Z74 P f95) (hSa:Z8Q P f13):Z2u P f fd:=by
  refine ⟨enters_of hf hname hbody,?_⟩;intro w A B cs ct t hr ht
  cases t with
  | mk n s nl l u =>
  obtain ⟨sv,lv,uv,rfl,hn,hs,hl,hu⟩:=Z0O.1 ht;obtain ⟨fsv,rfl,hsub⟩:=ZK.1 hr;obtain ⟨sq,scap,rfl,-,-,-⟩:=hs.slice2;obtain ⟨lq,lcap,rfl,-,-,-⟩:=hl.sl2;refine calls_of_wp hf hbody ?_;generalize ha0:({ tmps:=#[Value.agg ([.int .i64 fd.kind,.int .i64 fd.fr,.int .i64 fd.to,.int .i64 fd.nul,.int .i64 fd.tag,.int .i64 fd.df,.int .i64 fd.of,fsv]:List Value).toArray,Value.agg ([.int .i64 n,.slice sq s.length scap,.bool nl,.slice lq l.length lcap,uv]:List Value).toArray]++Array.replicate (fn.ntmps - (#[Value.agg ([.int .i64 fd.kind,.int .i64 fd.fr,.int .i64 fd.to,.int .i64 fd.nul,.int .i64 fd.tag,.int .i64 fd.df,.int .i64 fd.of,fsv]:List Value).toArray,Value.agg ([.int .i64 n,.slice sq s.length scap,.bool nl,.slice lq l.length lcap,uv]:List Value).toArray]:Array Value).size) undef,defers:=[] }:Act)=a0;have hz0:a0.tmps.size=91:=by subst ha0;simp[hN]
  have hd0:a0.defers=[]:=by subst ha0;rfl
  have g0_0:get a0 0 = .agg ([.int .i64 fd.kind,.int .i64 fd.fr,.int .i64 fd.to,.int .i64 fd.nul,.int .i64 fd.tag,.int .i64 fd.df,.int .i64 fd.of,fsv]:List Value).toArray:=by subst ha0;exact gAr rfl
  have g0_1:get a0 1 = .agg ([.int .i64 n,.slice sq s.length scap,.bool nl,.slice lq l.length lcap,uv]:List Value).toArray:=by subst ha0;exact gAr rfl
  refine wT fun K1 hK1=>?_;refine wC (ZS (cs:=[.int .i64 fd.kind,.int .i64 fd.fr,.int .i64 fd.to,.int .i64 fd.nul,.int .i64 fd.tag,.int .i64 fd.df,.int .i64 fd.of,fsv]) (eK g0_0) ?_);rintro w2 f2 sz2 r2 th2;have hF3:Fr [] w w2:=f2;refine wC (ZS (cs:=[.int .i64 n,.slice sq s.length scap,.bool nl,.slice lq l.length lcap,uv]) (eK g0_1) ?_);rintro w4 f4 sz4 r4 th4;have hF5:Fr [] w w4:=hF3.tr f4;have rb6:=f4.range r2 .nil;refine wC (wAs (v:=.bool false) rfl ?_);refine wEk hz0 hd0 fun a7 ha7 hz7 hd7=>?_;have g7_2:get a7 2 = .pointer (some ⟨w.heap.size,0,none⟩):=kG ha7 hz0;have g7_3:get a7 3 = .pointer (some ⟨w2.heap.size,0,none⟩):=kG ha7 hz0;refine hK1 a7 w4 (tUp ?_);refine tId (wp_seq_k fun K8 hK8=>?_);refine wS fun K9 hK9=>?_;refine wC (wFa (b:=w.heap.size) (i:=0) (hFlT45.fld (by decide)) (eK g7_2) ?_);rw[show (0+0:Nat)=0 from rfl];refine wC (wL0 (j:=0) (v:=.int .i64 fd.kind) hcT3 (eS hz7) rb6 rfl ?_);refine wEk hz7 hd7 fun a10 ha10 hz10 hd10=>?_;have g10_2:=kP ha10 g7_2;have g10_3:=kP ha10 g7_3;have g10_10:get a10 10 = .int .i64 fd.kind:=kG ha10 hz7
  by_cases h8:fd.kind=8∨fd.kind=9
  · by_cases h8' : fd.kind = 8
    · by_cases hnn : fd.nul ≥ 0
      · refine hK9 a10 w4 ?_;refine Zm ?_;refine wS fun K11 hK11 => ?_;refine wC (ZX (k1 := .i64) (i := fd.kind) (j := 0) h0 (eK g10_10) rfl ?_);refine wC (wAs (v := .bool false) (eS hz10) ?_);refine wEk hz10 hd10 fun a12 ha12 hz12 hd12 => ?_;have g12_2 := kP ha12 g10_2;have g12_3 := kP ha12 g10_3;have g12_10 := kP ha12 g10_10;have g12_11 : get a12 11 = .bool false := kG ha12 hz10;refine hK11 a12 w4 ?_;refine wp_cond_split (t := false) (eK g12_11) (fun h => by cases h) (fun _ => ?_);refine wS fun K14 hK14 => ?_;refine wC (ZX (k1 := .i64) (i := fd.kind) (j := 7) h7 (eK g12_10) rfl ?_);refine wC (wAs (v := .bool false) (eS hz12) ?_);refine wEk hz12 hd12 fun a15 ha15 hz15 hd15 => ?_;have g15_2 := kP ha15 g12_2;have g15_3 := kP ha15 g12_3;have g15_10 := kP ha15 g12_10;have g15_19 : get a15 19 = .bool false := kG ha15 hz12;refine hK14 a15 w4 ?_;refine wp_cond_split (t := false) (eK g15_19) (fun h => by cases h) (fun _ => ?_);refine wp_seq_k fun K17 hK17 => ?_;refine wS fun K18 hK18 => ?_;refine wC (Z1l (k1 := .i64) (i := fd.kind) (j := 8) h8' (eK g15_10) rfl ?_);refine wC (wAs (v := .bool true) (eS hz15) ?_);refine wEk hz15 hd15 fun a19 ha19 hz19 hd19 => ?_;have g19_2 := kP ha19 g15_2;have g19_3 := kP ha19 g15_3;have g19_36 : get a19 36 = .bool true := kG ha19 hz15;refine hK18 a19 w4 ?_;refine wp_cond_split (t := true) (eK g19_36) (fun _ => ?_) (fun h => by cases h);refine wp_skip ?_;refine hK17 a19 w4 ?_;refine wp_cond_split (t := true) (eK g19_36) (fun _ => ?_) (fun h => by cases h);refine wp_seq_k fun K22 hK22 => ?_;refine wS fun K23 hK23 => ?_;refine wC (wFa (b := w.heap.size) (i := 0) (hFlT45.fld (by decide)) (eK g19_2) ?_);rw [show (0 + 3 : Nat) = 3 from rfl];refine wC (wL0 (j := 3) (v := .int .i64 fd.nul) hcT3 (eS hz19) rb6 rfl ?_);refine wC (Z2w (k1 := .i64) (i := fd.nul) (j := 0) hnn (eS hz19) rfl ?_);refine wEk hz19 hd19 fun a24 ha24 hz24 hd24 => ?_;have g24_3 := kP ha24 g19_3;have g24_41 : get a24 41 = .bool true := kG ha24 hz19;refine hK23 a24 w4 ?_;refine wp_cond_split (t := true) (eK g24_41) (fun _ => ?_) (fun h => by cases h);refine wS fun K26 hK26 => ?_;refine wC (wFa (b := w2.heap.size) (i := 0) (hFlT26.fld (by decide)) (eK g24_3) ?_);rw [show (0 + 2 : Nat) = 2 from rfl];refine wC (wL0 (j := 2) (v := .bool nl) hcT4 (eS hz24) r4 rfl ?_);refine wC (wAs (v := .bool nl) (eS hz24) ?_);refine wEk hz24 hd24 fun a27 ha27 hz27 hd27 => ?_;have g27_4 : get a27 4 = .bool nl := kG ha27 hz24;refine hK26 a27 w4 ?_;refine wp_ret ?_;have hW : Z02 fd (.mk n s nl l u) = (nl) := by rw [Z1w, if_neg h0, if_neg h7, if_pos h8, if_pos hnn]; rfl
        exact ⟨hd27,_,rIs hres g27_4,by rw[hW],hF5⟩
      refine hK9 a10 w4 ?_;refine Zm ?_;refine wS fun K28 hK28=>?_;refine wC (ZX (k1:=.i64) (i:=fd.kind) (j:=0) h0 (eK g10_10) rfl ?_);refine wC (wAs (v:=.bool false) (eS hz10) ?_);refine wEk hz10 hd10 fun a29 ha29 hz29 hd29=>?_;have g29_2:=kP ha29 g10_2;have g29_3:=kP ha29 g10_3;have g29_10:=kP ha29 g10_10;have g29_11:get a29 11 = .bool false:=kG ha29 hz10;refine hK28 a29 w4 ?_;refine wp_cond_split (t:=false) (eK g29_11) (fun h=>by cases h) (fun _=>?_);refine wS fun K31 hK31=>?_;refine wC (ZX (k1:=.i64) (i:=fd.kind) (j:=7) h7 (eK g29_10) rfl ?_);refine wC (wAs (v:=.bool false) (eS hz29) ?_);refine wEk hz29 hd29 fun a32 ha32 hz32 hd32=>?_;have g32_2:=kP ha32 g29_2;have g32_3:=kP ha32 g29_3;have g32_10:=kP ha32 g29_10;have g32_19:get a32 19 = .bool false:=kG ha32 hz29;refine hK31 a32 w4 ?_;refine wp_cond_split (t:=false) (eK g32_19) (fun h=>by cases h) (fun _=>?_);refine wp_seq_k fun K34 hK34=>?_;refine wS fun K35 hK35=>?_;refine wC (Z1l (k1:=.i64) (i:=fd.kind) (j:=8) h8' (eK g32_10) rfl ?_);refine wC (wAs (v:=.bool true) (eS hz32) ?_);refine wEk hz32 hd32 fun a36 ha36 hz36 hd36=>?_;have g36_2:=kP ha36 g32_2;have g36_3:=kP ha36 g32_3;have g36_36:get a36 36 = .bool true:=kG ha36 hz32;refine hK35 a36 w4 ?_;refine wp_cond_split (t:=true) (eK g36_36) (fun _=>?_) (fun h=>by cases h);refine wp_skip ?_;refine hK34 a36 w4 ?_;refine wp_cond_split (t:=true) (eK g36_36) (fun _=>?_) (fun h=>by cases h);refine wp_seq_k fun K39 hK39=>?_;refine wS fun K40 hK40=>?_;refine wC (wFa (b:=w.heap.size) (i:=0) (hFlT45.fld (by decide)) (eK g36_2) ?_);rw[show (0+3:Nat)=3 from rfl];refine wC (wL0 (j:=3) (v:=.int .i64 fd.nul) hcT3 (eS hz36) rb6 rfl ?_);refine wC (Z3c (k1:=.i64) (i:=fd.nul) (j:=0) hnn (eS hz36) rfl ?_);refine wEk hz36 hd36 fun a41 ha41 hz41 hd41=>?_;have g41_3:=kP ha41 g36_3;have g41_41:get a41 41 = .bool false:=kG ha41 hz36;refine hK40 a41 w4 ?_;refine wp_cond_split (t:=false) (eK g41_41) (fun h=>by cases h) (fun _=>?_);refine wp_skip ?_;refine hK39 a41 w4 ?_;refine wS fun K43 hK43=>?_;refine wC (wFa (b:=w2.heap.size) (i:=0) (hFlT26.fld (by decide)) (eK g41_3) ?_);rw[show (0+1:Nat)=1 from rfl];refine wC (wL0 (j:=1) (v:=.slice sq s.length scap) hcT22 (eS hz41) r4 rfl ?_);refine wC (Zs (n:=s.length) hsT22 (eS hz41) ?_);refine wC (Z0h (k1:=.i64) (i:=((s.length:Nat):Int)) (j:=0) (eS hz41) rfl ?_);refine wC (wAs (v:=.bool ((((s.length:Nat):Int):Int)==(0:Int))) (eS hz41) ?_);refine wEk hz41 hd41 fun a44 ha44 hz44 hd44=>?_;have g44_4:get a44 4 = .bool ((((s.length:Nat):Int):Int)==(0:Int)):=kG ha44 hz41;refine hK43 a44 w4 ?_;refine wp_ret ?_;have hW:Z02 fd (.mk n s nl l u)=(((((s.length:Nat):Int):Int)==(0:Int))):=by rw[Z1w,if_neg h0,if_neg h7,if_pos h8,if_neg hnn];cases s <;> rfl
      exact ⟨hd44,_,rIs hres g44_4,by rw[hW],hF5⟩
    have h9:fd.kind=9:=by omega
    by_cases hnn:fd.nul≥0
    · refine hK9 a10 w4 ?_;refine Zm ?_;refine wS fun K45 hK45 => ?_;refine wC (ZX (k1 := .i64) (i := fd.kind) (j := 0) h0 (eK g10_10) rfl ?_);refine wC (wAs (v := .bool false) (eS hz10) ?_);refine wEk hz10 hd10 fun a46 ha46 hz46 hd46 => ?_;have g46_2 := kP ha46 g10_2;have g46_3 := kP ha46 g10_3;have g46_10 := kP ha46 g10_10;have g46_11 : get a46 11 = .bool false := kG ha46 hz10;refine hK45 a46 w4 ?_;refine wp_cond_split (t := false) (eK g46_11) (fun h => by cases h) (fun _ => ?_);refine wS fun K48 hK48 => ?_;refine wC (ZX (k1 := .i64) (i := fd.kind) (j := 7) h7 (eK g46_10) rfl ?_);refine wC (wAs (v := .bool false) (eS hz46) ?_);refine wEk hz46 hd46 fun a49 ha49 hz49 hd49 => ?_;have g49_2 := kP ha49 g46_2;have g49_3 := kP ha49 g46_3;have g49_10 := kP ha49 g46_10;have g49_19 : get a49 19 = .bool false := kG ha49 hz46;refine hK48 a49 w4 ?_;refine wp_cond_split (t := false) (eK g49_19) (fun h => by cases h) (fun _ => ?_);refine wp_seq_k fun K51 hK51 => ?_;refine wS fun K52 hK52 => ?_;refine wC (ZX (k1 := .i64) (i := fd.kind) (j := 8) h8' (eK g49_10) rfl ?_);refine wC (wAs (v := .bool false) (eS hz49) ?_);refine wEk hz49 hd49 fun a53 ha53 hz53 hd53 => ?_;have g53_2 := kP ha53 g49_2;have g53_3 := kP ha53 g49_3;have g53_10 := kP ha53 g49_10;have g53_36 : get a53 36 = .bool false := kG ha53 hz49;refine hK52 a53 w4 ?_;refine wp_cond_split (t := false) (eK g53_36) (fun h => by cases h) (fun _ => ?_);refine Z2 ?_;refine wC (Z1l (k1 := .i64) (i := fd.kind) (j := 9) h9 (eK g53_10) rfl ?_);refine wC (wAs (v := .bool true) (eS hz53) ?_);refine wEk hz53 hd53 fun a55 ha55 hz55 hd55 => ?_;have g55_2 := kP ha55 g53_2;have g55_3 := kP ha55 g53_3;have g55_36 : get a55 36 = .bool true := kG ha55 hz53;refine hK51 a55 w4 ?_;refine wp_cond_split (t := true) (eK g55_36) (fun _ => ?_) (fun h => by cases h);refine wp_seq_k fun K57 hK57 => ?_;refine wS fun K58 hK58 => ?_;refine wC (wFa (b := w.heap.size) (i := 0) (hFlT45.fld (by decide)) (eK g55_2) ?_);rw [show (0 + 3 : Nat) = 3 from rfl];refine wC (wL0 (j := 3) (v := .int .i64 fd.nul) hcT3 (eS hz55) rb6 rfl ?_);refine wC (Z2w (k1 := .i64) (i := fd.nul) (j := 0) hnn (eS hz55) rfl ?_);refine wEk hz55 hd55 fun a59 ha59 hz59 hd59 => ?_;have g59_3 := kP ha59 g55_3;have g59_41 : get a59 41 = .bool true := kG ha59 hz55;refine hK58 a59 w4 ?_;refine wp_cond_split (t := true) (eK g59_41) (fun _ => ?_) (fun h => by cases h);refine wS fun K61 hK61 => ?_;refine wC (wFa (b := w2.heap.size) (i := 0) (hFlT26.fld (by decide)) (eK g59_3) ?_);rw [show (0 + 2 : Nat) = 2 from rfl];refine wC (wL0 (j := 2) (v := .bool nl) hcT4 (eS hz59) r4 rfl ?_);refine wC (wAs (v := .bool nl) (eS hz59) ?_);refine wEk hz59 hd59 fun a62 ha62 hz62 hd62 => ?_;have g62_4 : get a62 4 = .bool nl := kG ha62 hz59;refine hK61 a62 w4 ?_;refine wp_ret ?_;have hW : Z02 fd (.mk n s nl l u) = (nl) := by rw [Z1w, if_neg h0, if_neg h7, if_pos h8, if_pos hnn]; rfl
      exact ⟨hd62,_,rIs hres g62_4,by rw[hW],hF5⟩
    refine hK9 a10 w4 ?_;refine Zm ?_;refine wS fun K63 hK63=>?_;refine wC (ZX (k1:=.i64) (i:=fd.kind) (j:=0) h0 (eK g10_10) rfl ?_);refine wC (wAs (v:=.bool false) (eS hz10) ?_);refine wEk hz10 hd10 fun a64 ha64 hz64 hd64=>?_;have g64_2:=kP ha64 g10_2;have g64_3:=kP ha64 g10_3;have g64_10:=kP ha64 g10_10;have g64_11:get a64 11 = .bool false:=kG ha64 hz10;refine hK63 a64 w4 ?_;refine wp_cond_split (t:=false) (eK g64_11) (fun h=>by cases h) (fun _=>?_);refine wS fun K66 hK66=>?_;refine wC (ZX (k1:=.i64) (i:=fd.kind) (j:=7) h7 (eK g64_10) rfl ?_);refine wC (wAs (v:=.bool false) (eS hz64) ?_);refine wEk hz64 hd64 fun a67 ha67 hz67 hd67=>?_;have g67_2:=kP ha67 g64_2;have g67_3:=kP ha67 g64_3;have g67_10:=kP ha67 g64_10;have g67_19:get a67 19 = .bool false:=kG ha67 hz64;refine hK66 a67 w4 ?_;refine wp_cond_split (t:=false) (eK g67_19) (fun h=>by cases h) (fun _=>?_);refine wp_seq_k fun K69 hK69=>?_;refine wS fun K70 hK70=>?_;refine wC (ZX (k1:=.i64) (i:=fd.kind) (j:=8) h8' (eK g67_10) rfl ?_);refine wC (wAs (v:=.bool false) (eS hz67) ?_);refine wEk hz67 hd67 fun a71 ha71 hz71 hd71=>?_;have g71_2:=kP ha71 g67_2;have g71_3:=kP ha71 g67_3;have g71_10:=kP ha71 g67_10;have g71_36:get a71 36 = .bool false:=kG ha71 hz67;refine hK70 a71 w4 ?_;refine wp_cond_split (t:=false) (eK g71_36) (fun h=>by cases h) (fun _=>?_);refine Z2 ?_;refine wC (Z1l (k1:=.i64) (i:=fd.kind) (j:=9) h9 (eK g71_10) rfl ?_);refine wC (wAs (v:=.bool true) (eS hz71) ?_);refine wEk hz71 hd71 fun a73 ha73 hz73 hd73=>?_;have g73_2:=kP ha73 g71_2;have g73_3:=kP ha73 g71_3;have g73_36:get a73 36 = .bool true:=kG ha73 hz71;refine hK69 a73 w4 ?_;refine wp_cond_split (t:=true) (eK g73_36) (fun _=>?_) (fun h=>by cases h);refine wp_seq_k fun K75 hK75=>?_;refine wS fun K76 hK76=>?_;refine wC (wFa (b:=w.heap.size) (i:=0) (hFlT45.fld (by decide)) (eK g73_2) ?_);rw[show (0+3:Nat)=3 from rfl];refine wC (wL0 (j:=3) (v:=.int .i64 fd.nul) hcT3 (eS hz73) rb6 rfl ?_);refine wC (Z3c (k1:=.i64) (i:=fd.nul) (j:=0) hnn (eS hz73) rfl ?_);refine wEk hz73 hd73 fun a77 ha77 hz77 hd77=>?_;have g77_3:=kP ha77 g73_3;have g77_41:get a77 41 = .bool false:=kG ha77 hz73;refine hK76 a77 w4 ?_;refine wp_cond_split (t:=false) (eK g77_41) (fun h=>by cases h) (fun _=>?_);refine wp_skip ?_;refine hK75 a77 w4 ?_;refine wS fun K79 hK79=>?_;refine wC (wFa (b:=w2.heap.size) (i:=0) (hFlT26.fld (by decide)) (eK g77_3) ?_);rw[show (0+1:Nat)=1 from rfl];refine wC (wL0 (j:=1) (v:=.slice sq s.length scap) hcT22 (eS hz77) r4 rfl ?_);refine wC (Zs (n:=s.length) hsT22 (eS hz77) ?_);refine wC (Z0h (k1:=.i64) (i:=((s.length:Nat):Int)) (j:=0) (eS hz77) rfl ?_);refine wC (wAs (v:=.bool ((((s.length:Nat):Int):Int)==(0:Int))) (eS hz77) ?_);refine wEk hz77 hd77 fun a80 ha80 hz80 hd80=>?_;have g80_4:get a80 4 = .bool ((((s.length:Nat):Int):Int)==(0:Int)):=kG ha80 hz77;refine hK79 a80 w4 ?_;refine wp_ret ?_;have hW:Z02 fd (.mk n s nl l u)=(((((s.length:Nat):Int):Int)==(0:Int))):=by rw[Z1w,if_neg h0,if_neg h7,if_pos h8,if_neg hnn];cases s <;> rfl
    exact ⟨hd80,_,rIs hres g80_4,by rw[hW],hF5⟩
  by_cases h11:fd.kind=11
  · refine hK9 a10 w4 ?_;refine Zm ?_;refine wS fun K81 hK81 => ?_;refine wC (ZX (k1 := .i64) (i := fd.kind) (j := 0) h0 (eK g10_10) rfl ?_);refine wC (wAs (v := .bool false) (eS hz10) ?_);refine wEk hz10 hd10 fun a82 ha82 hz82 hd82 => ?_;have g82_3 := kP ha82 g10_3;have g82_10 := kP ha82 g10_10;have g82_11 : get a82 11 = .bool false := kG ha82 hz10;refine hK81 a82 w4 ?_;refine wp_cond_split (t := false) (eK g82_11) (fun h => by cases h) (fun _ => ?_);refine wS fun K84 hK84 => ?_;refine wC (ZX (k1 := .i64) (i := fd.kind) (j := 7) h7 (eK g82_10) rfl ?_);refine wC (wAs (v := .bool false) (eS hz82) ?_);refine wEk hz82 hd82 fun a85 ha85 hz85 hd85 => ?_;have g85_3 := kP ha85 g82_3;have g85_10 := kP ha85 g82_10;have g85_19 : get a85 19 = .bool false := kG ha85 hz82;refine hK84 a85 w4 ?_;refine wp_cond_split (t := false) (eK g85_19) (fun h => by cases h) (fun _ => ?_);refine wp_seq_k fun K87 hK87 => ?_;refine wS fun K88 hK88 => ?_;refine wC (ZX (k1 := .i64) (i := fd.kind) (j := 8) (by omega) (eK g85_10) rfl ?_);refine wC (wAs (v := .bool false) (eS hz85) ?_);refine wEk hz85 hd85 fun a89 ha89 hz89 hd89 => ?_;have g89_3 := kP ha89 g85_3;have g89_10 := kP ha89 g85_10;have g89_36 : get a89 36 = .bool false := kG ha89 hz85;refine hK88 a89 w4 ?_;refine wp_cond_split (t := false) (eK g89_36) (fun h => by cases h) (fun _ => ?_);refine Z2 ?_;refine wC (ZX (k1 := .i64) (i := fd.kind) (j := 9) (by omega) (eK g89_10) rfl ?_);refine wC (wAs (v := .bool false) (eS hz89) ?_);refine wEk hz89 hd89 fun a91 ha91 hz91 hd91 => ?_;have g91_3 := kP ha91 g89_3;have g91_10 := kP ha91 g89_10;have g91_36 : get a91 36 = .bool false := kG ha91 hz89;refine hK87 a91 w4 ?_;refine wp_cond_split (t := false) (eK g91_36) (fun h => by cases h) (fun _ => ?_);refine wS fun K93 hK93 => ?_;refine wC (Z1l (k1 := .i64) (i := fd.kind) (j := 11) h11 (eK g91_10) rfl ?_);refine wC (wAs (v := .bool true) (eS hz91) ?_);refine wEk hz91 hd91 fun a94 ha94 hz94 hd94 => ?_;have g94_3 := kP ha94 g91_3;have g94_48 : get a94 48 = .bool true := kG ha94 hz91;refine hK93 a94 w4 ?_;refine wp_cond_split (t := true) (eK g94_48) (fun _ => ?_) (fun h => by cases h);refine wS fun K96 hK96 => ?_;refine wC (wFa (b := w2.heap.size) (i := 0) (hFlT26.fld (by decide)) (eK g94_3) ?_);rw [show (0 + 3 : Nat) = 3 from rfl];refine wC (wL0 (j := 3) (v := .slice lq l.length lcap) hcT23 (eS hz94) r4 rfl ?_);refine wC (Zs (n := l.length) hsT23 (eS hz94) ?_);refine wC (Z0h (k1 := .i64) (i := ((l.length : Nat) : Int)) (j := 0) (eS hz94) rfl ?_);refine wC (wAs (v := .bool ((((l.length : Nat) : Int) : Int) == (0 : Int))) (eS hz94) ?_);refine wEk hz94 hd94 fun a97 ha97 hz97 hd97 => ?_;have g97_4 : get a97 4 = .bool ((((l.length : Nat) : Int) : Int) == (0 : Int)) := kG ha97 hz94;refine hK96 a97 w4 ?_;refine wp_ret ?_;have hW : Z02 fd (.mk n s nl l u) = (((((l.length : Nat) : Int) : Int) == (0 : Int))) := by rw [Z1w, if_neg h0, if_neg h7, if_neg h8, if_pos h11]; cases l <;> rfl
    exact ⟨hd97,_,rIs hres g97_4,by rw[hW],hF5⟩
  refine hK9 a10 w4 ?_;refine Zm ?_;refine wS fun K98 hK98=>?_;refine wC (ZX (k1:=.i64) (i:=fd.kind) (j:=0) h0 (eK g10_10) rfl ?_);refine wC (wAs (v:=.bool false) (eS hz10) ?_);refine wEk hz10 hd10 fun a99 ha99 hz99 hd99=>?_;have g99_2:=kP ha99 g10_2;have g99_3:=kP ha99 g10_3;have g99_10:=kP ha99 g10_10;have g99_11:get a99 11 = .bool false:=kG ha99 hz10;refine hK98 a99 w4 ?_;refine wp_cond_split (t:=false) (eK g99_11) (fun h=>by cases h) (fun _=>?_);refine wS fun K101 hK101=>?_;refine wC (ZX (k1:=.i64) (i:=fd.kind) (j:=7) h7 (eK g99_10) rfl ?_);refine wC (wAs (v:=.bool false) (eS hz99) ?_);refine wEk hz99 hd99 fun a102 ha102 hz102 hd102=>?_;have g102_2:=kP ha102 g99_2;have g102_3:=kP ha102 g99_3;have g102_10:=kP ha102 g99_10;have g102_19:get a102 19 = .bool false:=kG ha102 hz99;refine hK101 a102 w4 ?_;refine wp_cond_split (t:=false) (eK g102_19) (fun h=>by cases h) (fun _=>?_);refine wp_seq_k fun K104 hK104=>?_;refine wS fun K105 hK105=>?_;refine wC (ZX (k1:=.i64) (i:=fd.kind) (j:=8) (by omega) (eK g102_10) rfl ?_);refine wC (wAs (v:=.bool false) (eS hz102) ?_);refine wEk hz102 hd102 fun a106 ha106 hz106 hd106=>?_;have g106_2:=kP ha106 g102_2;have g106_3:=kP ha106 g102_3;have g106_10:=kP ha106 g102_10;have g106_36:get a106 36 = .bool false:=kG ha106 hz102;refine hK105 a106 w4 ?_;refine wp_cond_split (t:=false) (eK g106_36) (fun h=>by cases h) (fun _=>?_);refine Z2 ?_;refine wC (ZX (k1:=.i64) (i:=fd.kind) (j:=9) (by omega) (eK g106_10) rfl ?_);refine wC (wAs (v:=.bool false) (eS hz106) ?_);refine wEk hz106 hd106 fun a108 ha108 hz108 hd108=>?_;have g108_2:=kP ha108 g106_2;have g108_3:=kP ha108 g106_3;have g108_10:=kP ha108 g106_10;have g108_36:get a108 36 = .bool false:=kG ha108 hz106;refine hK104 a108 w4 ?_;refine wp_cond_split (t:=false) (eK g108_36) (fun h=>by cases h) (fun _=>?_);refine wS fun K110 hK110=>?_;refine wC (ZX (k1:=.i64) (i:=fd.kind) (j:=11) h11 (eK g108_10) rfl ?_);refine wC (wAs (v:=.bool false) (eS hz108) ?_);refine wEk hz108 hd108 fun a111 ha111 hz111 hd111=>?_;have g111_2:=kP ha111 g108_2;have g111_3:=kP ha111 g108_3;have g111_10:=kP ha111 g108_10;have g111_48:get a111 48 = .bool false:=kG ha111 hz108;refine hK110 a111 w4 ?_;refine wp_cond_split (t:=false) (eK g111_48) (fun h=>by cases h) (fun _=>?_);refine wS fun K113 hK113=>?_;refine wC (ZX (k1:=.i64) (i:=fd.kind) (j:=10) h10 (eK g111_10) rfl ?_);refine wC (wAs (v:=.bool false) (eS hz111) ?_);refine wEk hz111 hd111 fun a114 ha114 hz114 hd114=>?_;have g114_2:=kP ha114 g111_2;have g114_3:=kP ha114 g111_3;have g114_54:get a114 54 = .bool false:=kG ha114 hz111;refine hK113 a114 w4 ?_;refine wp_cond_split (t:=false) (eK g114_54) (fun h=>by cases h) (fun _=>?_);refine wp_skip ?_;refine hK8 a114 w4 (tUp ?_);refine tId (wp_seq_k fun K116 hK116=>?_);refine Z1d (os:=[oF 78 T26 3 0 t88 p88 e88,oL 79 T2 78 t89 p89 e89,oF 80 T45 2 0 t90 p90 e90,oL 81 T3 80 t91 p91 e91,oC 82 f95 #[(.tmp 81)] ct3 t92 p92 e92,oC 83 f94 #[(.tmp 79),(.tmp 82)] ct4 t93 p93 e93,oF 84 T45 2 5 t94 p94 e94,oL 85 T2 84 t95 p95 e95,oF 86 T45 2 0 t96 p96 e96,oL 87 T3 86 t97 p97 e97,oC 88 f95 #[(.tmp 87)] ct5 t98 p98 e98,oC 89 f94 #[(.tmp 85),(.tmp 88)] ct6 t99 p99 e99,oC 90 f13 #[(.tmp 83),(.tmp 89)] ct7 t100 p100 e100]) (rest:=[oT 4 90 t101 p101 e101]) [spC [] (.pointer (some ⟨w2.heap.size,0,none⟩)),spC [0] (.int .i64 n),spC [] (.pointer (some ⟨w.heap.size,0,none⟩)),spC [2] (.int .i64 fd.kind),spC [3] (.int .i64 ((Zg fd.kind:Nat):Int)),spR [1,4] (fun x w'=>Own w' (From w4.heap.size w') 1 x (fxW n (Zg fd.kind)).length (Z0 (fxW n (Zg fd.kind)))),spC [] (.pointer (some ⟨w.heap.size,5,none⟩)),spC [6] (.int .i64 fd.df),spC [] (.pointer (some ⟨w.heap.size,0,none⟩)),spC [8] (.int .i64 fd.kind),spC [9] (.int .i64 ((Zg fd.kind:Nat):Int)),spR [7,10] (fun x w'=>Own w' (From w4.heap.size w') 1 x (fxW fd.df (Zg fd.kind)).length (Z0 (fxW fd.df (Zg fd.kind)))),spR [5,11] (fun x w'=>x = .bool (decide (fxW n (Zg fd.kind)=fxW fd.df (Zg fd.kind))))] 78 [] hmx he27 (by simp[Z0B]) (by simp[Z1f]) (by simp[spC,spR]) (by simp;omega) ⟨lCc _ _ _,lCc _ _ _,lCc _ _ _,lCc _ _ _,lCc _ _ _,(fun v w1 w2 f h=>h.upTo f (From.mono f.size)),lCc _ _ _,lCc _ _ _,lCc _ _ _,lCc _ _ _,lCc _ _ _,(fun v w1 w2 f h=>h.upTo f (From.mono f.size)),(fun v w1 w2 f h=>h),trivial⟩ ?_ ?_
  · refine oCs ?_ ?_
    · refine op_c fun a' w' hk' hf' hd' K' hK'=>?_;refine wFa (b:=w2.heap.size) (i:=0) (hFlT26.fld (by decide)) (by rw[eTm,hk'.get 3 (by omega),g114_3]) ?_;rw[show (0+0:Nat)=0 from rfl];exact hK'
    refine oCs ?_ ?_
    · refine op_c fun a' w' hk' hf' hd' K' hK'=>?_;refine wL0 (j:=0) (v:=.int .i64 n) hcT2 (by rw[eTm];exact hd'.c (nd':=[]) 0 (by simp) rfl) (hf'.range r4 .nil) rfl ?_;exact hK'
    refine oCs ?_ ?_
    · refine op_c fun a' w' hk' hf' hd' K' hK'=>?_;refine wFa (b:=w.heap.size) (i:=0) (hFlT45.fld (by decide)) (by rw[eTm,hk'.get 2 (by omega),g114_2]) ?_;rw[show (0+0:Nat)=0 from rfl];exact hK'
    refine oCs ?_ ?_
    · refine op_c fun a' w' hk' hf' hd' K' hK'=>?_;refine wL0 (j:=0) (v:=.int .i64 fd.kind) hcT3 (by rw[eTm];exact hd'.c (nd':=[]) 2 (by simp) rfl) (hf'.range rb6 .nil) rfl ?_;exact hK'
    refine oCs ?_ ?_
    · refine op_c fun a' w' hk' hf' hd' K' hK'=>?_;refine wCr (R:=fun x wz=>x = .int .i64 (Zg fd.kind:Nat)∧wz=w') (vs:=#[.int .i64 fd.kind]) hWi.enters (by simp only[List.map_toArray,List.map_cons,List.map_nil];rw[show a'.eval (.tmp 81)=Value.int .i64 fd.kind from (by rw[eTm];exact hd'.c (nd':=[2]) 3 (by simp) rfl)]) ((hWi.call w' fd.kind).mono (by rintro e wz ⟨rfl,rfl⟩;exact ⟨_,rfl,rfl,rfl⟩)) ?_;rintro _ _ ⟨rfl,rfl⟩;exact hK'
    refine oCs ?_ ?_
    · refine op_r fun a' w' hk' hf' hd' K' hK'=>?_;refine wCr (R:=fun vz wz=>Fr [] w' wz∧Own wz (From w'.heap.size wz) 1 vz (fxW n (Zg fd.kind)).length (Z0 (fxW n (Zg fd.kind)))) (vs:=#[.int .i64 n,.int .i64 ((Zg fd.kind:Nat):Int)]) hFx.enters (by simp only[List.map_toArray,List.map_cons,List.map_nil];rw[show a'.eval (.tmp 79)=Value.int .i64 n from (by rw[eTm];exact hd'.c (nd':=[0]) 1 (by simp) rfl),show a'.eval (.tmp 82)=Value.int .i64 ((Zg fd.kind:Nat):Int) from (by rw[eTm];exact hd'.c (nd':=[3]) 4 (by simp) rfl)]) (Za (hFx.call w' n (Zg fd.kind) (Z2Q _))) ?_;rintro x117 w117 ⟨fr117,ow117⟩;exact hK' x117 w117 (ow117.from hf'.size) fr117
    refine oCs ?_ ?_
    · refine op_c fun a' w' hk' hf' hd' K' hK'=>?_;refine wFa (b:=w.heap.size) (i:=0) (hFlT45.fld (by decide)) (by rw[eTm,hk'.get 2 (by omega),g114_2]) ?_;rw[show (0+5:Nat)=5 from rfl];exact hK'
    refine oCs ?_ ?_
    · refine op_c fun a' w' hk' hf' hd' K' hK'=>?_;refine wL0 (j:=5) (v:=.int .i64 fd.df) hcT2 (by rw[eTm];exact hd'.c (nd':=[]) 6 (by simp) rfl) (hf'.range rb6 .nil) rfl ?_;exact hK'
    refine oCs ?_ ?_
    · refine op_c fun a' w' hk' hf' hd' K' hK'=>?_;refine wFa (b:=w.heap.size) (i:=0) (hFlT45.fld (by decide)) (by rw[eTm,hk'.get 2 (by omega),g114_2]) ?_;rw[show (0+0:Nat)=0 from rfl];exact hK'
    refine oCs ?_ ?_
    · refine op_c fun a' w' hk' hf' hd' K' hK'=>?_;refine wL0 (j:=0) (v:=.int .i64 fd.kind) hcT3 (by rw[eTm];exact hd'.c (nd':=[]) 8 (by simp) rfl) (hf'.range rb6 .nil) rfl ?_;exact hK'
    refine oCs ?_ ?_
    · refine op_c fun a' w' hk' hf' hd' K' hK'=>?_;refine wCr (R:=fun x wz=>x = .int .i64 (Zg fd.kind:Nat)∧wz=w') (vs:=#[.int .i64 fd.kind]) hWi.enters (by simp only[List.map_toArray,List.map_cons,List.map_nil];rw[show a'.eval (.tmp 87)=Value.int .i64 fd.kind from (by rw[eTm];exact hd'.c (nd':=[8]) 9 (by simp) rfl)]) ((hWi.call w' fd.kind).mono (by rintro e wz ⟨rfl,rfl⟩;exact ⟨_,rfl,rfl,rfl⟩)) ?_;rintro _ _ ⟨rfl,rfl⟩;exact hK'
    refine oCs ?_ ?_
    · refine op_r fun a' w' hk' hf' hd' K' hK'=>?_;refine wCr (R:=fun vz wz=>Fr [] w' wz∧Own wz (From w'.heap.size wz) 1 vz (fxW fd.df (Zg fd.kind)).length (Z0 (fxW fd.df (Zg fd.kind)))) (vs:=#[.int .i64 fd.df,.int .i64 ((Zg fd.kind:Nat):Int)]) hFx.enters (by simp only[List.map_toArray,List.map_cons,List.map_nil];rw[show a'.eval (.tmp 85)=Value.int .i64 fd.df from (by rw[eTm];exact hd'.c (nd':=[6]) 7 (by simp) rfl),show a'.eval (.tmp 88)=Value.int .i64 ((Zg fd.kind:Nat):Int) from (by rw[eTm];exact hd'.c (nd':=[9]) 10 (by simp) rfl)]) (Za (hFx.call w' fd.df (Zg fd.kind) (Z2Q _))) ?_;rintro x118 w118 ⟨fr118,ow118⟩;exact hK' x118 w118 (ow118.from hf'.size) fr118
    refine oCs ?_ ?_
    · refine op_r fun a' w' hk' hf' hd' K' hK'=>?_;have hx5:Own w' (From w4.heap.size w') 1 (get a' 83) (fxW n (Zg fd.kind)).length (Z0 (fxW n (Zg fd.kind))):=hd'.at (d:=5) (by simp) rfl;have hx11:Own w' (From w4.heap.size w') 1 (get a' 89) (fxW fd.df (Zg fd.kind)).length (Z0 (fxW fd.df (Zg fd.kind))):=hd'.at (d:=11) (by simp) rfl;refine wCr (R:=fun x wz=>x = .bool (decide (fxW n (Zg fd.kind)=fxW fd.df (Zg fd.kind)))∧Fr [] w' wz) (vs:=#[(get a' 83),(get a' 89)]) hSa.enters (by simp only[List.map_toArray,List.map_cons,List.map_nil];rw[show a'.eval (.tmp 83)=(get a' 83) from (by rw[eTm]),show a'.eval (.tmp 89)=(get a' 89) from (by rw[eTm])]) ((hSa.call w' _ _ _ _ _ _ (hx5.octE (by rw[fxL];have:=Z2Q fd.kind;omega)) (hx11.octE (by rw[fxL];have:=Z2Q fd.kind;omega)) (by rw[fxL,fxL])).mono (by rintro e wz ⟨rfl,h⟩;exact ⟨_,rfl,rfl,h⟩)) ?_;rintro x wz ⟨rfl,fr⟩;exact hK' _ wz rfl fr
    exact ZY
  intro a119 w119 k119 f119 hd_119;have hz119:a119.tmps.size=91:=k119.size.trans hz114;have hd119:a119.defers=[]:=k119.defers.trans hd114;have hF120:Fr [] w w119:=hF5.tr f119;have rb121:=f119.range rb6 .nil;have rb122:=f119.range r4 .nil;have hb12:get a119 90 = .bool (decide (fxW n (Zg fd.kind)=fxW fd.df (Zg fd.kind))):=hd_119.at (d:=12) (by simp) rfl;refine wC (wAs (v:=.bool (decide (fxW n (Zg fd.kind)=fxW fd.df (Zg fd.kind)))) (by rw[eTm,hb12]) ?_);refine wEk hz119 hd119 fun a123 ha123 hz123 hd123=>?_;have g123_4:get a123 4 = .bool (decide (fxW n (Zg fd.kind)=fxW fd.df (Zg fd.kind))):=kG ha123 hz119;refine hK116 a123 w119 (tUp ?_);refine wp_ret ?_;have hW:Z02 fd (.mk n s nl l u)=(decide (fxW n (Zg fd.kind)=fxW fd.df (Zg fd.kind))):=by rw[Z1w,if_neg h0,if_neg h7,if_neg h8,if_neg h11,if_neg h10];rfl
  exact ⟨hd123,_,rIs hres g123_4,by rw[hW],hF120⟩
end Go.Kq

namespace Go.Kq
open Go
def Inv (f:Rd) (ver:Int) (fl:Bool) (ap:V→List UInt8) (out:List UInt8):Prop :=
  ∀ rest nl,(nl=true→out++rest=[])→∃ x,f ver fl ⟨out++rest,nl,false⟩=some (x,⟨rest,nl,false⟩)∧ap x=out
def InvL (f:Rd) (ver:Int) (fl:Bool) (gs:List (V→List UInt8)) (out:List UInt8):Prop :=
  ∀ rest nl,(nl=true→out++rest=[])→∃ xs,f ver fl ⟨out++rest,nl,false⟩=some (.l xs,⟨rest,nl,false⟩)∧Z3J gs xs=out
theorem invl_nil {ver:Int} {fl:Bool}:InvL Z4n ver fl [] []:=fun rest nl _=>⟨[],rfl,rfl⟩
theorem Z5R {f g:Rd} {ver:Int} {fl:Bool} {a:V→List UInt8} {gs:List (V→List UInt8)} {o1 o2:List UInt8} (h1:Inv f ver fl a o1) (h2:InvL g ver fl gs o2):InvL (ZM f g) ver fl (a::gs) (o1++o2):=by
  intro rest nl hn;obtain ⟨x,hx,hax⟩:=h1 (o2++rest) nl (by rw[← List.append_assoc];exact hn);obtain ⟨xs,hxs,haxs⟩:=h2 rest nl (fun h=>by have:=hn h;simp only[List.append_eq_nil_iff] at this ⊢;exact ⟨this.1.2,this.2⟩);refine ⟨x::xs,?_,by simp only[Z3J,hax,haxs]⟩;rw[List.append_assoc];simp only[ZM,hx,hxs,Z56]
theorem inv_st {f:Rd} {ver:Int} {fl:Bool} {gs:List (V→List UInt8)} {o:List UInt8} (h:InvL f ver fl gs o):Inv f ver fl (apSt gs) o:=by
  intro rest nl hn;obtain ⟨xs,h1,h2⟩:=h rest nl hn;exact ⟨.l xs,h1,h2⟩
theorem inv_if {p:Int→Bool} {dv:V} {f:Rd} {ver:Int} {fl:Bool} {a:V→List UInt8} {o:List UInt8} (h:p ver=true→Inv f ver fl a o):Inv (rdIf p dv f) ver fl (fun x=>if p ver then a x else []) (if p ver then o else []):=by
  intro rest nl hn
  by_cases hp:p ver=true
  · simp only[hp,if_true] at hn ⊢;obtain ⟨x,h1,h2⟩:=h hp rest nl hn;exact ⟨x,by simp only[rdIf,hp,if_true];exact h1,h2⟩
  have hp:p ver=false:=by simpa using hp
  exact ⟨dv,by simp[rdIf,hp],by simp[hp]⟩
theorem Z6o {g1 g2:RSt→V × RSt} {ver:Int} {fl:Bool} {a1 a2:V→List UInt8} {o1 o2:List UInt8} (h1:fl=true→Inv (ZT fun _ _=>g1) ver fl a1 o1) (h2:fl=false→Inv (ZT fun _ _=>g2) ver fl a2 o2) :
    Inv (ZT fun _ fl st=>if fl then g1 st else g2 st) ver fl (fun x=>if fl then a1 x else a2 x) (if fl then o1 else o2):=by
  intro rest nl hn
  cases fl with
  | true=>exact h1 rfl rest nl hn
  | false=>exact h2 rfl rest nl hn
theorem Z4v (n:Nat):(UInt8.ofNat n).toNat=n % 256:=by simp
theorem Z5a (i:Int):((Lib.beNat (fxW i 2):Nat):Int)=i % 65536:=by
  simp only[fxW,be2,Z4v,Nat.reduceMul,Nat.reducePow];omega
theorem Z59 (i:Int):((Lib.beNat (fxW i 4):Nat):Int)=i % 4294967296:=by
  simp only[fxW,be4,Z4v,Nat.reduceMul,Nat.reducePow];omega
theorem Z7h {k:Nat} {o rest:List UInt8} {nl:Bool} (h:o.length=k):Z3z k ⟨o++rest,nl,false⟩=(some o,⟨rest,nl,false⟩):=by
  subst h;simp[Z3z]
theorem Z25 {kd:IntKind} {k:Nat} {i:Int} {rest:List UInt8} {nl:Bool}:ZC kd k ⟨fxW i k++rest,nl,false⟩=(kd.wrap (Lib.beNat (fxW i k)),⟨rest,nl,false⟩):=by
  simp only[ZC,Z7h (fxL i k)]
theorem Z8s {kd:IntKind} {k:Nat} {i:Int} {ver:Int} {fl:Bool} (h:fxW (kd.wrap (Lib.beNat (fxW i k))) k=fxW i k):Inv (ZT fun _ _=>gNum kd k) ver fl (Z0N k) (fxW i k):=by
  intro rest nl _;refine ⟨.n (kd.wrap (Lib.beNat (fxW i k))),?_,h⟩;simp only[ZT,gNum,Z25]
theorem inv_i16 {i ver:Int} {fl:Bool}:Inv (ZT fun _ _=>gNum .i16 2) ver fl (Z0N 2) (fxW i 2):=Z8s (by rw[Z4K,Z5a,Z1J])
theorem inv_i32 {i ver:Int} {fl:Bool}:Inv (ZT fun _ _=>gNum .i32 4) ver fl (Z0N 4) (fxW i 4):=Z8s (by rw[Z3p,Z59,Z1I])
theorem inv_bool {b:Nat} (hb:b≤1) {ver:Int} {fl:Bool}:Inv (ZT fun _ _=>Z3I) ver fl Z36 [UInt8.ofNat b]:=by
  intro rest nl _;have:b=0∨b=1:=by omega
  rcases this with rfl | rfl
  · exact ⟨.n 0,by simp[ZT,Z3I],by simp[Z36]⟩
  exact ⟨.n 1,by simp[ZT,Z3I],by simp[Z36]⟩
theorem Z0w {o rest:List UInt8} {l:Int} {nl:Bool} (h:l=o.length) (hn:nl=true→o++rest=[]):∃ y,Z9 l ⟨o++rest,nl,false⟩=(y,⟨rest,nl,false⟩)∧y.getD []=o∧(nl=false→y=some o):=by
  subst h
  cases nl with
  | true =>
    have:=hn rfl;simp only[List.append_eq_nil_iff] at this;obtain ⟨rfl,rfl⟩:=this;exact ⟨none,by simp[Z9],rfl,by simp⟩
  | false =>
    refine ⟨some o,?_,rfl,fun _=>rfl⟩;have h1:¬ (((o++rest).length:Int) < (o.length:Int)∨(o.length:Int) < 0):=by rw[List.length_append];omega
    simp only[Z9,if_neg h1];simp
theorem Z10 {nl:Bool} {o r:List UInt8} (h:nl=true→o++r=[]) (ho:o ≠ []):nl=false:=by
  cases nl with
  | false=>rfl
  | true=>exact absurd (List.append_eq_nil_iff.1 (h rfl)).1 ho
theorem Z4e {i:Int} {k:Nat} (hk:0 < k):fxW i k ≠ []:=by
  intro h;have:=fxL i k;rw[h] at this;simp at this;omega
theorem rd16 {n:Nat} (h:n≤32767) {rest:List UInt8} {nl:Bool}:ZC .i16 2 ⟨fxW (n:Int) 2++rest,nl,false⟩=((n:Int),⟨rest,nl,false⟩):=by
  rw[Z25,Z5a]
  congr 1
  simp[IntKind.wrap,IntKind.signed,IntKind.bits];omega
theorem rd32 {n:Nat} (h:n≤2147483647) {rest:List UInt8} {nl:Bool}:ZC .i32 4 ⟨fxW (n:Int) 4++rest,nl,false⟩=((n:Int),⟨rest,nl,false⟩):=by
  rw[Z25,Z59]
  congr 1
  simp[IntKind.wrap,IntKind.signed,IntKind.bits];omega
theorem inv_str {s:List UInt8} (h:s.length≤32767) {ver:Int} {fl:Bool}:Inv (ZT fun _ _=>gStr) ver fl Z1t (fxW s.length 2++s):=by
  intro rest nl hn;have hnl:=Z10 hn (by simp[Z4e]);subst hnl;obtain ⟨y,h1,h2,_⟩:=Z0w (o:=s) (rest:=rest) (l:=s.length) (nl:=false) rfl (by simp);refine ⟨.s s,?_,rfl⟩;simp only[ZT,gStr,Z0C,List.append_assoc,rd16 h,h1,h2]
theorem inv_nstr {s:List UInt8} (h:s.length≤32767) {ver:Int} {fl:Bool}:Inv (ZT fun _ _=>Z3m) ver fl Z1Q (fxW s.length 2++s):=by
  intro rest nl hn;have hnl:=Z10 hn (by simp[Z4e]);subst hnl;obtain ⟨y,h1,h2,_⟩:=Z0w (o:=s) (rest:=rest) (l:=s.length) (nl:=false) rfl (by simp);refine ⟨.s s,?_,rfl⟩;have h0:¬ ((s.length:Int) < 0):=by omega
  simp only[ZT,Z3m,Z40,List.append_assoc,rd16 h,h0,if_false,h1,h2]
theorem Z8t {ver:Int} {fl:Bool}:Inv (ZT fun _ _=>Z3m) ver fl Z1Q (fxW (-1) 2):=by
  intro rest nl hn;refine ⟨.nil,?_,rfl⟩;have:IntKind.i16.wrap ((Lib.beNat (fxW (-1) 2):Nat):Int) = -1:=by rw[Z5a];rfl
  simp[ZT,Z3m,Z40,Z25,this]
theorem Z6E:∀ (k n:Nat) (rest:List UInt8),n * 8 < 128 ^ (k+1)→uvGo (k+1) (uvW n++rest)=some (n,(uvW n).length)
  | 0, n, rest, h => by
    have hn:n < 16:=by simp at h;omega
    rw[uvW,if_neg (by omega)];have h1:(UInt8.ofNat n).toNat=n:=by rw[Z4v];omega
    simp[uvGo,h1]
    omega
  | k + 1, n, rest, h => by
    rw[uvW]
    split
    · rename_i hn
      have h1:(UInt8.ofNat (n % 128+128)).toNat=n % 128+128:=by rw[Z4v];omega
      have hp:128 ^ (k+1+1)=128 * 128 ^ (k+1):=by rw[Nat.pow_succ];omega
      rw[hp] at h;have ih:=Z6E k (n / 128) rest (by omega);rw[List.cons_append];simp only[uvGo,h1,ih];simp
      rw[if_neg (by omega)];congr 2;omega
    have h1:(UInt8.ofNat n).toNat=n:=by rw[Z4v];omega
    simp[uvGo,h1]
    omega
theorem Z0k {n:Nat} (h:n < 4294967296) {rest:List UInt8} {nl:Bool}:rdUv ⟨uvW n++rest,nl,false⟩=(n,⟨rest,nl,false⟩):=by
  have h1:uv (uvW n++rest)=some (n,(uvW n).length):=Z6E 4 n rest (by simp;omega);simp[rdUv,h1]
theorem Z4u (n:Nat):uvW n ≠ []:=by
  intro h;have:=Z1m n;rw[h] at this;simp at this
theorem inv_cstr {s:List UInt8} (h:s.length≤32767) {ver:Int} {fl:Bool}:Inv (ZT fun _ _=>Z4c) ver fl Z0q (uvW (s.length+1)++s):=by
  intro rest nl hn;have hnl:=Z10 hn (by simp[Z4u]);subst hnl;obtain ⟨y,h1,h2,_⟩:=Z0w (o:=s) (rest:=rest) (l:=s.length) (nl:=false) rfl (by simp);refine ⟨.s s,?_,rfl⟩;have e:((s.length+1:Nat):Int) - 1=s.length:=by omega
  simp only[ZT,Z4c,Z41,List.append_assoc,Z0k (show s.length+1 < 4294967296 by omega),e,h1,h2]
theorem Z8u {s:List UInt8} (h:s.length≤32767) {ver:Int} {fl:Bool}:Inv (ZT fun _ _=>Z1B) ver fl Z0U (uvW (s.length+1)++s):=by
  intro rest nl hn;have hnl:=Z10 hn (by simp[Z4u]);subst hnl;obtain ⟨y,h1,h2,_⟩:=Z0w (o:=s) (rest:=rest) (l:=s.length) (nl:=false) rfl (by simp);refine ⟨.s s,?_,rfl⟩;have e:((s.length+1:Nat):Int) - 1=s.length:=by omega
  have h0:¬ ((s.length:Int) < 0):=by omega
  simp only[ZT,Z1B,Z3f,List.append_assoc,Z0k (show s.length+1 < 4294967296 by omega),e,h0,if_false,h1,h2]
theorem Z3K:uvW 0=[0]:=by rw[uvW];rfl
theorem Z7o {ver:Int} {fl:Bool}:Inv (ZT fun _ _=>Z1B) ver fl Z0U [0]:=by
  intro rest nl hn;refine ⟨.nil,?_,by rw[Z0U,Z3K]⟩;simp only[ZT,Z1B,Z3f];rw[show ([0]++rest:List UInt8)=uvW 0++rest from by rw[Z3K],Z0k (by omega)];simp
theorem Z3d {f:Rd} {ver:Int} {fl:Bool} {a:V→List UInt8}:∀ (os:List (List UInt8)) (rest:List UInt8),(∀ o ∈ os,Inv f ver fl a o) →
    ∃ xs,ZQ f ver fl os.length ⟨os.flatten++rest,false,false⟩=some (xs,⟨rest,false,false⟩)∧xs.length=os.length∧(xs.map a).flatten=os.flatten
  | [],rest,_=>⟨[],rfl,rfl,rfl⟩
  | o :: os, rest, h => by
    obtain ⟨x,h1,h2⟩:=h o (by simp) (os.flatten++rest) false (by simp);obtain ⟨xs,h3,h4,h5⟩:=Z3d os rest fun o ho=>h o (by simp[ho]);refine ⟨x::xs,?_,by simp[h4],by simp[h2,h5]⟩;simp only[List.flatten_cons,List.append_assoc,List.length_cons,ZQ,h1,h3]
theorem Z2K {os:List (List UInt8)} (h:∀ o ∈ os,1≤o.length):os.length≤os.flatten.length:=by
  induction os with
  | nil=>simp
  | cons o os ih =>
    have h1:=h o (by simp);have h2:=ih fun o ho=>h o (by simp[ho]);simp only[List.flatten_cons,List.length_append,List.length_cons];omega
def LenI (len:RSt→V × RSt) (lo:List UInt8) (n:Nat):Prop:=lo ≠ []∧∀ rest:List UInt8,n≤rest.length→len ⟨lo++rest,false,false⟩=(.n n,⟨rest,false,false⟩)
theorem Z5N {n:Nat} (h:n≤32767):LenI Z3n (fxW n 4) n:=by
  refine ⟨Z4e (by omega),fun rest hr=>?_⟩;have h0:¬ ((rest.length:Int) < (n:Int)):=by omega
  simp only[Z3n,Z0j,rd32 (show n≤2147483647 by omega),h0,if_false]
theorem len_uv {n:Nat} (h:n≤32767):LenI Z0V (uvW (n+1)) n:=by
  refine ⟨Z4u _,fun rest hr=>?_⟩;have h0:¬ ((rest.length:Int) < (n:Int)):=by omega
  have e:IntKind.i32.wrap (IntKind.i32.wrap ((n+1:Nat):Int) - 1)=(n:Int):=by
    simp[IntKind.wrap,IntKind.signed,IntKind.bits];omega
  simp only[Z0V,Z16,Z0k (show n+1 < 4294967296 by omega),e,h0,if_false]
theorem inv_arr {len:Int→Bool→RSt→V × RSt} {f:Rd} {ver:Int} {fl:Bool} {a:V→List UInt8} {la:Nat→List UInt8} {lo:List UInt8} {os:List (List UInt8)} (hl:LenI (len ver fl) lo os.length) (hla:la os.length=lo) (ho:∀ o ∈ os,Inv f ver fl a o) (h1:∀ o ∈ os,1≤o.length) :
    Inv (Z4W len f) ver fl (fun x=>la x.items.length++(x.items.map a).flatten) (lo++os.flatten):=by
  intro rest nl hn;have hnl:=Z10 hn (by simp[hl.1]);subst hnl;have h2:=hl.2 (os.flatten++rest) (by rw[List.length_append];have:=Z2K h1;omega);obtain ⟨xs,h3,h4,h5⟩:=Z3d os rest ho;simp only[Z4W,List.append_assoc,h2]
  by_cases h0:os.length=0
  · have:os=[]:=List.eq_nil_of_length_eq_zero h0;subst this;exact ⟨.nil,by simp,by simp[V.items,← hla]⟩
  refine ⟨.l xs,?_,by simp[V.items,h4,h5,hla]⟩;have h6:(0:Int) < os.length:=by omega
  have h7:os ≠ []:=by rintro rfl;exact h0 rfl
  simp[h7,h3]
end Go.Kq
