/- A part of the library: rules of reasoning about the program's operations and what its shared functions do. -/
import Derived.Test.YtnfigjjpdhhfjaaGreatDoorKqP03
import Derived.Laws.IdiomCopy
set_option linter.unusedVariables false
set_option linter.unusedSimpArgs false
namespace Go.Kq
open Go Go.Proofs
theorem Za {P:Program} {f:FuncId} {vs:Array Value} {w:World} {xs:List UInt8} (h:Calls P f vs w (Z61 w xs)) :
    Calls P f vs w fun e w'=>∃ v,e = .returned v∧(Fr [] w w'∧Own w' (From w.heap.size w') 1 v xs.length (Z0 xs)):=h
theorem own_new1 {w:World} {te:TypeId}:Own (w.alloc (.cells ([[Value.int .u8 0]]:List (List Value)).flatten.toArray te)) (From w.heap.size (w.alloc (.cells ([[Value.int .u8 0]]:List (List Value)).flatten.toArray te))) 1 (.slice (some ⟨w.heap.size,0,none⟩) 1 1) 1 (Z0 [0]):=by
  have hr:=ZE w #[.int .u8 0] te (0,0);have ht:=Zy w #[.int .u8 0] te;exact ⟨rfl,.inr ⟨w.heap.size,0,1,⟨Nat.le_refl _,by rw[Zb];omega⟩,rfl,Nat.le_refl _,by decide,hr,ht⟩⟩
structure Z77 (P:Program) (f:FuncId):Prop where
  enters:Enters P f
  call:∀ (w:World) (flex null:Bool) (n k:Nat),n < 4294967296→k≤8→Calls P f #[.bool flex,.bool null,.int .i64 n,.int .i64 k] w (Z61 w (Zi flex null n k))
theorem Z8A {P:Program} {f:FuncId} {fn:Func} {T3 T22 T73:TypeId} {f52 f76:FuncId} {a0:Array TypeId} {a1:Array TypeId} {a2:Array TypeId} {i0 i1 i2 i3 i4 i5 i6 i7:Nat} {t0 t1 t2 t3 t4 t5 t6 t7 t8 t9 t10 t11 t12 t13 t14 t15 t16 t17 t18 t19 t20 t21 t22 t23:TypeId} {p0 p1 p2 p3 p4 p5 p6 p7 p8 p9 p10 p11 p12 p13 p14 p15 p16 p17 p18 p19 p20 p21 p22 p23:String} {e0 e1 e2 e3 e4 e5 e6 e7 e8 e9 e10 e11 e12 e13 e14 e15 e16 e17 e18 e19 e20 e21 e22 e23:Array Edge} {te:TypeId}
    (hf:P.funcs[f]?=some fn) (hname:nG fn=false) (hres:fn.results = #[.tmp 8]) (hN:fn.ntmps=28)
    (hbody:fn.body=some (.seq (Code.region i0 ⟨[oA 8 (.const (.slice none 0 0)) t0 p0 e0]⟩ false) (.seq (.block 0 (.seq (Code.region i1 ⟨[oM 10 0 t1 p1 e1,
    oM 11 10 t2 p2 e2,⟨some 12,.move (.tmp 1),t3,p3,e3,some (1,true)⟩,⟨some 13,.pick (.tmp 11) (.tmp 12) (.const (.bool false)),t4,p4,e4,none⟩,
    oT 9 13 t5 p5 e5]⟩ false) (.cond (.tmp 9) (.seq (Code.region i2 ⟨[⟨some 14,.buildSlice T22 1 #[(0,.const (.int .u8 0))],t6,p6,e6,none⟩,
    oT 8 14 t7 p7 e7]⟩ false) .ret) (.seq (Code.region i3 ⟨[oM 16 0 t8 p8 e8,
    oT 15 16 t9 p9 e9]⟩ false) (.cond (.tmp 15) (.seq (Code.region i4 ⟨[oM 17 2 t10 p10 e10,⟨some 18,.convert T3 T73 (.tmp 17),t11,p11,e11,none⟩,⟨some 19,.binOp .add T73 (.tmp 18) (.const (.int .u64 1)) T73,t12,p12,e12,none⟩,
    oC 20 f52 #[(.tmp 19)] a0 t13 p13 e13,
    oT 8 20 t14 p14 e14]⟩ false) .ret) (.seq (Code.region i5 ⟨[oM 22 1 t15 p15 e15,
    oT 21 22 t16 p16 e16]⟩ false) (.cond (.tmp 21) (.seq (Code.region i6 ⟨[oM 23 3 t17 p17 e17,
    oC 24 f76 #[(.const (.int .i64 (-1))),(.tmp 23)] a1 t18 p18 e18,
    oT 8 24 t19 p19 e19]⟩ false) .ret) .skip))))))) (.seq (Code.region i7 ⟨[oM 25 2 t20 p20 e20,
    oM 26 3 t21 p21 e21,
    oC 27 f76 #[(.tmp 25),(.tmp 26)] a2 t22 p22 e22,
    oT 8 27 t23 p23 e23]⟩ false) .ret))))
    (hT3_i64:Zk P T3 .i64=true) (hT73_u64:Zk P T73 .u64=true) (hs_T22:Z3 P T22 te 1 1=true) (hz_T22:ZG P te [.int .u8 0]) (hU:UvWM P f52) (hX:FixM P f76):Z77 P f:=by
  refine ⟨enters_of hf hname hbody,?_⟩;intro w flex null n k hn hk
  cases flex <;> cases null
  · refine calls_of_wp hf hbody ?_;generalize ha0 : ({ tmps := #[Value.bool false, Value.bool false, Value.int .i64 (n : Int), Value.int .i64 (k : Int)] ++ Array.replicate (fn.ntmps - (#[Value.bool false, Value.bool false, Value.int .i64 (n : Int), Value.int .i64 (k : Int)] : Array Value).size) undef, defers := [] } : Act) = a0;have hz0 : a0.tmps.size = 28 := by subst ha0; simp [hN]
    have hd0:a0.defers=[]:=by subst ha0;rfl
    have g0_0:get a0 0 = .bool false:=by subst ha0;exact gAr rfl
    have g0_1:get a0 1 = .bool false:=by subst ha0;exact gAr rfl
    have g0_2:get a0 2 = .int .i64 (n:Int):=by subst ha0;exact gAr rfl
    have g0_3:get a0 3 = .int .i64 (k:Int):=by subst ha0;exact gAr rfl
    refine wT fun K1 hK1=>?_;refine wC (wAs (v:=.slice none 0 0) rfl ?_);refine wEk hz0 hd0 fun a2 ha2 hz2 hd2=>?_;have g2_0:=kP ha2 g0_0;have g2_1:=kP ha2 g0_1;have g2_2:=kP ha2 g0_2;have g2_3:=kP ha2 g0_3;refine hK1 a2 w (tUp ?_);refine tId (wp_seq_k fun K3 hK3=>?_);refine Zm ?_;refine wp_seq_k fun K4 hK4=>?_;refine Z0c ?_;refine gCn ?_;refine wMv (v:=.bool false) (eK g2_0) ?_;refine gCn ?_;refine wMv (v:=.bool false) (eS hz2) ?_;refine Z09 (dj:=11) rfl (lZ hz2) (gS hz2) ?_;refine gCn ?_;refine ZL (v:=.bool false) (eS hz2) rfl ?_;refine gCn ?_;refine wAs (v:=.bool false) (eS hz2) ?_;refine Z0u fun a5 ha5=>?_;have hz5:=kS ha5 hz2;have hd5:=kD ha5 hd2;have g5_0:=kP ha5 g2_0;have g5_1:=kP ha5 g2_1;have g5_2:=kP ha5 g2_2;have g5_3:=kP ha5 g2_3;have g5_9:get a5 9 = .bool false:=kG ha5 hz2;refine hK4 a5 w ?_;refine wp_cond_split (t:=false) (eK g5_9) (fun h=>by cases h) (fun _=>?_);refine wS fun K7 hK7=>?_;refine wC (wMv (v:=.bool false) (eK g5_0) ?_);refine wC (wAs (v:=.bool false) (eS hz5) ?_);refine wEk hz5 hd5 fun a8 ha8 hz8 hd8=>?_;have g8_1:=kP ha8 g5_1;have g8_2:=kP ha8 g5_2;have g8_3:=kP ha8 g5_3;have g8_15:get a8 15 = .bool false:=kG ha8 hz5;refine hK7 a8 w ?_;refine wp_cond_split (t:=false) (eK g8_15) (fun h=>by cases h) (fun _=>?_);refine wS fun K10 hK10=>?_;refine wC (wMv (v:=.bool false) (eK g8_1) ?_);refine wC (wAs (v:=.bool false) (eS hz8) ?_);refine wEk hz8 hd8 fun a11 ha11 hz11 hd11=>?_;have g11_2:=kP ha11 g8_2;have g11_3:=kP ha11 g8_3;have g11_21:get a11 21 = .bool false:=kG ha11 hz8;refine hK10 a11 w ?_;refine wp_cond_split (t:=false) (eK g11_21) (fun h=>by cases h) (fun _=>?_);refine wp_skip ?_;refine hK3 a11 w (tUp ?_);refine wT fun K13 hK13=>?_;refine wC (wMv (v:=.int .i64 (n:Int)) (eK g11_2) ?_);refine wC (wMv (v:=.int .i64 (k:Int)) (eK g11_3) ?_);refine wC (wCr (vs:=#[.int .i64 (n:Int),.int .i64 (k:Int)]) hX.enters (mX2 (eS hz11) (eS hz11)) (Za (hX.call w n k hk)) ?_);rintro x14 w14 ⟨fr14,ow14⟩;refine wC (wAs (v:=x14) (eS hz11) ?_);refine wEk hz11 hd11 fun a15 ha15 hz15 hd15=>?_;have g15_8:get a15 8=x14:=kG ha15 hz11;refine hK13 a15 w14 (tUp ?_);refine wp_ret ?_;exact ⟨hd15,_,rIs hres g15_8,_,rfl,fr14,by rw[show Zi false false n k=fxW n k from by simp[Zi]];exact ow14⟩
  · refine calls_of_wp hf hbody ?_;generalize ha0 : ({ tmps := #[Value.bool false, Value.bool true, Value.int .i64 (n : Int), Value.int .i64 (k : Int)] ++ Array.replicate (fn.ntmps - (#[Value.bool false, Value.bool true, Value.int .i64 (n : Int), Value.int .i64 (k : Int)] : Array Value).size) undef, defers := [] } : Act) = a0;have hz0 : a0.tmps.size = 28 := by subst ha0; simp [hN]
    have hd0:a0.defers=[]:=by subst ha0;rfl
    have g0_0:get a0 0 = .bool false:=by subst ha0;exact gAr rfl
    have g0_1:get a0 1 = .bool true:=by subst ha0;exact gAr rfl
    have g0_2:get a0 2 = .int .i64 (n:Int):=by subst ha0;exact gAr rfl
    have g0_3:get a0 3 = .int .i64 (k:Int):=by subst ha0;exact gAr rfl
    refine wT fun K1 hK1=>?_;refine wC (wAs (v:=.slice none 0 0) rfl ?_);refine wEk hz0 hd0 fun a2 ha2 hz2 hd2=>?_;have g2_0:=kP ha2 g0_0;have g2_1:=kP ha2 g0_1;have g2_2:=kP ha2 g0_2;have g2_3:=kP ha2 g0_3;refine hK1 a2 w (tUp ?_);refine tId (wp_seq_k fun K3 hK3=>?_);refine Zm ?_;refine wp_seq_k fun K4 hK4=>?_;refine Z0c ?_;refine gCn ?_;refine wMv (v:=.bool false) (eK g2_0) ?_;refine gCn ?_;refine wMv (v:=.bool false) (eS hz2) ?_;refine Z09 (dj:=11) rfl (lZ hz2) (gS hz2) ?_;refine gCn ?_;refine ZL (v:=.bool false) (eS hz2) rfl ?_;refine gCn ?_;refine wAs (v:=.bool false) (eS hz2) ?_;refine Z0u fun a5 ha5=>?_;have hz5:=kS ha5 hz2;have hd5:=kD ha5 hd2;have g5_0:=kP ha5 g2_0;have g5_1:=kP ha5 g2_1;have g5_2:=kP ha5 g2_2;have g5_3:=kP ha5 g2_3;have g5_9:get a5 9 = .bool false:=kG ha5 hz2;refine hK4 a5 w ?_;refine wp_cond_split (t:=false) (eK g5_9) (fun h=>by cases h) (fun _=>?_);refine wS fun K7 hK7=>?_;refine wC (wMv (v:=.bool false) (eK g5_0) ?_);refine wC (wAs (v:=.bool false) (eS hz5) ?_);refine wEk hz5 hd5 fun a8 ha8 hz8 hd8=>?_;have g8_1:=kP ha8 g5_1;have g8_2:=kP ha8 g5_2;have g8_3:=kP ha8 g5_3;have g8_15:get a8 15 = .bool false:=kG ha8 hz5;refine hK7 a8 w ?_;refine wp_cond_split (t:=false) (eK g8_15) (fun h=>by cases h) (fun _=>?_);refine wS fun K10 hK10=>?_;refine wC (wMv (v:=.bool true) (eK g8_1) ?_);refine wC (wAs (v:=.bool true) (eS hz8) ?_);refine wEk hz8 hd8 fun a11 ha11 hz11 hd11=>?_;have g11_2:=kP ha11 g8_2;have g11_3:=kP ha11 g8_3;have g11_21:get a11 21 = .bool true:=kG ha11 hz8;refine hK10 a11 w ?_;refine wp_cond_split (t:=true) (eK g11_21) (fun _=>?_) (fun h=>by cases h);refine wS fun K13 hK13=>?_;refine wC (wMv (v:=.int .i64 (k:Int)) (eK g11_3) ?_);refine wC (wCr (vs:=#[.int .i64 (-1),.int .i64 (k:Int)]) hX.enters (by simp only[List.map_toArray,List.map_cons,List.map_nil];rw[show (a11.put (some 23) (.int .i64 (k:Int))).eval (.const (.int .i64 (-1)))=Value.int .i64 (-1) from rfl,eTm,sZ hz11 (by decide)]) (Za (hX.call w (-1) k hk)) ?_);rintro x14 w14 ⟨fr14,ow14⟩;refine wC (wAs (v:=x14) (eS hz11) ?_);refine wEk hz11 hd11 fun a15 ha15 hz15 hd15=>?_;have g15_8:get a15 8=x14:=kG ha15 hz11;refine hK13 a15 w14 ?_;refine wp_ret ?_;exact ⟨hd15,_,rIs hres g15_8,_,rfl,fr14,by rw[show Zi false true n k=fxW (-1) k from by simp[Zi]];exact ow14⟩
  · refine calls_of_wp hf hbody ?_;generalize ha0 : ({ tmps := #[Value.bool true, Value.bool false, Value.int .i64 (n : Int), Value.int .i64 (k : Int)] ++ Array.replicate (fn.ntmps - (#[Value.bool true, Value.bool false, Value.int .i64 (n : Int), Value.int .i64 (k : Int)] : Array Value).size) undef, defers := [] } : Act) = a0;have hz0 : a0.tmps.size = 28 := by subst ha0; simp [hN]
    have hd0:a0.defers=[]:=by subst ha0;rfl
    have g0_0:get a0 0 = .bool true:=by subst ha0;exact gAr rfl
    have g0_1:get a0 1 = .bool false:=by subst ha0;exact gAr rfl
    have g0_2:get a0 2 = .int .i64 (n:Int):=by subst ha0;exact gAr rfl
    have g0_3:get a0 3 = .int .i64 (k:Int):=by subst ha0;exact gAr rfl
    refine wT fun K1 hK1=>?_;refine wC (wAs (v:=.slice none 0 0) rfl ?_);refine wEk hz0 hd0 fun a2 ha2 hz2 hd2=>?_;have g2_0:=kP ha2 g0_0;have g2_1:=kP ha2 g0_1;have g2_2:=kP ha2 g0_2;have g2_3:=kP ha2 g0_3;refine hK1 a2 w (tUp ?_);refine tId (wp_seq_k fun K3 hK3=>?_);refine Zm ?_;refine wp_seq_k fun K4 hK4=>?_;refine Z0c ?_;refine gCn ?_;refine wMv (v:=.bool true) (eK g2_0) ?_;refine gCn ?_;refine wMv (v:=.bool true) (eS hz2) ?_;refine Zq (dj:=11) rfl (lZ hz2) (gS hz2) ?_;refine wMv (v:=.bool false) (eK g2_1) ?_;refine gCn ?_;refine Zv (v:=.bool false) (eS hz2) (eS hz2) ?_;refine gCn ?_;refine wAs (v:=.bool false) (eS hz2) ?_;refine Z0u fun a5 ha5=>?_;have hz5:=kS ha5 hz2;have hd5:=kD ha5 hd2;have g5_0:=kP ha5 g2_0;have g5_1:=kP ha5 g2_1;have g5_2:=kP ha5 g2_2;have g5_3:=kP ha5 g2_3;have g5_9:get a5 9 = .bool false:=kG ha5 hz2;refine hK4 a5 w ?_;refine wp_cond_split (t:=false) (eK g5_9) (fun h=>by cases h) (fun _=>?_);refine wS fun K7 hK7=>?_;refine wC (wMv (v:=.bool true) (eK g5_0) ?_);refine wC (wAs (v:=.bool true) (eS hz5) ?_);refine wEk hz5 hd5 fun a8 ha8 hz8 hd8=>?_;have g8_1:=kP ha8 g5_1;have g8_2:=kP ha8 g5_2;have g8_3:=kP ha8 g5_3;have g8_15:get a8 15 = .bool true:=kG ha8 hz5;refine hK7 a8 w ?_;refine wp_cond_split (t:=true) (eK g8_15) (fun _=>?_) (fun h=>by cases h);refine wS fun K10 hK10=>?_;refine wC (wMv (v:=.int .i64 (n:Int)) (eK g8_2) ?_);refine wC (wCv (k1:=.i64) (i:=(n:Int)) hT3_i64 hT73_u64 (eS hz8) ?_);rw[show (IntKind.u64.wrap ((n:Int):Int))=((n:Int):Int) from by simp only[IntKind.wrap,IntKind.bits,IntKind.signed];simp;omega];refine wC (ZJ (k1:=.u64) (i:=(n:Int)) (j:=1) (eS hz8) rfl ?_);rw[show (IntKind.u64.wrap (((n:Int):Int)+(1:Int)):Int)=(((n+1:Nat):Int):Int) from by simp only[IntKind.wrap,IntKind.bits,IntKind.signed];simp;omega];refine wC (wCr (vs:=#[.int .u64 ((n+1:Nat):Int)]) hU.enters (mX1 (eS hz8)) (Za (hU.call w (n+1) (by omega))) ?_);rintro x11 w11 ⟨fr11,ow11⟩;refine wC (wAs (v:=x11) (eS hz8) ?_);refine wEk hz8 hd8 fun a12 ha12 hz12 hd12=>?_;have g12_8:get a12 8=x11:=kG ha12 hz8;refine hK10 a12 w11 ?_;refine wp_ret ?_;exact ⟨hd12,_,rIs hres g12_8,_,rfl,fr11,by rw[show Zi true false n k=uvW (n+1) from by simp[Zi]];exact ow11⟩
  refine calls_of_wp hf hbody ?_;generalize ha0:({ tmps:=#[Value.bool true,Value.bool true,Value.int .i64 (n:Int),Value.int .i64 (k:Int)]++Array.replicate (fn.ntmps - (#[Value.bool true,Value.bool true,Value.int .i64 (n:Int),Value.int .i64 (k:Int)]:Array Value).size) undef,defers:=[] }:Act)=a0;have hz0:a0.tmps.size=28:=by subst ha0;simp[hN]
  have hd0:a0.defers=[]:=by subst ha0;rfl
  have g0_0:get a0 0 = .bool true:=by subst ha0;exact gAr rfl
  have g0_1:get a0 1 = .bool true:=by subst ha0;exact gAr rfl
  have g0_2:get a0 2 = .int .i64 (n:Int):=by subst ha0;exact gAr rfl
  have g0_3:get a0 3 = .int .i64 (k:Int):=by subst ha0;exact gAr rfl
  refine wT fun K1 hK1=>?_;refine wC (wAs (v:=.slice none 0 0) rfl ?_);refine wEk hz0 hd0 fun a2 ha2 hz2 hd2=>?_;have g2_0:=kP ha2 g0_0;have g2_1:=kP ha2 g0_1;have g2_2:=kP ha2 g0_2;have g2_3:=kP ha2 g0_3;refine hK1 a2 w (tUp ?_);refine tId (wp_seq_k fun K3 hK3=>?_);refine Zm ?_;refine wp_seq_k fun K4 hK4=>?_;refine Z0c ?_;refine gCn ?_;refine wMv (v:=.bool true) (eK g2_0) ?_;refine gCn ?_;refine wMv (v:=.bool true) (eS hz2) ?_;refine Zq (dj:=11) rfl (lZ hz2) (gS hz2) ?_;refine wMv (v:=.bool true) (eK g2_1) ?_;refine gCn ?_;refine Zv (v:=.bool true) (eS hz2) (eS hz2) ?_;refine gCn ?_;refine wAs (v:=.bool true) (eS hz2) ?_;refine Z0u fun a5 ha5=>?_;have hz5:=kS ha5 hz2;have hd5:=kD ha5 hd2;have g5_0:=kP ha5 g2_0;have g5_1:=kP ha5 g2_1;have g5_2:=kP ha5 g2_2;have g5_3:=kP ha5 g2_3;have g5_9:get a5 9 = .bool true:=kG ha5 hz2;refine hK4 a5 w ?_;refine wp_cond_split (t:=true) (eK g5_9) (fun _=>?_) (fun h=>by cases h);refine wS fun K7 hK7=>?_;refine wC (Z1u (xs:=[.const (.int .u8 0)]) (css:=[[.int .u8 0]]) hs_T22 rfl (by decide) (by decide) (by simp[eCo,Value.cells]) (by simp) ?_);have fr8:=Fr.alloc [] w (.cells ([[Value.int .u8 0]]:List (List Value)).flatten.toArray te);have ow8:Own (w.alloc (.cells ([[Value.int .u8 0]]:List (List Value)).flatten.toArray te)) (From w.heap.size (w.alloc (.cells ([[Value.int .u8 0]]:List (List Value)).flatten.toArray te))) 1 (.slice (some ⟨w.heap.size,0,none⟩) 1 1) 1 (Z0 [0]):=own_new1;generalize w.alloc (.cells ([[Value.int .u8 0]]:List (List Value)).flatten.toArray te)=w8 at fr8 ow8 ⊢;refine wC (wAs (v:=.slice (some ⟨w.heap.size,0,none⟩) 1 1) (eS hz5) ?_);refine wEk hz5 hd5 fun a9 ha9 hz9 hd9=>?_;have g9_8:get a9 8 = .slice (some ⟨w.heap.size,0,none⟩) 1 1:=kG ha9 hz5;refine hK7 a9 w8 ?_;refine wp_ret ?_;exact ⟨hd9,_,rIs hres g9_8,_,rfl,fr8,by rw[show Zi true true n k=[0] from by simp[Zi]];exact ow8⟩
structure HasM (P:Program) (f:FuncId):Prop where
  enters:Enters P f
  call:∀ (w:World) (A:Nat→Prop) (cs:List Value) (fd:Fd) (ver:Int),RepF w A cs fd→Calls P f #[.agg cs.toArray,.int .i64 ver] w fun e w'=>e = .returned (.bool (fd.has ver))∧Fr [] w w'
theorem has_m {P:Program} {f:FuncId} {fn:Func} {T3 T45:TypeId} {i0 i1:Nat} {t0 t1 t2 t3 t4 t5 t6 t7 t8 t9 t10 t11 t12 t13 t14 t15 t16 t17:TypeId} {p0 p1 p2 p3 p4 p5 p6 p7 p8 p9 p10 p11 p12 p13 p14 p15 p16 p17:String} {e0 e1 e2 e3 e4 e5 e6 e7 e8 e9 e10 e11 e12 e13 e14 e15 e16 e17:Array Edge} 
    (hf:P.funcs[f]?=some fn) (hname:nG fn=false) (hres:fn.results = #[.tmp 4]) (hN:fn.ntmps=20)
    (hbody:fn.body=some (.seq (Code.region i0 ⟨[⟨some 2,.box T45 (.tmp 0),t0,p0,e0,none⟩,
    oA 4 (.const (.bool false)) t1 p1 e1]⟩ false) (.seq (Code.region i1 ⟨[oF 5 T45 2 1 t2 p2 e2,
    oL 6 T3 5 t3 p3 e3,
    oM 7 1 t4 p4 e4,⟨some 8,.binOp .leq T3 (.tmp 6) (.tmp 7) T3,t5,p5,e5,none⟩,
    oM 9 8 t6 p6 e6,⟨some 10,.fieldAddr T45 (.tmp 2) 2,t7,p7,e7,some (4,true)⟩,⟨some 11,.load T3 (.tmp 10),t8,p8,e8,some (4,true)⟩,⟨some 12,.binOp .lss T3 (.tmp 11) (.const (.int .i64 0)) T3,t9,p9,e9,some (4,true)⟩,⟨some 13,.move (.tmp 12),t10,p10,e10,some (4,true)⟩,⟨some 14,.move (.tmp 1),t11,p11,e11,some (8,false)⟩,⟨some 15,.fieldAddr T45 (.tmp 2) 2,t12,p12,e12,some (8,false)⟩,⟨some 16,.load T3 (.tmp 15),t13,p13,e13,some (8,false)⟩,⟨some 17,.binOp .leq T3 (.tmp 14) (.tmp 16) T3,t14,p14,e14,some (8,false)⟩,⟨some 18,.pick (.tmp 13) (.const (.bool true)) (.tmp 17),t15,p15,e15,some (4,true)⟩,⟨some 19,.pick (.tmp 9) (.tmp 18) (.const (.bool false)),t16,p16,e16,none⟩,
    oT 4 19 t17 p17 e17]⟩ false) .ret)))
    (hFlT45:Flat P T45 zF) (hcT3:scal P T3=true) :HasM P f:=by
  refine ⟨enters_of hf hname hbody,?_⟩;intro w A cs fd ver hr;obtain ⟨fsv,rfl,hsub⟩:=ZK.1 hr
  by_cases h1:fd.fr≤ver;by_cases h2:fd.to < 0
  · refine calls_of_wp hf hbody ?_;generalize ha0 : ({ tmps := #[Value.agg ([.int .i64 fd.kind, .int .i64 fd.fr, .int .i64 fd.to, .int .i64 fd.nul, .int .i64 fd.tag, .int .i64 fd.df, .int .i64 fd.of, fsv] : List Value).toArray, Value.int .i64 ver] ++ Array.replicate (fn.ntmps - (#[Value.agg ([.int .i64 fd.kind, .int .i64 fd.fr, .int .i64 fd.to, .int .i64 fd.nul, .int .i64 fd.tag, .int .i64 fd.df, .int .i64 fd.of, fsv] : List Value).toArray, Value.int .i64 ver] : Array Value).size) undef, defers := [] } : Act) = a0;have hz0 : a0.tmps.size = 20 := by subst ha0; simp [hN]
    have hd0:a0.defers=[]:=by subst ha0;rfl
    have g0_0:get a0 0 = .agg ([.int .i64 fd.kind,.int .i64 fd.fr,.int .i64 fd.to,.int .i64 fd.nul,.int .i64 fd.tag,.int .i64 fd.df,.int .i64 fd.of,fsv]:List Value).toArray:=by subst ha0;exact gAr rfl
    have g0_1:get a0 1 = .int .i64 ver:=by subst ha0;exact gAr rfl
    refine wT fun K1 hK1=>?_;refine wC (ZS (cs:=[.int .i64 fd.kind,.int .i64 fd.fr,.int .i64 fd.to,.int .i64 fd.nul,.int .i64 fd.tag,.int .i64 fd.df,.int .i64 fd.of,fsv]) (eK g0_0) ?_);rintro w2 f2 sz2 r2 th2;have hF3:Fr [] w w2:=f2;refine wC (wAs (v:=.bool false) rfl ?_);refine wEk hz0 hd0 fun a4 ha4 hz4 hd4=>?_;have g4_1:=kP ha4 g0_1;have g4_2:get a4 2 = .pointer (some ⟨w.heap.size,0,none⟩):=kG ha4 hz0;refine hK1 a4 w2 (tUp ?_);refine tId (wp_seq_k fun K5 hK5=>?_);refine Z0c ?_;refine gCn ?_;refine wFa (b:=w.heap.size) (i:=0) (hFlT45.fld (by decide)) (eK g4_2) ?_;rw[show (0+1:Nat)=1 from rfl];refine gCn ?_;refine wL0 (j:=1) (v:=.int .i64 fd.fr) hcT3 (eS hz4) r2 rfl ?_;refine gCn ?_;refine wMv (v:=.int .i64 ver) (eK g4_1) ?_;refine gCn ?_;refine Z7G (k1:=.i64) (i:=fd.fr) (j:=ver) h1 (eS hz4) (eS hz4) ?_;refine gCn ?_;refine wMv (v:=.bool true) (eS hz4) ?_;refine Zq (dj:=9) rfl (lZ hz4) (gS hz4) ?_;refine wFa (b:=w.heap.size) (i:=0) (hFlT45.fld (by decide)) (eK g4_2) ?_;rw[show (0+2:Nat)=2 from rfl];refine Zq (dj:=9) rfl (lZ hz4) (gS hz4) ?_;refine wL0 (j:=2) (v:=.int .i64 fd.to) hcT3 (eS hz4) r2 rfl ?_;refine Zq (dj:=9) rfl (lZ hz4) (gS hz4) ?_;refine Z1X (k1:=.i64) (i:=fd.to) (j:=0) h2 (eS hz4) rfl ?_;refine Zq (dj:=9) rfl (lZ hz4) (gS hz4) ?_;refine wMv (v:=.bool true) (eS hz4) ?_;refine Z6z (dj:=13) rfl (lZ hz4) (gS hz4) ?_;refine Z6z (dj:=13) rfl (lZ hz4) (gS hz4) ?_;refine Z6z (dj:=13) rfl (lZ hz4) (gS hz4) ?_;refine Z6z (dj:=13) rfl (lZ hz4) (gS hz4) ?_;refine Zq (dj:=9) rfl (lZ hz4) (gS hz4) ?_;refine Zv (v:=.bool true) (eS hz4) rfl ?_;refine gCn ?_;refine Zv (v:=.bool true) (eS hz4) (eS hz4) ?_;refine gCn ?_;refine wAs (v:=.bool true) (eS hz4) ?_;refine Z0u fun a6 ha6=>?_;have hz6:=kS ha6 hz4;have hd6:=kD ha6 hd4;have g6_4:get a6 4 = .bool true:=kG ha6 hz4;refine hK5 a6 w2 (tUp ?_);refine wp_ret ?_;exact ⟨hd6,_,rIs hres g6_4,by simp[Fd.has,h1,h2],hF3⟩
  · refine calls_of_wp hf hbody ?_;generalize ha0 : ({ tmps := #[Value.agg ([.int .i64 fd.kind, .int .i64 fd.fr, .int .i64 fd.to, .int .i64 fd.nul, .int .i64 fd.tag, .int .i64 fd.df, .int .i64 fd.of, fsv] : List Value).toArray, Value.int .i64 ver] ++ Array.replicate (fn.ntmps - (#[Value.agg ([.int .i64 fd.kind, .int .i64 fd.fr, .int .i64 fd.to, .int .i64 fd.nul, .int .i64 fd.tag, .int .i64 fd.df, .int .i64 fd.of, fsv] : List Value).toArray, Value.int .i64 ver] : Array Value).size) undef, defers := [] } : Act) = a0;have hz0 : a0.tmps.size = 20 := by subst ha0; simp [hN]
    have hd0:a0.defers=[]:=by subst ha0;rfl
    have g0_0:get a0 0 = .agg ([.int .i64 fd.kind,.int .i64 fd.fr,.int .i64 fd.to,.int .i64 fd.nul,.int .i64 fd.tag,.int .i64 fd.df,.int .i64 fd.of,fsv]:List Value).toArray:=by subst ha0;exact gAr rfl
    have g0_1:get a0 1 = .int .i64 ver:=by subst ha0;exact gAr rfl
    refine wT fun K1 hK1=>?_;refine wC (ZS (cs:=[.int .i64 fd.kind,.int .i64 fd.fr,.int .i64 fd.to,.int .i64 fd.nul,.int .i64 fd.tag,.int .i64 fd.df,.int .i64 fd.of,fsv]) (eK g0_0) ?_);rintro w2 f2 sz2 r2 th2;have hF3:Fr [] w w2:=f2;refine wC (wAs (v:=.bool false) rfl ?_);refine wEk hz0 hd0 fun a4 ha4 hz4 hd4=>?_;have g4_1:=kP ha4 g0_1;have g4_2:get a4 2 = .pointer (some ⟨w.heap.size,0,none⟩):=kG ha4 hz0;refine hK1 a4 w2 (tUp ?_);refine tId (wp_seq_k fun K5 hK5=>?_);refine Z0c ?_;refine gCn ?_;refine wFa (b:=w.heap.size) (i:=0) (hFlT45.fld (by decide)) (eK g4_2) ?_;rw[show (0+1:Nat)=1 from rfl];refine gCn ?_;refine wL0 (j:=1) (v:=.int .i64 fd.fr) hcT3 (eS hz4) r2 rfl ?_;refine gCn ?_;refine wMv (v:=.int .i64 ver) (eK g4_1) ?_;refine gCn ?_;refine Z7G (k1:=.i64) (i:=fd.fr) (j:=ver) h1 (eS hz4) (eS hz4) ?_;refine gCn ?_;refine wMv (v:=.bool true) (eS hz4) ?_;refine Zq (dj:=9) rfl (lZ hz4) (gS hz4) ?_;refine wFa (b:=w.heap.size) (i:=0) (hFlT45.fld (by decide)) (eK g4_2) ?_;rw[show (0+2:Nat)=2 from rfl];refine Zq (dj:=9) rfl (lZ hz4) (gS hz4) ?_;refine wL0 (j:=2) (v:=.int .i64 fd.to) hcT3 (eS hz4) r2 rfl ?_;refine Zq (dj:=9) rfl (lZ hz4) (gS hz4) ?_;refine Z1E (k1:=.i64) (i:=fd.to) (j:=0) h2 (eS hz4) rfl ?_;refine Zq (dj:=9) rfl (lZ hz4) (gS hz4) ?_;refine wMv (v:=.bool false) (eS hz4) ?_;refine Zq (dj:=13) rfl (lZ hz4) (gS hz4) ?_;refine wMv (v:=.int .i64 ver) (eK g4_1) ?_;refine Zq (dj:=13) rfl (lZ hz4) (gS hz4) ?_;refine wFa (b:=w.heap.size) (i:=0) (hFlT45.fld (by decide)) (eK g4_2) ?_;rw[show (0+2:Nat)=2 from rfl];refine Zq (dj:=13) rfl (lZ hz4) (gS hz4) ?_;refine wL0 (j:=2) (v:=.int .i64 fd.to) hcT3 (eS hz4) r2 rfl ?_;refine Zq (dj:=13) rfl (lZ hz4) (gS hz4) ?_;refine Z5g (k1:=.i64) (i:=ver) (j:=fd.to) (eS hz4) (eS hz4) ?_;refine Zq (dj:=9) rfl (lZ hz4) (gS hz4) ?_;refine ZL (v:=.bool (decide ((ver:Int)≤(fd.to:Int)))) (eS hz4) (eS hz4) ?_;refine gCn ?_;refine Zv (v:=.bool (decide ((ver:Int)≤(fd.to:Int)))) (eS hz4) (eS hz4) ?_;refine gCn ?_;refine wAs (v:=.bool (decide ((ver:Int)≤(fd.to:Int)))) (eS hz4) ?_;refine Z0u fun a6 ha6=>?_;have hz6:=kS ha6 hz4;have hd6:=kD ha6 hd4;have g6_4:get a6 4 = .bool (decide ((ver:Int)≤(fd.to:Int))):=kG ha6 hz4;refine hK5 a6 w2 (tUp ?_);refine wp_ret ?_;exact ⟨hd6,_,rIs hres g6_4,by simp[Fd.has,h1,h2],hF3⟩
  refine calls_of_wp hf hbody ?_;generalize ha0:({ tmps:=#[Value.agg ([.int .i64 fd.kind,.int .i64 fd.fr,.int .i64 fd.to,.int .i64 fd.nul,.int .i64 fd.tag,.int .i64 fd.df,.int .i64 fd.of,fsv]:List Value).toArray,Value.int .i64 ver]++Array.replicate (fn.ntmps - (#[Value.agg ([.int .i64 fd.kind,.int .i64 fd.fr,.int .i64 fd.to,.int .i64 fd.nul,.int .i64 fd.tag,.int .i64 fd.df,.int .i64 fd.of,fsv]:List Value).toArray,Value.int .i64 ver]:Array Value).size) undef,defers:=[] }:Act)=a0;have hz0:a0.tmps.size=20:=by subst ha0;simp[hN]
  have hd0:a0.defers=[]:=by subst ha0;rfl
  have g0_0:get a0 0 = .agg ([.int .i64 fd.kind,.int .i64 fd.fr,.int .i64 fd.to,.int .i64 fd.nul,.int .i64 fd.tag,.int .i64 fd.df,.int .i64 fd.of,fsv]:List Value).toArray:=by subst ha0;exact gAr rfl
  have g0_1:get a0 1 = .int .i64 ver:=by subst ha0;exact gAr rfl
  refine wT fun K1 hK1=>?_;refine wC (ZS (cs:=[.int .i64 fd.kind,.int .i64 fd.fr,.int .i64 fd.to,.int .i64 fd.nul,.int .i64 fd.tag,.int .i64 fd.df,.int .i64 fd.of,fsv]) (eK g0_0) ?_);rintro w2 f2 sz2 r2 th2;have hF3:Fr [] w w2:=f2;refine wC (wAs (v:=.bool false) rfl ?_);refine wEk hz0 hd0 fun a4 ha4 hz4 hd4=>?_;have g4_1:=kP ha4 g0_1;have g4_2:get a4 2 = .pointer (some ⟨w.heap.size,0,none⟩):=kG ha4 hz0;refine hK1 a4 w2 (tUp ?_);refine tId (wp_seq_k fun K5 hK5=>?_);refine Z0c ?_;refine gCn ?_;refine wFa (b:=w.heap.size) (i:=0) (hFlT45.fld (by decide)) (eK g4_2) ?_;rw[show (0+1:Nat)=1 from rfl];refine gCn ?_;refine wL0 (j:=1) (v:=.int .i64 fd.fr) hcT3 (eS hz4) r2 rfl ?_;refine gCn ?_;refine wMv (v:=.int .i64 ver) (eK g4_1) ?_;refine gCn ?_;refine wp_leqF (k1:=.i64) (i:=fd.fr) (j:=ver) h1 (eS hz4) (eS hz4) ?_;refine gCn ?_;refine wMv (v:=.bool false) (eS hz4) ?_;refine Z09 (dj:=9) rfl (lZ hz4) (gS hz4) ?_;refine Z09 (dj:=9) rfl (lZ hz4) (gS hz4) ?_;refine Z09 (dj:=9) rfl (lZ hz4) (gS hz4) ?_;refine Z09 (dj:=9) rfl (lZ hz4) (gS hz4) ?_;refine wg_un (dj:=13) rfl (gS hz4) ?_;refine wg_un (dj:=13) rfl (gS hz4) ?_;refine wg_un (dj:=13) rfl (gS hz4) ?_;refine wg_un (dj:=13) rfl (gS hz4) ?_;refine Z09 (dj:=9) rfl (lZ hz4) (gS hz4) ?_;refine gCn ?_;refine ZL (v:=.bool false) (eS hz4) rfl ?_;refine gCn ?_;refine wAs (v:=.bool false) (eS hz4) ?_;refine Z0u fun a6 ha6=>?_;have hz6:=kS ha6 hz4;have hd6:=kD ha6 hd4;have g6_4:get a6 4 = .bool false:=kG ha6 hz4;refine hK5 a6 w2 (tUp ?_);refine wp_ret ?_;exact ⟨hd6,_,rIs hres g6_4,by simp[Fd.has,h1],hF3⟩
structure NullM (P:Program) (f:FuncId):Prop where
  enters:Enters P f
  call:∀ (w:World) (A B:Nat→Prop) (cs ct:List Value) (fd:Fd) (t:T) (ver:Int),RepF w A cs fd→RepT w B ct t→Calls P f #[.agg cs.toArray,.int .i64 ver,.agg ct.toArray] w fun e w'=>e = .returned (.bool (Z0Y fd.nul ver t))∧Fr [] w w'
theorem null_m {P:Program} {f:FuncId} {fn:Func} {T3 T4 T26 T45:TypeId} {i0 i1:Nat} {t0 t1 t2 t3 t4 t5 t6 t7 t8 t9 t10 t11 t12 t13 t14 t15 t16:TypeId} {p0 p1 p2 p3 p4 p5 p6 p7 p8 p9 p10 p11 p12 p13 p14 p15 p16:String} {e0 e1 e2 e3 e4 e5 e6 e7 e8 e9 e10 e11 e12 e13 e14 e15 e16:Array Edge} 
    (hf:P.funcs[f]?=some fn) (hname:nG fn=false) (hres:fn.results = #[.tmp 6]) (hN:fn.ntmps=20)
    (hbody:fn.body=some (.seq (Code.region i0 ⟨[⟨some 3,.box T45 (.tmp 0),t0,p0,e0,none⟩,⟨some 5,.box T26 (.tmp 2),t1,p1,e1,none⟩,
    oA 6 (.const (.bool false)) t2 p2 e2]⟩ false) (.seq (Code.region i1 ⟨[oF 7 T26 5 2 t3 p3 e3,
    oL 8 T4 7 t4 p4 e4,
    oM 9 8 t5 p5 e5,⟨some 10,.fieldAddr T45 (.tmp 3) 3,t6,p6,e6,some (2,true)⟩,⟨some 11,.load T3 (.tmp 10),t7,p7,e7,some (2,true)⟩,⟨some 12,.binOp .geq T3 (.tmp 11) (.const (.int .i64 0)) T3,t8,p8,e8,some (2,true)⟩,⟨some 13,.pick (.tmp 9) (.tmp 12) (.const (.bool false)),t9,p9,e9,none⟩,
    oM 14 13 t10 p10 e10,⟨some 15,.move (.tmp 1),t11,p11,e11,some (7,true)⟩,⟨some 16,.fieldAddr T45 (.tmp 3) 3,t12,p12,e12,some (7,true)⟩,⟨some 17,.load T3 (.tmp 16),t13,p13,e13,some (7,true)⟩,⟨some 18,.binOp .geq T3 (.tmp 15) (.tmp 17) T3,t14,p14,e14,some (7,true)⟩,⟨some 19,.pick (.tmp 14) (.tmp 18) (.const (.bool false)),t15,p15,e15,none⟩,
    oT 6 19 t16 p16 e16]⟩ false) .ret)))
    (hFlT26:Flat P T26 zT) (hcT4:scal P T4=true) (hFlT45:Flat P T45 zF) (hcT3:scal P T3=true) :NullM P f:=by
  refine ⟨enters_of hf hname hbody,?_⟩;intro w A B cs ct fd t ver hr ht;obtain ⟨fsv,rfl,hsub⟩:=ZK.1 hr
  cases t with
  | mk n s nl l u =>
  obtain ⟨sv,lv,uv,rfl,hn,hs,hl,hu⟩:=Z0O.1 ht
  cases nl
  rotate_left
  by_cases h1:fd.nul≥0
  · refine calls_of_wp hf hbody ?_;generalize ha0 : ({ tmps := #[Value.agg ([.int .i64 fd.kind, .int .i64 fd.fr, .int .i64 fd.to, .int .i64 fd.nul, .int .i64 fd.tag, .int .i64 fd.df, .int .i64 fd.of, fsv] : List Value).toArray, Value.int .i64 ver, Value.agg ([.int .i64 n, sv, .bool true, lv, uv] : List Value).toArray] ++ Array.replicate (fn.ntmps - (#[Value.agg ([.int .i64 fd.kind, .int .i64 fd.fr, .int .i64 fd.to, .int .i64 fd.nul, .int .i64 fd.tag, .int .i64 fd.df, .int .i64 fd.of, fsv] : List Value).toArray, Value.int .i64 ver, Value.agg ([.int .i64 n, sv, .bool true, lv, uv] : List Value).toArray] : Array Value).size) undef, defers := [] } : Act) = a0;have hz0 : a0.tmps.size = 20 := by subst ha0; simp [hN]
    have hd0:a0.defers=[]:=by subst ha0;rfl
    have g0_0:get a0 0 = .agg ([.int .i64 fd.kind,.int .i64 fd.fr,.int .i64 fd.to,.int .i64 fd.nul,.int .i64 fd.tag,.int .i64 fd.df,.int .i64 fd.of,fsv]:List Value).toArray:=by subst ha0;exact gAr rfl
    have g0_1:get a0 1 = .int .i64 ver:=by subst ha0;exact gAr rfl
    have g0_2:get a0 2 = .agg ([.int .i64 n,sv,.bool true,lv,uv]:List Value).toArray:=by subst ha0;exact gAr rfl
    refine wT fun K1 hK1=>?_;refine wC (ZS (cs:=[.int .i64 fd.kind,.int .i64 fd.fr,.int .i64 fd.to,.int .i64 fd.nul,.int .i64 fd.tag,.int .i64 fd.df,.int .i64 fd.of,fsv]) (eK g0_0) ?_);rintro w2 f2 sz2 r2 th2;have hF3:Fr [] w w2:=f2;refine wC (ZS (cs:=[.int .i64 n,sv,.bool true,lv,uv]) (eK g0_2) ?_);rintro w4 f4 sz4 r4 th4;have hF5:Fr [] w w4:=hF3.tr f4;have rb6:=f4.range r2 .nil;refine wC (wAs (v:=.bool false) rfl ?_);refine wEk hz0 hd0 fun a7 ha7 hz7 hd7=>?_;have g7_1:=kP ha7 g0_1;have g7_3:get a7 3 = .pointer (some ⟨w.heap.size,0,none⟩):=kG ha7 hz0;have g7_5:get a7 5 = .pointer (some ⟨w2.heap.size,0,none⟩):=kG ha7 hz0;refine hK1 a7 w4 (tUp ?_);refine tId (wp_seq_k fun K8 hK8=>?_);refine Z0c ?_;refine gCn ?_;refine wFa (b:=w2.heap.size) (i:=0) (hFlT26.fld (by decide)) (eK g7_5) ?_;rw[show (0+2:Nat)=2 from rfl];refine gCn ?_;refine wL0 (j:=2) (v:=.bool true) hcT4 (eS hz7) r4 rfl ?_;refine gCn ?_;refine wMv (v:=.bool true) (eS hz7) ?_;refine Zq (dj:=9) rfl (lZ hz7) (gS hz7) ?_;refine wFa (b:=w.heap.size) (i:=0) (hFlT45.fld (by decide)) (eK g7_3) ?_;rw[show (0+3:Nat)=3 from rfl];refine Zq (dj:=9) rfl (lZ hz7) (gS hz7) ?_;refine wL0 (j:=3) (v:=.int .i64 fd.nul) hcT3 (eS hz7) rb6 rfl ?_;refine Zq (dj:=9) rfl (lZ hz7) (gS hz7) ?_;refine Z2w (k1:=.i64) (i:=fd.nul) (j:=0) h1 (eS hz7) rfl ?_;refine gCn ?_;refine Zv (v:=.bool true) (eS hz7) (eS hz7) ?_;refine gCn ?_;refine wMv (v:=.bool true) (eS hz7) ?_;refine Zq (dj:=14) rfl (lZ hz7) (gS hz7) ?_;refine wMv (v:=.int .i64 ver) (eK g7_1) ?_;refine Zq (dj:=14) rfl (lZ hz7) (gS hz7) ?_;refine wFa (b:=w.heap.size) (i:=0) (hFlT45.fld (by decide)) (eK g7_3) ?_;rw[show (0+3:Nat)=3 from rfl];refine Zq (dj:=14) rfl (lZ hz7) (gS hz7) ?_;refine wL0 (j:=3) (v:=.int .i64 fd.nul) hcT3 (eS hz7) rb6 rfl ?_;refine Zq (dj:=14) rfl (lZ hz7) (gS hz7) ?_;refine Z2P (k1:=.i64) (i:=ver) (j:=fd.nul) (eS hz7) (eS hz7) ?_;refine gCn ?_;refine Zv (v:=.bool (decide ((ver:Int)≥(fd.nul:Int)))) (eS hz7) (eS hz7) ?_;refine gCn ?_;refine wAs (v:=.bool (decide ((ver:Int)≥(fd.nul:Int)))) (eS hz7) ?_;refine Z0u fun a9 ha9=>?_;have hz9:=kS ha9 hz7;have hd9:=kD ha9 hd7;have g9_6:get a9 6 = .bool (decide ((ver:Int)≥(fd.nul:Int))):=kG ha9 hz7;refine hK8 a9 w4 (tUp ?_);refine wp_ret ?_;exact ⟨hd9,_,rIs hres g9_6,by simp[Z0Y,T.nl,h1],hF5⟩
  · refine calls_of_wp hf hbody ?_;generalize ha0 : ({ tmps := #[Value.agg ([.int .i64 fd.kind, .int .i64 fd.fr, .int .i64 fd.to, .int .i64 fd.nul, .int .i64 fd.tag, .int .i64 fd.df, .int .i64 fd.of, fsv] : List Value).toArray, Value.int .i64 ver, Value.agg ([.int .i64 n, sv, .bool true, lv, uv] : List Value).toArray] ++ Array.replicate (fn.ntmps - (#[Value.agg ([.int .i64 fd.kind, .int .i64 fd.fr, .int .i64 fd.to, .int .i64 fd.nul, .int .i64 fd.tag, .int .i64 fd.df, .int .i64 fd.of, fsv] : List Value).toArray, Value.int .i64 ver, Value.agg ([.int .i64 n, sv, .bool true, lv, uv] : List Value).toArray] : Array Value).size) undef, defers := [] } : Act) = a0;have hz0 : a0.tmps.size = 20 := by subst ha0; simp [hN]
    have hd0:a0.defers=[]:=by subst ha0;rfl
    have g0_0:get a0 0 = .agg ([.int .i64 fd.kind,.int .i64 fd.fr,.int .i64 fd.to,.int .i64 fd.nul,.int .i64 fd.tag,.int .i64 fd.df,.int .i64 fd.of,fsv]:List Value).toArray:=by subst ha0;exact gAr rfl
    have g0_1:get a0 1 = .int .i64 ver:=by subst ha0;exact gAr rfl
    have g0_2:get a0 2 = .agg ([.int .i64 n,sv,.bool true,lv,uv]:List Value).toArray:=by subst ha0;exact gAr rfl
    refine wT fun K1 hK1=>?_;refine wC (ZS (cs:=[.int .i64 fd.kind,.int .i64 fd.fr,.int .i64 fd.to,.int .i64 fd.nul,.int .i64 fd.tag,.int .i64 fd.df,.int .i64 fd.of,fsv]) (eK g0_0) ?_);rintro w2 f2 sz2 r2 th2;have hF3:Fr [] w w2:=f2;refine wC (ZS (cs:=[.int .i64 n,sv,.bool true,lv,uv]) (eK g0_2) ?_);rintro w4 f4 sz4 r4 th4;have hF5:Fr [] w w4:=hF3.tr f4;have rb6:=f4.range r2 .nil;refine wC (wAs (v:=.bool false) rfl ?_);refine wEk hz0 hd0 fun a7 ha7 hz7 hd7=>?_;have g7_1:=kP ha7 g0_1;have g7_3:get a7 3 = .pointer (some ⟨w.heap.size,0,none⟩):=kG ha7 hz0;have g7_5:get a7 5 = .pointer (some ⟨w2.heap.size,0,none⟩):=kG ha7 hz0;refine hK1 a7 w4 (tUp ?_);refine tId (wp_seq_k fun K8 hK8=>?_);refine Z0c ?_;refine gCn ?_;refine wFa (b:=w2.heap.size) (i:=0) (hFlT26.fld (by decide)) (eK g7_5) ?_;rw[show (0+2:Nat)=2 from rfl];refine gCn ?_;refine wL0 (j:=2) (v:=.bool true) hcT4 (eS hz7) r4 rfl ?_;refine gCn ?_;refine wMv (v:=.bool true) (eS hz7) ?_;refine Zq (dj:=9) rfl (lZ hz7) (gS hz7) ?_;refine wFa (b:=w.heap.size) (i:=0) (hFlT45.fld (by decide)) (eK g7_3) ?_;rw[show (0+3:Nat)=3 from rfl];refine Zq (dj:=9) rfl (lZ hz7) (gS hz7) ?_;refine wL0 (j:=3) (v:=.int .i64 fd.nul) hcT3 (eS hz7) rb6 rfl ?_;refine Zq (dj:=9) rfl (lZ hz7) (gS hz7) ?_;refine Z3c (k1:=.i64) (i:=fd.nul) (j:=0) h1 (eS hz7) rfl ?_;refine gCn ?_;refine Zv (v:=.bool false) (eS hz7) (eS hz7) ?_;refine gCn ?_;refine wMv (v:=.bool false) (eS hz7) ?_;refine Z09 (dj:=14) rfl (lZ hz7) (gS hz7) ?_;refine Z09 (dj:=14) rfl (lZ hz7) (gS hz7) ?_;refine Z09 (dj:=14) rfl (lZ hz7) (gS hz7) ?_;refine Z09 (dj:=14) rfl (lZ hz7) (gS hz7) ?_;refine gCn ?_;refine ZL (v:=.bool false) (eS hz7) rfl ?_;refine gCn ?_;refine wAs (v:=.bool false) (eS hz7) ?_;refine Z0u fun a9 ha9=>?_;have hz9:=kS ha9 hz7;have hd9:=kD ha9 hd7;have g9_6:get a9 6 = .bool false:=kG ha9 hz7;refine hK8 a9 w4 (tUp ?_);refine wp_ret ?_;exact ⟨hd9,_,rIs hres g9_6,by simp[Z0Y,T.nl,h1],hF5⟩
  refine calls_of_wp hf hbody ?_;generalize ha0:({ tmps:=#[Value.agg ([.int .i64 fd.kind,.int .i64 fd.fr,.int .i64 fd.to,.int .i64 fd.nul,.int .i64 fd.tag,.int .i64 fd.df,.int .i64 fd.of,fsv]:List Value).toArray,Value.int .i64 ver,Value.agg ([.int .i64 n,sv,.bool false,lv,uv]:List Value).toArray]++Array.replicate (fn.ntmps - (#[Value.agg ([.int .i64 fd.kind,.int .i64 fd.fr,.int .i64 fd.to,.int .i64 fd.nul,.int .i64 fd.tag,.int .i64 fd.df,.int .i64 fd.of,fsv]:List Value).toArray,Value.int .i64 ver,Value.agg ([.int .i64 n,sv,.bool false,lv,uv]:List Value).toArray]:Array Value).size) undef,defers:=[] }:Act)=a0;have hz0:a0.tmps.size=20:=by subst ha0;simp[hN]
  have hd0:a0.defers=[]:=by subst ha0;rfl
  have g0_0:get a0 0 = .agg ([.int .i64 fd.kind,.int .i64 fd.fr,.int .i64 fd.to,.int .i64 fd.nul,.int .i64 fd.tag,.int .i64 fd.df,.int .i64 fd.of,fsv]:List Value).toArray:=by subst ha0;exact gAr rfl
  have g0_1:get a0 1 = .int .i64 ver:=by subst ha0;exact gAr rfl
  have g0_2:get a0 2 = .agg ([.int .i64 n,sv,.bool false,lv,uv]:List Value).toArray:=by subst ha0;exact gAr rfl
  refine wT fun K1 hK1=>?_;refine wC (ZS (cs:=[.int .i64 fd.kind,.int .i64 fd.fr,.int .i64 fd.to,.int .i64 fd.nul,.int .i64 fd.tag,.int .i64 fd.df,.int .i64 fd.of,fsv]) (eK g0_0) ?_);rintro w2 f2 sz2 r2 th2;have hF3:Fr [] w w2:=f2;refine wC (ZS (cs:=[.int .i64 n,sv,.bool false,lv,uv]) (eK g0_2) ?_);rintro w4 f4 sz4 r4 th4;have hF5:Fr [] w w4:=hF3.tr f4;have rb6:=f4.range r2 .nil;refine wC (wAs (v:=.bool false) rfl ?_);refine wEk hz0 hd0 fun a7 ha7 hz7 hd7=>?_;have g7_1:=kP ha7 g0_1;have g7_3:get a7 3 = .pointer (some ⟨w.heap.size,0,none⟩):=kG ha7 hz0;have g7_5:get a7 5 = .pointer (some ⟨w2.heap.size,0,none⟩):=kG ha7 hz0;refine hK1 a7 w4 (tUp ?_);refine tId (wp_seq_k fun K8 hK8=>?_);refine Z0c ?_;refine gCn ?_;refine wFa (b:=w2.heap.size) (i:=0) (hFlT26.fld (by decide)) (eK g7_5) ?_;rw[show (0+2:Nat)=2 from rfl];refine gCn ?_;refine wL0 (j:=2) (v:=.bool false) hcT4 (eS hz7) r4 rfl ?_;refine gCn ?_;refine wMv (v:=.bool false) (eS hz7) ?_;refine Z09 (dj:=9) rfl (lZ hz7) (gS hz7) ?_;refine Z09 (dj:=9) rfl (lZ hz7) (gS hz7) ?_;refine Z09 (dj:=9) rfl (lZ hz7) (gS hz7) ?_;refine gCn ?_;refine ZL (v:=.bool false) (eS hz7) rfl ?_;refine gCn ?_;refine wMv (v:=.bool false) (eS hz7) ?_;refine Z09 (dj:=14) rfl (lZ hz7) (gS hz7) ?_;refine Z09 (dj:=14) rfl (lZ hz7) (gS hz7) ?_;refine Z09 (dj:=14) rfl (lZ hz7) (gS hz7) ?_;refine Z09 (dj:=14) rfl (lZ hz7) (gS hz7) ?_;refine gCn ?_;refine ZL (v:=.bool false) (eS hz7) rfl ?_;refine gCn ?_;refine wAs (v:=.bool false) (eS hz7) ?_;refine Z0u fun a9 ha9=>?_;have hz9:=kS ha9 hz7;have hd9:=kD ha9 hd7;have g9_6:get a9 6 = .bool false:=kG ha9 hz7;refine hK8 a9 w4 (tUp ?_);refine wp_ret ?_;exact ⟨hd9,_,rIs hres g9_6,by simp[Z0Y,T.nl],hF5⟩
structure Z75 (P:Program) (f:FuncId):Prop where
  enters:Enters P f
  call:∀ (w:World) (A:Nat→Prop) (v:Value) (s:List UInt8),OctE w A v s→Calls P f #[v] w fun e w'=>∃ u,e = .returned u∧OctE w A u (Zd s)∧w'=w
theorem whole_m {P:Program} {f:FuncId} {fn:Func} {T3 T22:TypeId} {i0 i1:Nat} {t0 t1 t2 t3 t4 t5 t6:TypeId} {p0 p1 p2 p3 p4 p5 p6:String} {e0 e1 e2 e3 e4 e5 e6:Array Edge} {te:TypeId} {tb:Nat}
    (hf:P.funcs[f]?=some fn) (hname:nG fn=false) (hres:fn.results = #[.tmp 2]) (hN:fn.ntmps=8)
    (hbody:fn.body=some (.seq (Code.region i0 ⟨[oA 2 (.const (.slice none 0 0)) t0 p0 e0]⟩ false) (.seq (Code.region i1 ⟨[oM 3 0 t1 p1 e1,
    oM 4 0 t2 p2 e2,⟨some 5,.call ⟨.builtin .len,#[(.tmp 4)],#[T22]⟩,t3,p3,e3,none⟩,⟨some 6,.call ⟨.builtin .min,#[(.tmp 5),(.const (.int .i64 32767))],#[T3,T3]⟩,t4,p4,e4,none⟩,⟨some 7,.slice T22 (.tmp 3) none (some (.tmp 6)) none,t5,p5,e5,none⟩,
    oT 2 7 t6 p6 e6]⟩ false) .ret)))
    (hsT22:slTy P T22=true) (hs_T22:Z3 P T22 te 1 1=true) :Z75 P f:=by
  refine ⟨enters_of hf hname hbody,?_⟩;intro w A v s hs;obtain ⟨q,cap,rfl,hc,hb,hk⟩:=hs.slice2;refine calls_of_wp hf hbody ?_;generalize ha0:({ tmps:=#[Value.slice q s.length cap]++Array.replicate (fn.ntmps - (#[Value.slice q s.length cap]:Array Value).size) undef,defers:=[] }:Act)=a0;have hz0:a0.tmps.size=8:=by subst ha0;simp[hN]
  have hd0:a0.defers=[]:=by subst ha0;rfl
  have g0_0:get a0 0 = .slice q s.length cap:=by subst ha0;exact gAr rfl
  refine wT fun K1 hK1=>?_;refine wC (wAs (v:=.slice none 0 0) rfl ?_);refine wEk hz0 hd0 fun a2 ha2 hz2 hd2=>?_;have g2_0:=kP ha2 g0_0;refine hK1 a2 w (tUp ?_);refine wT fun K3 hK3=>?_;refine wC (wMv (v:=.slice q s.length cap) (eK g2_0) ?_);refine wC (wMv (v:=.slice q s.length cap) (eK g2_0) ?_);refine wC (Zs (n:=s.length) hsT22 (eS hz2) ?_);refine wC (Z64 (k1:=.i64) (i:=s.length) (j:=32767) (eS hz2) rfl ?_);rw[show (if (32767:Int) < (s.length:Int) then (32767:Int) else s.length)=((min s.length 32767:Nat):Int) from by split <;> omega];refine wC (Z3b (k1:=.i64) (l:=min s.length 32767) hs_T22 (eS hz2) (eS hz2) (by omega) ?_);refine wC (wAs (v:=.slice q (min s.length 32767) cap) (eS hz2) ?_);refine wEk hz2 hd2 fun a4 ha4 hz4 hd4=>?_;have g4_2:get a4 2 = .slice q (min s.length 32767) cap:=kG ha4 hz2;refine hK3 a4 w (tUp ?_);refine wp_ret ?_;exact ⟨hd4,_,rIs hres g4_2,_,rfl,by have:=hk (min s.length 32767) (by omega);rwa [show s.take (min s.length 32767)=Zd s from by unfold Zd;by_cases h:s.length≤32767;rw[Nat.min_eq_left h,List.take_length,List.take_of_length_le h];rw[Nat.min_eq_right (by omega)]] at this,rfl⟩
structure Z6v (P:Program) (f:FuncId):Prop where
  enters:Enters P f
  call:∀ (w:World) (A:Nat→Prop) (v:Value) (s:List T),Z0J w A v s→Calls P f #[v] w fun e w'=>∃ u,e = .returned u∧Z0J w A u (s.take 32767)∧w'=w
theorem things_m {P:Program} {f:FuncId} {fn:Func} {T3 T23:TypeId} {i0 i1:Nat} {t0 t1 t2 t3 t4 t5 t6:TypeId} {p0 p1 p2 p3 p4 p5 p6:String} {e0 e1 e2 e3 e4 e5 e6:Array Edge} {te:TypeId} {tb:Nat}
    (hf:P.funcs[f]?=some fn) (hname:nG fn=false) (hres:fn.results = #[.tmp 2]) (hN:fn.ntmps=8)
    (hbody:fn.body=some (.seq (Code.region i0 ⟨[oA 2 (.const (.slice none 0 0)) t0 p0 e0]⟩ false) (.seq (Code.region i1 ⟨[oM 3 0 t1 p1 e1,
    oM 4 0 t2 p2 e2,⟨some 5,.call ⟨.builtin .len,#[(.tmp 4)],#[T23]⟩,t3,p3,e3,none⟩,⟨some 6,.call ⟨.builtin .min,#[(.tmp 5),(.const (.int .i64 32767))],#[T3,T3]⟩,t4,p4,e4,none⟩,⟨some 7,.slice T23 (.tmp 3) none (some (.tmp 6)) none,t5,p5,e5,none⟩,
    oT 2 7 t6 p6 e6]⟩ false) .ret)))
    (hsT23:slTy P T23=true) (hs_T23:Z3 P T23 te 5 tb=true) :Z6v P f:=by
  refine ⟨enters_of hf hname hbody,?_⟩;intro w A v s hs;obtain ⟨q,cap,hv,hc,hb,hk⟩:=hs.sl2;subst hv;refine calls_of_wp hf hbody ?_;generalize ha0:({ tmps:=#[Value.slice q s.length cap]++Array.replicate (fn.ntmps - (#[Value.slice q s.length cap]:Array Value).size) undef,defers:=[] }:Act)=a0;have hz0:a0.tmps.size=8:=by subst ha0;simp[hN]
  have hd0:a0.defers=[]:=by subst ha0;rfl
  have g0_0:get a0 0 = .slice q s.length cap:=by subst ha0;exact gAr rfl
  refine wT fun K1 hK1=>?_;refine wC (wAs (v:=.slice none 0 0) rfl ?_);refine wEk hz0 hd0 fun a2 ha2 hz2 hd2=>?_;have g2_0:=kP ha2 g0_0;refine hK1 a2 w (tUp ?_);refine wT fun K3 hK3=>?_;refine wC (wMv (v:=.slice q s.length cap) (eK g2_0) ?_);refine wC (wMv (v:=.slice q s.length cap) (eK g2_0) ?_);refine wC (Zs (n:=s.length) hsT23 (eS hz2) ?_);refine wC (Z64 (k1:=.i64) (i:=s.length) (j:=32767) (eS hz2) rfl ?_);rw[show (if (32767:Int) < (s.length:Int) then (32767:Int) else s.length)=((min s.length 32767:Nat):Int) from by split <;> omega];refine wC (Z3b (k1:=.i64) (l:=min s.length 32767) hs_T23 (eS hz2) (eS hz2) (by omega) ?_);refine wC (wAs (v:=.slice q (min s.length 32767) cap) (eS hz2) ?_);refine wEk hz2 hd2 fun a4 ha4 hz4 hd4=>?_;have g4_2:get a4 2 = .slice q (min s.length 32767) cap:=kG ha4 hz2;refine hK3 a4 w (tUp ?_);refine wp_ret ?_;exact ⟨hd4,_,rIs hres g4_2,_,rfl,by have:=hs.take (min s.length 32767) (by omega);rwa [show s.take (min s.length 32767)=s.take 32767 from by by_cases h:s.length≤32767;rw[Nat.min_eq_left h,List.take_length,List.take_of_length_le h];rw[Nat.min_eq_right (by omega)]] at this,rfl⟩
structure AtM (P:Program) (f:FuncId):Prop where
  enters:Enters P f
  call:∀ (w:World) (A:Nat→Prop) (ct:List Value) (t:T) (i:Nat),RepT w A ct t→Calls P f #[.agg ct.toArray,.int .i64 i] w fun e w'=>∃ cs:List Value,e = .returned (.agg cs.toArray)∧Fr [] w w'∧((∀ b,A b→b < w.heap.size)→RepT w' A cs (atT t.l i))
theorem at_m {P:Program} {f:FuncId} {fn:Func} {T3 T23 T26:TypeId} {i0 i1 i2 i3:Nat} {t0 t1 t2 t3 t4 t5 t6 t7 t8 t9 t10 t11 t12 t13 t14:TypeId} {p0 p1 p2 p3 p4 p5 p6 p7 p8 p9 p10 p11 p12 p13 p14:String} {e0 e1 e2 e3 e4 e5 e6 e7 e8 e9 e10 e11 e12 e13 e14:Array Edge} {te:TypeId} {tb:Nat}
    (hf:P.funcs[f]?=some fn) (hname:nG fn=false) (hres:fn.results = #[.cell 4 T26]) (hN:fn.ntmps=16)
    (hbody:fn.body=some (.seq (Code.region i0 ⟨[⟨some 2,.box T26 (.tmp 0),t0,p0,e0,none⟩,⟨some 4,.alloc T26,t1,p1,e1,none⟩]⟩ false) (.seq (.seq (Code.region i1 ⟨[oM 5 1 t2 p2 e2,
    oF 6 T26 2 3 t3 p3 e3,
    oL 7 T23 6 t4 p4 e4,⟨some 8,.call ⟨.builtin .len,#[(.tmp 7)],#[T23]⟩,t5,p5,e5,none⟩,⟨some 9,.binOp .lss T3 (.tmp 5) (.tmp 8) T3,t6,p6,e6,none⟩]⟩ false) (.cond (.tmp 9) (.seq (Code.region i2 ⟨[oF 10 T26 2 3 t7 p7 e7,
    oL 11 T23 10 t8 p8 e8,
    oM 12 1 t9 p9 e9,⟨some 13,.indexAddr T23 (.tmp 11) (.tmp 12),t10,p10,e10,none⟩,
    oL 14 T26 13 t11 p11 e11,
    oS T26 4 14 t12 p12 e12]⟩ false) .ret) .skip)) (.seq (Code.region i3 ⟨[⟨some 15,.build T26 #[],t13,p13,e13,none⟩,
    oS T26 4 15 t14 p14 e14]⟩ false) .ret))))
    (hFlT26:Flat P T26 zT) (hcT23:scal P T23=true) (hsT23:slTy P T23=true) (hs_T23:Z3 P T23 te 5 tb=true) :AtM P f:=by
  refine ⟨enters_of hf hname hbody,?_⟩;intro w A ct t i ht
  cases t with
  | mk n s nl l u =>
  obtain ⟨sv,lv,uv,rfl,hn,hs,hl,hu⟩:=Z0O.1 ht;obtain ⟨q,cap,hv,hc,hb,hk⟩:=hl.sl2;subst hv;refine calls_of_wp hf hbody ?_;generalize ha0:({ tmps:=#[Value.agg ([.int .i64 n,sv,.bool nl,.slice q l.length cap,uv]:List Value).toArray,Value.int .i64 (i:Int)]++Array.replicate (fn.ntmps - (#[Value.agg ([.int .i64 n,sv,.bool nl,.slice q l.length cap,uv]:List Value).toArray,Value.int .i64 (i:Int)]:Array Value).size) undef,defers:=[] }:Act)=a0;have hz0:a0.tmps.size=16:=by subst ha0;simp[hN]
  have hd0:a0.defers=[]:=by subst ha0;rfl
  have g0_0:get a0 0 = .agg ([.int .i64 n,sv,.bool nl,.slice q l.length cap,uv]:List Value).toArray:=by subst ha0;exact gAr rfl
  have g0_1:get a0 1 = .int .i64 (i:Int):=by subst ha0;exact gAr rfl
  refine wT fun K1 hK1=>?_;refine wC (ZS (cs:=[.int .i64 n,sv,.bool nl,.slice q l.length cap,uv]) (eK g0_0) ?_);rintro w2 f2 sz2 r2 th2;have hF3:Fr [] w w2:=f2;refine wC (Z0A hFlT26 ?_);rintro w4 f4 sz4 r4 th4;have hF5:Fr [] w w4:=hF3.tr f4;have rb6:=f4.range r2 .nil;refine wEk hz0 hd0 fun a7 ha7 hz7 hd7=>?_;have g7_1:=kP ha7 g0_1;have g7_2:get a7 2 = .pointer (some ⟨w.heap.size,0,none⟩):=kG ha7 hz0;have g7_4:get a7 4 = .pointer (some ⟨w2.heap.size,0,none⟩):=kG ha7 hz0;refine hK1 a7 w4 (tUp ?_);refine tId (wp_seq_k fun K8 hK8=>?_);refine wS fun K9 hK9=>?_;refine wC (wMv (v:=.int .i64 (i:Int)) (eK g7_1) ?_);refine wC (wFa (b:=w.heap.size) (i:=0) (hFlT26.fld (by decide)) (eK g7_2) ?_);rw[show (0+3:Nat)=3 from rfl];refine wC (wL0 (j:=3) (v:=.slice q l.length cap) hcT23 (eS hz7) rb6 rfl ?_);refine wC (Zs (n:=l.length) hsT23 (eS hz7) ?_);refine wC (Z08 (k1:=.i64) (i:=(i:Int)) (j:=((l.length:Nat):Int)) (eS hz7) (eS hz7) ?_);refine wEk hz7 hd7 fun a10 ha10 hz10 hd10=>?_;have g10_1:=kP ha10 g7_1;have g10_2:=kP ha10 g7_2;have g10_4:=kP ha10 g7_4;have g10_9:get a10 9 = .bool (decide (((i:Int):Int) < (((l.length:Nat):Int):Int))):=kG ha10 hz7;refine hK9 a10 w4 ?_;refine wp_cond_split (t:=decide (((i:Int):Int) < (((l.length:Nat):Int):Int))) (eK g10_9) (fun hc11=>?_) (fun hc11=>?_)
  · have hil : i < l.length := by simpa using hc11
    obtain ⟨bl,ol,cl,rfl,hbl,hrl,htl⟩:=hk i l[i] (by simp[hil]);refine wS fun K12 hK12=>?_;refine wC (wFa (b:=w.heap.size) (i:=0) (hFlT26.fld (by decide)) (eK g10_2) ?_);rw[show (0+3:Nat)=3 from rfl];refine wC (wL0 (j:=3) (v:=.slice (some ⟨bl,ol,none⟩) l.length cap) hcT23 (eS hz10) rb6 rfl ?_);refine wC (wMv (v:=.int .i64 (i:Int)) (eK g10_1) ?_);refine wC (Z14 (b:=bl) (o:=ol) (i:=i) hs_T23 (eS hz10) (eS hz10) hil ?_);rw[wCo];have hr2:=hF5.range hrl .nil;refine Z8 (cs:=cl) (b:=bl) (o:=ol+i * 5) hFlT26 htl.length (eS hz10) hr2 ?_;refine wC (Z0g (cs:=cl) (o:=0) hFlT26 htl.length (eK g10_4) (eS hz10) htl.ones th4 ?_);rintro w13 f13 sz13 r13 th13;refine wEk hz10 hd10 fun a14 ha14 hz14 hd14=>?_;have g14_4:=kP ha14 g10_4;refine hK12 a14 w13 ?_;refine wp_ret ?_;refine ⟨hd14,_,Z2Y hres hFlT26 (cs:=cl) htl.length g14_4 r13,_,rfl,hF5.trans f13 ?_,?_⟩
    · intro r hr;simp at hr;subst hr;exact .inl (by simp only;omega)
    rw[show atT (T.l (.mk n s nl l u)) i=l[i] from by simp[atT,T.l,hil]];exact fun hA=>(RepT.kept htl hF5 (by simp) (fun _ h=>h)).kept f13 (by intro r hr;simp at hr;subst hr;intro hb;have:=hA _ hb;simp only at this;omega) (fun _ h=>h)
  have hil:¬ i < l.length:=by simpa using hc11
  refine wp_skip ?_;refine hK8 a10 w4 (tUp ?_);refine wT fun K15 hK15=>?_;refine wC (Z5j (z:=zT) hFlT26 ?_);refine wC (Z0g (cs:=zT) (o:=0) hFlT26 rfl (eK g10_4) (eS hz10) (by simp[zT,Value.oneCell']) th4 ?_);rintro w16 f16 sz16 r16 th16;refine wEk hz10 hd10 fun a17 ha17 hz17 hd17=>?_;have g17_4:=kP ha17 g10_4;refine hK15 a17 w16 (tUp ?_);refine wp_ret ?_;refine ⟨hd17,_,Z2Y hres hFlT26 (cs:=zT) rfl g17_4 r16,_,rfl,hF5.trans f16 ?_,?_⟩
  · intro r hr;simp at hr;subst hr;exact .inl (by simp only;omega)
  rw[show atT (T.l (.mk n s nl l u)) i = .zero from by simp[atT,T.l,hil]];exact fun _=>Z85
end Go.Kq

namespace Go.Kq
open Go Go.Proofs
theorem Z49:∀ {fs:List Fd},(∀ f ∈ fs,f.tag < 4294967295)→Z7 fs < 4294967296
  | [],_=>by simp[Z7]
  | f :: fs, h => by
    have h1:=h f (by simp);have h2:=Z49 (fs:=fs) fun g hg=>h g (by simp[hg]);rw[Z7];split <;> omega
structure Z76 (P:Program) (f:FuncId):Prop where
  enters:Enters P f
  call:∀ (w:World) (A:Nat→Prop) (v:Value) (fs:List Fd),FdsR w A v fs→(∀ f ∈ fs,f.tag < 4294967295)→Calls P f #[v] w fun e w'=>e = .returned (.int .u32 (Z7 fs:Nat))∧Fr [] w w'
theorem known_m {P:Program} {f:FuncId} {fn:Func} {T3 T29 T45 T58:TypeId} {i0 i1 i2 i3 i4 i5 i6 i7 i8:Nat} {t0 t1 t2 t3 t4 t5 t6 t7 t8 t9 t10 t11 t12 t13 t14 t15 t16 t17 t18 t19 t20 t21 t22 t23:TypeId} {p0 p1 p2 p3 p4 p5 p6 p7 p8 p9 p10 p11 p12 p13 p14 p15 p16 p17 p18 p19 p20 p21 p22 p23:String} {e0 e1 e2 e3 e4 e5 e6 e7 e8 e9 e10 e11 e12 e13 e14 e15 e16 e17 e18 e19 e20 e21 e22 e23:Array Edge} {te:TypeId} {tb:Nat}
    (hf:P.funcs[f]?=some fn) (hname:nG fn=false) (hres:fn.results = #[.tmp 2]) (hN:fn.ntmps=23)
    (hbody:fn.body=some (.seq (Code.region i0 ⟨[oA 2 (.const (.int .u32 0)) t0 p0 e0]⟩ false) (.seq (Code.region i1 ⟨[oA 3 (.const (.int .u32 0)) t1 p1 e1]⟩ false) (.seq (.seq (Code.region i2 ⟨[oM 6 0 t2 p2 e2,⟨some 7,.call ⟨.builtin .len,#[(.tmp 6)],#[T29]⟩,t3,p3,e3,none⟩,⟨some 8,.move (.const (.int .i64 0)),t4,p4,e4,none⟩]⟩ false) (.block 0 (.loop (.seq (Code.region i3 ⟨[⟨some 9,.binOp .lss T3 (.tmp 8) (.tmp 7) T3,t5,p5,e5,none⟩]⟩ false) (.seq (.cond (.tmp 9) .skip
  (.exit 0)) (.seq (.block 1 (.seq (Code.region i4 ⟨[⟨some 10,.indexAddr T29 (.tmp 6) (.tmp 8),t6,p6,e6,none⟩,
    oL 11 T45 10 t7 p7 e7,⟨some 5,.alloc T45,t8,p8,e8,none⟩,
    oS T45 5 11 t9 p9 e9]⟩ false) (.seq (Code.region i5 ⟨[oF 12 T45 5 4 t10 p10 e10,
    oL 13 T3 12 t11 p11 e11,⟨some 14,.binOp .geq T3 (.tmp 13) (.const (.int .i64 0)) T3,t12,p12,e12,none⟩]⟩ false) (.cond (.tmp 14) (Code.region i6 ⟨[oM 15 3 t13 p13 e13,
    oF 16 T45 5 4 t14 p14 e14,
    oL 17 T3 16 t15 p15 e15,⟨some 18,.convert T3 T58 (.tmp 17),t16,p16,e16,none⟩,⟨some 19,.binOp .add T58 (.tmp 18) (.const (.int .u32 1)) T58,t17,p17,e17,none⟩,⟨some 20,.call ⟨.builtin .max,#[(.tmp 15),(.tmp 19)],#[T58,T58]⟩,t18,p18,e18,none⟩,
    oT 3 20 t19 p19 e19]⟩ false) .skip))))
  (Code.region i7 ⟨[⟨some 21,.binOp .add T3 (.tmp 8) (.const (.int .i64 1)) T3,t20,p20,e20,none⟩,
    oM 8 21 t21 p21 e21]⟩ false))))))) (.seq (Code.region i8 ⟨[oM 22 3 t22 p22 e22,
    oT 2 22 t23 p23 e23]⟩ false) .ret)))))
    (hsT29:slTy P T29=true) (hs_T29:Z3 P T29 te 8 tb=true) (hFlT45:Flat P T45 zF) (hcT3:scal P T3=true) (hT3_i64:Zk P T3 .i64=true) (hT58_u32:Zk P T58 .u32=true) :Z76 P f:=by
  refine ⟨enters_of hf hname hbody,?_⟩;intro w A v fs hfs htag;obtain ⟨q,cap,hv,hbig,hk⟩:=hfs.slice;subst hv;have hkn:=Z49 htag;refine calls_of_wp hf hbody ?_;generalize ha0:({ tmps:=#[Value.slice q fs.length cap]++Array.replicate (fn.ntmps - (#[Value.slice q fs.length cap]:Array Value).size) undef,defers:=[] }:Act)=a0;have hz0:a0.tmps.size=23:=by subst ha0;simp[hN]
  have hd0:a0.defers=[]:=by subst ha0;rfl
  have g0_0:get a0 0 = .slice q fs.length cap:=by subst ha0;exact gAr rfl
  refine wT fun K1 hK1=>?_;refine wC (wAs (v:=.int .u32 0) rfl ?_);refine wEk hz0 hd0 fun a2 ha2 hz2 hd2=>?_;have g2_0:=kP ha2 g0_0;refine hK1 a2 w (tUp ?_);refine wT fun K3 hK3=>?_;refine wC (wAs (v:=.int .u32 0) rfl ?_);refine wEk hz2 hd2 fun a4 ha4 hz4 hd4=>?_;have g4_0:=kP ha4 g2_0;have g4_3:get a4 3 = .int .u32 0:=kG ha4 hz2;refine hK3 a4 w (tUp ?_);refine tId (wp_seq_k fun K5 hK5=>?_);refine wS fun K6 hK6=>?_;refine wC (wMv (v:=.slice q fs.length cap) (eK g4_0) ?_);refine wC (Zs (n:=fs.length) hsT29 (eS hz4) ?_);refine wC (wMv (v:=.int .i64 0) rfl ?_);refine wEk hz4 hd4 fun a7 ha7 hz7 hd7=>?_;have g7_3:=kP ha7 g4_3;have g7_6:get a7 6 = .slice q fs.length cap:=kG ha7 hz4;have g7_7:get a7 7 = .int .i64 ((fs.length:Nat):Int):=kG ha7 hz4;have g7_8:get a7 8 = .int .i64 0:=kG ha7 hz4;refine hK6 a7 w ?_;refine wp_block (wp_loop_ghost (fun (m:Nat) a' w'=>∃ (j acc:Nat),a'.tmps.size=23∧a'.defers=[]∧get a' 3 = .int .u32 (acc:Int)∧get a' 6 = .slice q fs.length cap∧get a' 7 = .int .i64 (fs.length:Int)∧get a' 8 = .int .i64 (j:Int)∧j+m=fs.length∧max acc (Z7 (fs.drop j))=Z7 fs∧Fr [] w w') fs.length ?_ ?_)
  · exact ⟨0,0,hz7,hd7,g7_3,g7_6,g7_7,g7_8,by omega,by simp,Fr.refl _ _⟩
  rintro m a8 w8 ⟨j,acc,hz8,hd8,g8_3,g8_6,g8_7,g8_8,hjm,hacc,hfw⟩;refine wS fun K9 hK9=>?_;refine wC (Z08 (k1:=.i64) (i:=(j:Int)) (j:=(fs.length:Int)) (eK g8_8) (eK g8_7) ?_);refine wEk hz8 hd8 fun a10 ha10 hz10 hd10=>?_;have g10_3:=kP ha10 g8_3;have g10_6:=kP ha10 g8_6;have g10_7:=kP ha10 g8_7;have g10_8:=kP ha10 g8_8;have g10_9:get a10 9 = .bool (decide (((j:Int):Int) < ((fs.length:Int):Int))):=kG ha10 hz8;refine hK9 a10 w8 ?_;refine wp_seq_k fun K11 hK11=>?_;refine wp_cond_split (t:=decide (((j:Int):Int) < ((fs.length:Int):Int))) (eK g10_9) (fun hc12=>?_) (fun hc12=>?_)
  · have hjl : j < fs.length := by simp at hc12; omega
    obtain ⟨fd,hfd⟩:∃ fd,fs[j]?=some fd:=⟨fs[j],by simp[hjl]⟩;obtain ⟨bl,ol,cl,hq,hbl,hrl,hrep⟩:=hk j fd hfd;obtain ⟨fsv,rfl,hsub⟩:=ZK.1 hrep;have hdr:fs.drop j=fd::fs.drop (j+1):=by rw[List.drop_eq_getElem_cons hjl];congr 1;rw[List.getElem?_eq_getElem hjl] at hfd;exact Option.some.inj hfd
    have hft:=htag fd (List.mem_of_getElem? hfd);rw[hdr,Z7] at hacc;refine wp_skip ?_;refine hK11 a10 w8 ?_;refine wp_seq_k fun K13 hK13=>?_;refine Zm ?_;refine wS fun K14 hK14=>?_;refine wC (Z14 (b:=bl) (o:=ol) (i:=j) hs_T29 (by rw[eTm,g10_6,hq]) (eK g10_8) hjl ?_);refine wC (Z8 (cs:=[.int .i64 fd.kind,.int .i64 fd.fr,.int .i64 fd.to,.int .i64 fd.nul,.int .i64 fd.tag,.int .i64 fd.df,.int .i64 fd.of,fsv]) (b:=bl) (o:=ol+j * 8) hFlT45 rfl (eS hz10) (hfw.range hrl .nil) ?_);refine wC (Z0A hFlT45 ?_);rintro w15 f15 sz15 r15 th15;have hF16:Fr [] w w15:=hfw.tr f15;refine wC (Z0g (cs:=[.int .i64 fd.kind,.int .i64 fd.fr,.int .i64 fd.to,.int .i64 fd.nul,.int .i64 fd.tag,.int .i64 fd.df,.int .i64 fd.of,fsv]) (o:=0) hFlT45 rfl (eS hz10) (eS hz10) (by intro u hu;simp at hu;rcases hu with rfl | rfl | rfl | rfl | rfl | rfl | rfl | rfl <;> first | rfl | exact hsub.one) th15 ?_);rintro w17 f17 sz17 r17 th17;have hF17:Fr [] w w17:=hF16.trans f17 (fun r hr=>.inl (by simp at hr;subst hr;have:=hfw.size;simp only;omega));refine wEk hz10 hd10 fun a18 ha18 hz18 hd18=>?_;have g18_3:=kP ha18 g10_3;have g18_5:get a18 5 = .pointer (some ⟨w8.heap.size,0,none⟩):=kG ha18 hz10;have g18_6:=kP ha18 g10_6;have g18_7:=kP ha18 g10_7;have g18_8:=kP ha18 g10_8;refine hK14 a18 w17 ?_;refine wS fun K19 hK19=>?_;refine wC (wFa (b:=w8.heap.size) (i:=0) (hFlT45.fld (by decide)) (eK g18_5) ?_);rw[show (0+4:Nat)=4 from rfl];refine wC (wL0 (j:=4) (v:=.int .i64 fd.tag) hcT3 (eS hz18) r17 rfl ?_);refine wC (Z2P (k1:=.i64) (i:=fd.tag) (j:=0) (eS hz18) rfl ?_);refine wEk hz18 hd18 fun a20 ha20 hz20 hd20=>?_;have g20_3:=kP ha20 g18_3;have g20_5:=kP ha20 g18_5;have g20_6:=kP ha20 g18_6;have g20_7:=kP ha20 g18_7;have g20_8:=kP ha20 g18_8;have g20_14:get a20 14 = .bool (decide ((fd.tag:Int)≥(0:Int))):=kG ha20 hz18;refine hK19 a20 w17 ?_;refine wp_cond_split (t:=decide ((fd.tag:Int)≥(0:Int))) (eK g20_14) (fun hc21=>?_) (fun hc21=>?_)
    · have hge : fd.tag ≥ 0 := by simpa using hc21
      refine Z2 ?_;refine wC (wMv (v:=.int .u32 (acc:Int)) (eK g20_3) ?_);refine wC (wFa (b:=w8.heap.size) (i:=0) (hFlT45.fld (by decide)) (eK g20_5) ?_);rw[show (0+4:Nat)=4 from rfl];refine wC (wL0 (j:=4) (v:=.int .i64 fd.tag) hcT3 (eS hz20) r17 rfl ?_);refine wC (wCv (k1:=.i64) (i:=fd.tag) hT3_i64 hT58_u32 (eS hz20) ?_);rw[show (IntKind.u32.wrap (fd.tag:Int))=((fd.tag.toNat:Int):Int) from by simp only[IntKind.wrap,IntKind.bits,IntKind.signed];simp;omega];refine wC (ZJ (k1:=.u32) (i:=(fd.tag.toNat:Int)) (j:=1) (eS hz20) rfl ?_);rw[show (IntKind.u32.wrap (((fd.tag.toNat:Int):Int)+(1:Int)):Int)=(((fd.tag.toNat+1:Nat):Int):Int) from by simp only[IntKind.wrap,IntKind.bits,IntKind.signed];simp;omega];refine wC (wp_max2 (k1:=.u32) (i:=(acc:Int)) (j:=((fd.tag.toNat+1:Nat):Int)) (eS hz20) (eS hz20) ?_);rw[show (if ((fd.tag.toNat+1:Nat):Int) > (acc:Int) then ((fd.tag.toNat+1:Nat):Int) else (acc:Int))=((max acc (fd.tag.toNat+1):Nat):Int) from by split <;> omega];refine wC (wAs (v:=.int .u32 ((max acc (fd.tag.toNat+1):Nat):Int)) (eS hz20) ?_);refine wEk hz20 hd20 fun a22 ha22 hz22 hd22=>?_;have g22_3:get a22 3 = .int .u32 ((max acc (fd.tag.toNat+1):Nat):Int):=kG ha22 hz20;have g22_6:=kP ha22 g20_6;have g22_7:=kP ha22 g20_7;have g22_8:=kP ha22 g20_8;refine hK13 a22 w17 ?_;refine Z2 ?_;refine wC (ZJ (k1:=.i64) (i:=(j:Int)) (j:=1) (eK g22_8) rfl ?_);rw[show (IntKind.i64.wrap (((j:Int):Int)+(1:Int)):Int)=(((j+1:Nat):Int):Int) from by simp only[IntKind.wrap,IntKind.bits,IntKind.signed];simp;omega];refine wC (wMv (v:=.int .i64 ((j+1:Nat):Int)) (eS hz22) ?_);refine wEk hz22 hd22 fun a23 ha23 hz23 hd23=>?_;have g23_3:=kP ha23 g22_3;have g23_6:=kP ha23 g22_6;have g23_7:=kP ha23 g22_7;have g23_8:get a23 8 = .int .i64 ((j+1:Nat):Int):=kG ha23 hz22;exact ⟨m - 1,by omega,j+1,max acc (fd.tag.toNat+1),hz23,hd23,g23_3,g23_6,g23_7,g23_8,by omega,by rw[if_pos hge] at hacc;rw[← hacc];omega,hF17⟩
    have hge:¬ fd.tag≥0:=by simpa using hc21
    refine wp_skip ?_;refine hK13 a20 w17 ?_;refine Z2 ?_;refine wC (ZJ (k1:=.i64) (i:=(j:Int)) (j:=1) (eK g20_8) rfl ?_);rw[show (IntKind.i64.wrap (((j:Int):Int)+(1:Int)):Int)=(((j+1:Nat):Int):Int) from by simp only[IntKind.wrap,IntKind.bits,IntKind.signed];simp;omega];refine wC (wMv (v:=.int .i64 ((j+1:Nat):Int)) (eS hz20) ?_);refine wEk hz20 hd20 fun a24 ha24 hz24 hd24=>?_;have g24_3:=kP ha24 g20_3;have g24_6:=kP ha24 g20_6;have g24_7:=kP ha24 g20_7;have g24_8:get a24 8 = .int .i64 ((j+1:Nat):Int):=kG ha24 hz20;exact ⟨m - 1,by omega,j+1,acc,hz24,hd24,g24_3,g24_6,g24_7,g24_8,by omega,by rw[if_neg hge] at hacc;exact hacc,hF17⟩
  have hj0:j=fs.length:=by simp at hc12;omega
  rw[hj0,List.drop_length,Z7,Nat.max_zero] at hacc;refine wp_exit ?_;show K5 a10 w8
  refine hK5 a10 w8 (tUp ?_);refine wT fun K25 hK25=>?_;refine wC (wMv (v:=.int .u32 (acc:Int)) (eK g10_3) ?_);refine wC (wAs (v:=.int .u32 (acc:Int)) (eS hz10) ?_);refine wEk hz10 hd10 fun a26 ha26 hz26 hd26=>?_;have g26_2:get a26 2 = .int .u32 (acc:Int):=kG ha26 hz10;refine hK25 a26 w8 (tUp ?_);refine wp_ret ?_;exact ⟨hd26,_,rIs hres g26_2,by rw[hacc],hfw⟩
end Go.Kq

namespace Go.Kq
open Go Go.Proofs
theorem Z1i:∀ {cs:List (List Value)},(∀ c ∈ cs,c.length=2)→cs.flatten.length=cs.length * 2
  | [],_=>rfl
  | c :: cs, h => by
    have:=Z1i (cs:=cs) fun x hx=>h x (by simp[hx]);simp only[List.flatten_cons,List.length_append,List.length_cons,this,h c (by simp)];omega
theorem Z6H {cs:List (List Value)} {k:Nat} {c:List Value} (hk:cs[k]?=some c):cs=cs.take k++c::cs.drop (k+1):=by
  have hlt:=(List.getElem?_eq_some_iff.1 hk).1;have:=(List.getElem?_eq_some_iff.1 hk).2;rw[← this,← List.drop_eq_getElem_cons hlt,List.take_append_drop]
theorem Own.elt {w:World} {A:Nat→Prop} {v:Value} {n:Nat} {cs:List (List Value)} (h:Own w A 2 v n cs.flatten) (hl:∀ c ∈ cs,c.length=2) (hn:cs.length=n) {k:Nat} {c:List Value} (hk:cs[k]?=some c) :
    ∃ g o cap,v = .slice (some ⟨g,o,none⟩) n cap∧A g∧blk v=some g∧w.rangeAt g (o+k * 2) c∧w.there g (o+k * 2) 2:=by
  have hlt:=(List.getElem?_eq_some_iff.1 hk).1;obtain ⟨_,⟨_,h0⟩ | ⟨g,o,cap,hg,hv,hc,hm,hr,ht⟩⟩:=h
  · omega
  refine ⟨g,o,cap,hv,hg,by rw[hv];rfl,?_,Z6 ht (by omega) (by have:(k+1) * 2≤cap * 2:=(by omega);omega)⟩;rw[Z6H hk,List.flatten_append,List.flatten_cons,Z4,Z4] at hr;have hk2:(cs.take k).flatten.length=k * 2:=by
    rw[Z1i fun x hx=>hl x (List.mem_of_mem_take hx),List.length_take];omega
  rw[hk2] at hr;exact hr.2.1
theorem Own.setElt {w w':World} {A:Nat→Prop} {v:Value} {n g o cap k:Nat} {cs:List (List Value)} {c:List Value} (h:Own w A 2 v n cs.flatten) (hv:v = .slice (some ⟨g,o,none⟩) n cap) (hl:∀ c ∈ cs,c.length=2) (hn:cs.length=n)
    (hk:k < n) (f:Fr [⟨g,o+k * 2,o+k * 2+2⟩] w w') (hr:w'.rangeAt g (o+k * 2) c) (hc:c.length=2):Own w' A 2 v n (cs.set k c).flatten:=by
  have hkc:cs[k]?=some cs[k]:=by simp[show k < cs.length from by omega]
  have hset:cs.set k c=cs.take k++c::cs.drop (k+1):=by rw[List.set_eq_take_append_cons_drop,if_pos (by omega)]
  have hl':∀ x ∈ cs.set k c,x.length=2:=by
    intro x hx
    rcases List.mem_or_eq_of_mem_set hx with h | h
    · exact hl x h
    rw[h];exact hc
  obtain ⟨hx,⟨_,h0⟩ | ⟨g',o',cap',hg,hv',hcc,hm,hro,ht⟩⟩:=h
  · omega
  rw[hv'] at hv
  cases hv
  refine ⟨by rw[Z1i hl',List.length_set,hn],.inr ⟨g,o,cap,hg,hv',hcc,hm,?_,f.there ht⟩⟩;have hk2:(cs.take k).flatten.length=k * 2:=by
    rw[Z1i fun x hx=>hl x (List.mem_of_mem_take hx),List.length_take];omega
  have hck:cs[k].length=2:=hl _ (List.getElem_mem _);rw[Z6H hkc,List.flatten_append,List.flatten_cons,Z4,Z4] at hro;rw[hset,List.flatten_append,List.flatten_cons,Z4,Z4];rw[hk2,hck] at hro;rw[hk2,hc];exact ⟨f.range hro.1 (.cons (.inr (.inl (by rw[hk2];simp only;omega))) .nil),hr,f.range hro.2.2 (.cons (.inr (.inr (by simp only;omega))) .nil)⟩
def zTag:List Value:=[.int .u32 0,.slice none 0 0]
def TgC (w:World) (B:Nat→Prop) (c:List Value) (p:Nat × List UInt8):Prop:=∃ xv,c=[.int .u32 p.1,xv]∧p.1 < 4294967296∧OctE w B xv p.2
theorem TgC.kept {w w':World} {B:Nat→Prop} {c:List Value} {p:Nat × List UInt8} {l:List Rng} (h:TgC w B c p) (f:Fr l w w') (hl:∀ r ∈ l,¬ B r.b):TgC w' B c p:=by
  obtain ⟨xv,h1,h2,h3⟩:=h;exact ⟨xv,h1,h2,h3.kept f hl fun _ h=>h⟩
theorem TgC.len {w:World} {B:Nat→Prop} {c:List Value} {p:Nat × List UInt8} (h:TgC w B c p):c.length=2:=by obtain ⟨xv,rfl,_⟩:=h;rfl
theorem TgC.ones {w:World} {B:Nat→Prop} {c:List Value} {p:Nat × List UInt8} (h:TgC w B c p):∀ u ∈ c,u.oneCell'=true:=by
  obtain ⟨xv,rfl,_,h⟩:=h;intro u hu;simp at hu;rcases hu with rfl | rfl
  · rfl
  exact h.one
inductive TgL (w:World) (B:Nat→Prop):List (List Value)→List (Nat × List UInt8)→Prop where
  | nil:TgL w B [] []
  | cons {c:List Value} {p:Nat × List UInt8} {cs:List (List Value)} {ps:List (Nat × List UInt8)} (h:TgC w B c p) (t:TgL w B cs ps):TgL w B (c::cs) (p::ps)
theorem TgL.kept {w w':World} {B:Nat→Prop} {cs:List (List Value)} {ps:List (Nat × List UInt8)} {l:List Rng} (h:TgL w B cs ps) (f:Fr l w w') (hl:∀ r ∈ l,¬ B r.b):TgL w' B cs ps:=by
  induction h with
  | nil=>exact .nil
  | cons h _ ih=>exact .cons (h.kept f hl) ih
theorem TgL.len {w:World} {B:Nat→Prop} {cs:List (List Value)} {ps:List (Nat × List UInt8)} (h:TgL w B cs ps):cs.length=ps.length:=by
  induction h with
  | nil=>rfl
  | cons _ _ ih=>simp[ih]
theorem TgL.all {w:World} {B:Nat→Prop} {cs:List (List Value)} {ps:List (Nat × List UInt8)} (h:TgL w B cs ps):∀ c ∈ cs,c.length=2:=by
  induction h with
  | nil=>simp
  | cons h _ ih => intro c hc; rcases List.mem_cons.1 hc with rfl | hc
                   · exact h.len
                   exact ih c hc
theorem TgL.at {w:World} {B:Nat→Prop} {cs:List (List Value)} {ps:List (Nat × List UInt8)} (h:TgL w B cs ps):∀ {i:Nat} {p:Nat × List UInt8},ps[i]?=some p→∃ c,cs[i]?=some c∧TgC w B c p:=by
  induction h with
  | nil=>intro i p h;simp at h
  | @cons c0 p0 cs ps h _ ih =>
    intro i p hi
    cases i with
    | zero=>simp at hi;subst hi;exact ⟨c0,rfl,h⟩
    | succ i=>obtain ⟨c,h1,h2⟩:=ih (i:=i) (p:=p) (by simpa using hi);exact ⟨c,by simpa using h1,h2⟩
theorem TgL.ins {w:World} {B:Nat→Prop} {cs:List (List Value)} {ps:List (Nat × List UInt8)} {c:List Value} {p:Nat × List UInt8} (h:TgL w B cs ps) (hc:TgC w B c p):∀ i,TgL w B (cs.take i++c::cs.drop i) (ps.take i++p::ps.drop i):=by
  induction h with
  | nil=>intro i;simp;exact .cons hc .nil
  | cons h t ih =>
    intro i
    cases i with
    | zero=>simp;exact .cons hc (.cons h t)
    | succ i=>simp;exact .cons h (ih i)
theorem TgL.tags {w:World} {A B C:Nat→Prop} {v:Value} {cs:List (List Value)} {ps:List (Nat × List UInt8)} (h:TgL w B cs ps) (ho:Own w A 2 v ps.length cs.flatten) (hb:ps.length≤4294967296) (hA:∀ b,A b→C b) (hB:∀ b,B b→C b):Z1T w C v ps:=by
  have hl:=h.len;have ho':=ho;obtain ⟨_,⟨h1,h2⟩ | ⟨g,o,cap,hg,hv,hc,hm,hr,ht⟩⟩:=ho
  · exact .inl ⟨.inl h1,List.eq_nil_of_length_eq_zero h2⟩
  refine .inr ⟨g,o,cap,hA g hg,hv,⟨hc,hb⟩,fun i k x hi=>?_⟩;obtain ⟨c,h3,xv,rfl,h5,h6⟩:=h.at hi;obtain ⟨g',o',cap',hv',_,_,h7,_⟩:=ho'.elt h.all hl h3;rw[hv] at hv';cases hv';exact ⟨xv,h5,h7,h6.kept (Fr.refl [] w) (by simp) hB⟩
theorem Z34 (out:List (Nat × List UInt8)) (k:Nat):Z0i out k≤out.length:=(List.takeWhile_sublist _).length_le
theorem Z6T:∀ {out:List (Nat × List UInt8)} {k i:Nat} {p:Nat × List UInt8},out[i]?=some p→p.1 < k→i≤Z0i out k→i+1≤Z0i out k
  | [],_,_,_,h,_,_=>by simp at h
  | q :: out, k, 0, p, h, hlt, _ => by
    simp at h;subst h
    unfold Z0i;rw[List.takeWhile_cons,if_pos (by simpa using hlt)];simp
  | q :: out, k, i + 1, p, h, hlt, hi => by
    unfold Z0i at hi ⊢;rw[List.takeWhile_cons] at hi ⊢
    split at hi
    · rename_i hq
      rw[if_pos hq];simp only[List.length_cons] at hi ⊢;have:=Z6T (out:=out) (k:=k) (i:=i) (p:=p) (by simpa using h) hlt (by unfold Z0i;omega);unfold Z0i at this;omega
    simp at hi
theorem Z3k:∀ {out:List (Nat × List UInt8)} {k i:Nat},(∀ p,out[i]?=some p→¬ p.1 < k)→i≤Z0i out k→i=Z0i out k
  | [],_,i,_,hi=>by simp[Z0i] at hi ⊢;exact hi
  | q :: out, k, 0, h, _ => by
    have:=h q (by simp);unfold Z0i;rw[List.takeWhile_cons,if_neg (by simpa using this)];rfl
  | q :: out, k, i + 1, h, hi => by
    unfold Z0i at hi ⊢;rw[List.takeWhile_cons] at hi ⊢
    split at hi
    · rename_i hq
      rw[if_pos hq];simp only[List.length_cons] at hi ⊢;have:=Z3k (out:=out) (k:=k) (i:=i) (fun p hp=>h p (by simpa using hp)) (by unfold Z0i;omega);unfold Z0i at this;omega
    simp at hi
theorem Z2i (least:Nat) (out:List (Nat × List UInt8)) (t:Nat × List UInt8):(ZW least out t).length≤out.length+1:=by
  have:=Z34 out t.1;unfold ZW;split
  · omega
  split
  · omega
  simp[List.length_take,List.length_drop];omega
theorem Z7Y {cs:List (List Value)} {k:Nat} {h:List Value} {c:List Value} (hk:k+1≤cs.length) (hc:cs[k]?=some c):(cs.take (k+1)++h::cs.drop (k+1)).set (k+1) c=cs.take k++c::cs.drop k:=by
  have h1:(cs.take (k+1)).length=k+1:=by rw[List.length_take];omega
  rw[List.set_append_right _ _ (by omega),h1,Nat.sub_self,List.set_cons_zero];have h2:cs.take (k+1)=cs.take k++[c]:=by rw[List.take_add_one,hc];rfl
  have h3:cs.drop k=c::cs.drop (k+1):=by
    have hlt:=(List.getElem?_eq_some_iff.1 hc).1;rw[List.drop_eq_getElem_cons hlt,(List.getElem?_eq_some_iff.1 hc).2]
  rw[h2,h3];simp
theorem hole_set {cs:List (List Value)} {k:Nat} {h c:List Value} (hk:k≤cs.length):(cs.take k++h::cs.drop k).set k c=cs.take k++c::cs.drop k:=by
  have h1:(cs.take k).length=k:=by rw[List.length_take];omega
  rw[List.set_append_right _ _ (by omega),h1,Nat.sub_self,List.set_cons_zero]
theorem hole_at {cs:List (List Value)} {k:Nat} {h:List Value} {c:List Value} (hk:k+1≤cs.length) (hc:cs[k]?=some c):(cs.take (k+1)++h::cs.drop (k+1))[k]?=some c:=by
  rw[List.getElem?_append_left (by rw[List.length_take];omega),List.getElem?_take,if_pos (by omega),hc]
theorem Z2j {cs:List (List Value)} {k:Nat} {h:List Value} (hl:∀ c ∈ cs,c.length=2) (hh:h.length=2):∀ c ∈ cs.take k++h::cs.drop k,c.length=2:=by
  intro c hc
  rcases List.mem_append.1 hc with hc | hc
  · exact hl c (List.mem_of_mem_take hc)
  rcases List.mem_cons.1 hc with rfl | hc
  · exact hh
  exact hl c (List.mem_of_mem_drop hc)
theorem Z1h {cs:List (List Value)} {k:Nat} {h:List Value} (hk:k≤cs.length):(cs.take k++h::cs.drop k).length=cs.length+1:=by
  rw[List.length_append,List.length_take,List.length_cons,List.length_drop];omega
theorem Own.blk_lt {w:World} {s sz n:Nat} {v:Value} {xs:List Value} (h:Own w (From s w) sz v n xs) {b:Nat} (hb:blk v=some b):s≤b∧b < w.heap.size:=by
  obtain ⟨_,⟨h,_⟩ | ⟨g,o,cap,hg,h,_⟩⟩:=h
  · rw[h] at hb;simp[blk] at hb
  rw[h] at hb;simp[blk] at hb;subst hb;exact hg
theorem wp_litS {P:Program} {a:Act} {w:World} {K:Act→World→Prop} {Q:Exit→Act→World→Prop} {d:Option Tmp} {t:TypeId} {p:String} {af:Array Edge} {g:Option (Nat × Bool)} {T e sz bs:Nat} {x:Operand} {c:List Value}
    (hT:Z3 P T e sz bs=true) (hsz:sz≤16777216) (hx:a.eval x = .agg c.toArray) (hl:c.length=sz)
    (k:∀ w',Fr [] w w'→w'.heap.size=w.heap.size+1→w'.rangeAt w.heap.size 0 c→K (a.put d (.slice (some ⟨w.heap.size,0,none⟩) 1 1)) w') :
    OW P ⟨d,.buildSlice T 1 #[(0,x)],t,p,af,g⟩ a w K Q:=by
  have hr:=ZE w c.toArray e (0,0);refine Z1u (xs:=[x]) (css:=[c]) hT rfl (by decide) (by omega) (by simp[hx,Value.cells]) (by simpa using hl) (k _ (Fr.alloc _ _ _) (Zb _ _) ?_)
  simpa using hr
end Go.Kq

namespace Go.Kq
open Go Go.Proofs
theorem Z4y {v:Value} {sz:Nat} (r:Rng) (h:r ∈ Z1 v sz):blk v=some r.b:=by
  unfold Z1 at h
  split at h
  · simp at h;subst h;rfl
  cases h
structure UnkM (P:Program) (f:FuncId):Prop where
  enters:Enters P f
  call:∀ (w:World) (A B:Nat→Prop) (v:Value) (fs:List Fd) (u:Value) (us:List (Nat × List UInt8)),FdsR w A v fs→(∀ f ∈ fs,f.tag < 4294967295)→Z1T w B u us→(∀ b,B b→b < w.heap.size) →
    Calls P f #[v,u] w fun e w'=>∃ x,e = .returned x∧Fr [] w w'∧Z1T w' (fun b=>B b∨From w.heap.size w' b) x (ZA fs us)
set_option maxHeartbeats 4000000 in
theorem Z7O {P:Program} {f:FuncId} {fn:Func} {T3 T24 T58 T60:TypeId} {f50:FuncId} {a0:Array TypeId} {i0 i1 i2 i3 i4 i5 i6 i7 i8 i9 i10 i11 i12 i14 i13 i15 i16 i17:Nat} {t0 t1 t2 t3 t4 t5 t6 t7 t8 t9 t10 t11 t12 t13 t14 t15 t16 t17 t18 t19 t20 t21 t22 t23 t24 t25 t26 t27 t28 t29 t30 t31 t32 t33 t34 t35 t36 t37 t38 t39 t40 t41 t42 t43 t44 t45 t46 t47 t48 t49 t50 t51 t52 t53 t54 t55 t56 t57 t58 t59 t60 t61 t62 t63 t64 t65 t66 t67 t68 t69 t70 t71 t72 t73 t74 t75 t76 t77 t78 t79 t80 t81 t82 t83 t84 t85 t86 t87:TypeId} {p0 p1 p2 p3 p4 p5 p6 p7 p8 p9 p10 p11 p12 p13 p14 p15 p16 p17 p18 p19 p20 p21 p22 p23 p24 p25 p26 p27 p28 p29 p30 p31 p32 p33 p34 p35 p36 p37 p38 p39 p40 p41 p42 p43 p44 p45 p46 p47 p48 p49 p50 p51 p52 p53 p54 p55 p56 p57 p58 p59 p60 p61 p62 p63 p64 p65 p66 p67 p68 p69 p70 p71 p72 p73 p74 p75 p76 p77 p78 p79 p80 p81 p82 p83 p84 p85 p86 p87:String} {e0 e1 e2 e3 e4 e5 e6 e7 e8 e9 e10 e11 e12 e13 e14 e15 e16 e17 e18 e19 e20 e21 e22 e23 e24 e25 e26 e27 e28 e29 e30 e31 e32 e33 e34 e35 e36 e37 e38 e39 e40 e41 e42 e43 e44 e45 e46 e47 e48 e49 e50 e51 e52 e53 e54 e55 e56 e57 e58 e59 e60 e61 e62 e63 e64 e65 e66 e67 e68 e69 e70 e71 e72 e73 e74 e75 e76 e77 e78 e79 e80 e81 e82 e83 e84 e85 e86 e87:Array Edge} {te:TypeId}
    (hf:P.funcs[f]?=some fn) (hname:nG fn=false) (hres:fn.results = #[.tmp 4]) (hN:fn.ntmps=85)
    (hbody:fn.body=some (.seq (Code.region i0 ⟨[oA 4 (.const (.slice none 0 0)) t0 p0 e0]⟩ false) (.seq (Code.region i1 ⟨[oM 11 0 t1 p1 e1,
    oC 12 f50 #[(.tmp 11)] a0 t2 p2 e2,
    oT 5 12 t3 p3 e3]⟩ false) (.seq (Code.region i2 ⟨[oA 6 (.const (.slice none 0 0)) t4 p4 e4]⟩ false) (.seq (.seq (Code.region i3 ⟨[oM 13 1 t5 p5 e5,
    oM 14 1 t6 p6 e6,⟨some 15,.call ⟨.builtin .len,#[(.tmp 14)],#[T24]⟩,t7,p7,e7,none⟩,⟨some 16,.call ⟨.builtin .min,#[(.tmp 15),(.const (.int .i64 32767))],#[T3,T3]⟩,t8,p8,e8,none⟩,⟨some 17,.slice T24 (.tmp 13) none (some (.tmp 16)) none,t9,p9,e9,none⟩,⟨some 18,.call ⟨.builtin .len,#[(.tmp 17)],#[T24]⟩,t10,p10,e10,none⟩,⟨some 19,.move (.const (.int .i64 0)),t11,p11,e11,none⟩]⟩ false) (.block 0 (.loop (.seq (Code.region i4 ⟨[⟨some 20,.binOp .lss T3 (.tmp 19) (.tmp 18) T3,t12,p12,e12,none⟩]⟩ false) (.seq (.cond (.tmp 20) .skip
  (.exit 0)) (.seq (.block 1 (.seq (Code.region i5 ⟨[⟨some 21,.indexAddr T24 (.tmp 17) (.tmp 19),t13,p13,e13,none⟩,
    oL 22 T60 21 t14 p14 e14,⟨some 8,.alloc T60,t15,p15,e15,none⟩,
    oS T60 8 22 t16 p16 e16]⟩ false) (.seq (Code.region i6 ⟨[oA 9 (.const (.int .i64 0)) t17 p17 e17]⟩ false) (.seq (.block 2 (.loop (.seq (.seq (Code.region i7 ⟨[oM 23 9 t18 p18 e18,
    oM 24 6 t19 p19 e19,⟨some 25,.call ⟨.builtin .len,#[(.tmp 24)],#[T24]⟩,t20,p20,e20,none⟩,⟨some 26,.binOp .lss T3 (.tmp 23) (.tmp 25) T3,t21,p21,e21,none⟩,
    oM 27 26 t22 p22 e22,⟨some 28,.move (.tmp 6),t23,p23,e23,some (4,true)⟩,⟨some 29,.move (.tmp 9),t24,p24,e24,some (4,true)⟩,⟨some 30,.indexAddr T24 (.tmp 28) (.tmp 29),t25,p25,e25,some (4,true)⟩,⟨some 31,.fieldAddr T60 (.tmp 30) 0,t26,p26,e26,some (4,true)⟩,⟨some 32,.load T58 (.tmp 31),t27,p27,e27,some (4,true)⟩,⟨some 33,.fieldAddr T60 (.tmp 8) 0,t28,p28,e28,some (4,true)⟩,⟨some 34,.load T58 (.tmp 33),t29,p29,e29,some (4,true)⟩,⟨some 35,.binOp .lss T58 (.tmp 32) (.tmp 34) T58,t30,p30,e30,some (4,true)⟩,⟨some 36,.pick (.tmp 27) (.tmp 35) (.const (.bool false)),t31,p31,e31,none⟩]⟩ true) (.cond (.tmp 36) .skip
  (.exit 2))) (.block 3 (Code.region i8 ⟨[oM 37 9 t32 p32 e32,⟨some 38,.binOp .add T3 (.tmp 37) (.const (.int .i64 1)) T3,t33,p33,e33,none⟩,
    oT 9 38 t34 p34 e34]⟩ false))))) (.seq (.seq (Code.region i9 ⟨[oF 39 T60 8 0 t35 p35 e35,
    oL 40 T58 39 t36 p36 e36,
    oM 41 5 t37 p37 e37,⟨some 42,.binOp .lss T58 (.tmp 40) (.tmp 41) T58,t38,p38,e38,none⟩,
    oM 43 42 t39 p39 e39,⟨some 44,.move (.tmp 9),t40,p40,e40,some (4,false)⟩,⟨some 45,.move (.tmp 6),t41,p41,e41,some (4,false)⟩,⟨some 46,.call ⟨.builtin .len,#[(.tmp 45)],#[T24]⟩,t42,p42,e42,some (4,false)⟩,⟨some 47,.binOp .lss T3 (.tmp 44) (.tmp 46) T3,t43,p43,e43,some (4,false)⟩,⟨some 48,.move (.tmp 47),t44,p44,e44,some (4,false)⟩,⟨some 49,.move (.tmp 6),t45,p45,e45,some (9,true)⟩,⟨some 50,.move (.tmp 9),t46,p46,e46,some (9,true)⟩,⟨some 51,.indexAddr T24 (.tmp 49) (.tmp 50),t47,p47,e47,some (9,true)⟩,⟨some 52,.fieldAddr T60 (.tmp 51) 0,t48,p48,e48,some (9,true)⟩,⟨some 53,.load T58 (.tmp 52),t49,p49,e49,some (9,true)⟩,⟨some 54,.fieldAddr T60 (.tmp 8) 0,t50,p50,e50,some (9,true)⟩,⟨some 55,.load T58 (.tmp 54),t51,p51,e51,some (9,true)⟩,⟨some 56,.binOp .eql T58 (.tmp 53) (.tmp 55) T58,t52,p52,e52,some (9,true)⟩,⟨some 57,.pick (.tmp 48) (.tmp 56) (.const (.bool false)),t53,p53,e53,some (4,false)⟩,⟨some 58,.pick (.tmp 43) (.const (.bool true)) (.tmp 57),t54,p54,e54,none⟩]⟩ true) (.cond (.tmp 58) (.exit 1) .skip)) (.seq (Code.region i10 ⟨[oM 59 6 t55 p55 e55,⟨some 60,.build T60 #[],t56,p56,e56,none⟩,⟨some 61,.buildSlice T24 1 #[(0,.tmp 60)],t57,p57,e57,none⟩,⟨some 62,.call ⟨.builtin .append,#[(.tmp 59),(.tmp 61)],#[T24,T24]⟩,t58,p58,e58,none⟩,
    oT 6 62 t59 p59 e59]⟩ false) (.seq (.seq (Code.region i11 ⟨[oM 63 6 t60 p60 e60,⟨some 64,.call ⟨.builtin .len,#[(.tmp 63)],#[T24]⟩,t61,p61,e61,none⟩,⟨some 65,.binOp .sub T3 (.tmp 64) (.const (.int .i64 1)) T3,t62,p62,e62,none⟩,
    oT 10 65 t63 p63 e63]⟩ false) (.block 4 (.loop (.seq (.seq (Code.region i12 ⟨[oM 66 10 t64 p64 e64,
    oM 67 9 t65 p65 e65,⟨some 68,.binOp .gtr T3 (.tmp 66) (.tmp 67) T3,t66,p66,e66,none⟩]⟩ false) (.cond (.tmp 68) .skip
  (.exit 4))) (.seq (.block 5 (Code.region i14 ⟨[oM 71 6 t67 p67 e67,
    oM 72 10 t68 p68 e68,
    oM 73 6 t69 p69 e69,
    oM 74 10 t70 p70 e70,⟨some 75,.binOp .sub T3 (.tmp 74) (.const (.int .i64 1)) T3,t71,p71,e71,none⟩,⟨some 76,.indexAddr T24 (.tmp 73) (.tmp 75),t72,p72,e72,none⟩,
    oL 77 T60 76 t73 p73 e73,⟨some 78,.indexAddr T24 (.tmp 71) (.tmp 72),t74,p74,e74,none⟩,
    oS T60 78 77 t75 p75 e75]⟩ false))
  (Code.region i13 ⟨[oM 69 10 t76 p76 e76,⟨some 70,.binOp .sub T3 (.tmp 69) (.const (.int .i64 1)) T3,t77,p77,e77,none⟩,
    oT 10 70 t78 p78 e78]⟩ false))))))
  (Code.region i15 ⟨[oM 79 6 t79 p79 e79,
    oM 80 9 t80 p80 e80,
    oL 81 T60 8 t81 p81 e81,⟨some 82,.indexAddr T24 (.tmp 79) (.tmp 80),t82,p82,e82,none⟩,
    oS T60 82 81 t83 p83 e83]⟩ false))))))))
  (Code.region i16 ⟨[⟨some 83,.binOp .add T3 (.tmp 19) (.const (.int .i64 1)) T3,t84,p84,e84,none⟩,
    oM 19 83 t85 p85 e85]⟩ false))))))) (.seq (Code.region i17 ⟨[oM 84 6 t86 p86 e86,
    oT 4 84 t87 p87 e87]⟩ false) .ret))))))
    (hsT24:slTy P T24=true) (hs_T24:Z3 P T24 te 2 32=true) (hFlT60:Flat P T60 zTag) (hz_T24:ZG P te zTag) (hcT58:scal P T58=true) (he9:Z0I 0 [e35,e36,e37,e38,e39,e40,e41,e42,e43,e44,e45,e46,e47,e48,e49,e50,e51,e52,e53,e54] [[],[0],[],[1,2],[3],[4],[4],[4,6],[4,5,7],[4,8],[9],[9],[9,10,11],[9,12],[9,13],[9],[9,15],[9,14,16],[4,9,17],[4,18]]=true) (hmx:P.follows .mixedOrders=true) (he7:Z0I 0 [e18,e19,e20,e21,e22,e23,e24,e25,e26,e27,e28,e29,e30,e31] [[],[],[1],[0,2],[3],[4],[4],[4,5,6],[4,7],[4,8],[4],[4,10],[4,9,11],[4,12]]=true) (hK:Z76 P f50):UnkM P f:=by
  refine ⟨enters_of hf hname hbody,?_⟩;intro w A B v fs u us hfs htag hus hB;obtain ⟨qu,capu,hu,hcu,hbu,hku⟩:=hus.sl2;subst hu;have hlt:=Z49 htag;refine calls_of_wp hf hbody ?_;generalize ha0:({ tmps:=#[v,Value.slice qu us.length capu]++Array.replicate (fn.ntmps - (#[v,Value.slice qu us.length capu]:Array Value).size) undef,defers:=[] }:Act)=a0;have hz0:a0.tmps.size=85:=by subst ha0;simp[hN]
  have hd0:a0.defers=[]:=by subst ha0;rfl
  have g0_0:get a0 0=v:=by subst ha0;exact gAr rfl
  have g0_1:get a0 1 = .slice qu us.length capu:=by subst ha0;exact gAr rfl
  refine wT fun K1 hK1=>?_;refine wC (wAs (v:=.slice none 0 0) rfl ?_);refine wEk hz0 hd0 fun a2 ha2 hz2 hd2=>?_;have g2_0:=kP ha2 g0_0;have g2_1:=kP ha2 g0_1;refine hK1 a2 w (tUp ?_);refine wT fun K3 hK3=>?_;refine wC (wMv (v:=v) (eK g2_0) ?_);refine wC (wCr (R:=fun x w'=>x = .int .u32 (Z7 fs:Nat)∧Fr [] w w') (vs:=#[v]) hK.enters (mX1 (eS hz2)) ((hK.call w A v fs hfs htag).mono (by rintro e w' ⟨rfl,hf⟩;exact ⟨_,rfl,rfl,hf⟩)) ?_);rintro x4 w4 ⟨rfl,f4⟩;have hF5:Fr [] w w4:=f4;refine wC (wAs (v:=.int .u32 ((Z7 fs:Nat):Int)) (eS hz2) ?_);refine wEk hz2 hd2 fun a6 ha6 hz6 hd6=>?_;have g6_1:=kP ha6 g2_1;have g6_5:get a6 5 = .int .u32 ((Z7 fs:Nat):Int):=kG ha6 hz2;refine hK3 a6 w4 (tUp ?_);refine wT fun K7 hK7=>?_;refine wC (wAs (v:=.slice none 0 0) rfl ?_);refine wEk hz6 hd6 fun a8 ha8 hz8 hd8=>?_;have g8_1:=kP ha8 g6_1;have g8_5:=kP ha8 g6_5;have g8_6:get a8 6 = .slice none 0 0:=kG ha8 hz6;refine hK7 a8 w4 (tUp ?_);refine tId (wp_seq_k fun K9 hK9=>?_);refine wS fun K10 hK10=>?_;refine wC (wMv (v:=.slice qu us.length capu) (eK g8_1) ?_);refine wC (wMv (v:=.slice qu us.length capu) (eK g8_1) ?_);refine wC (Zs (n:=us.length) hsT24 (eS hz8) ?_);refine wC (Z64 (k1:=.i64) (i:=us.length) (j:=32767) (eS hz8) rfl ?_);rw[show (if (32767:Int) < (us.length:Int) then (32767:Int) else us.length)=((min us.length 32767:Nat):Int) from by split <;> omega];refine wC (Z3b (k1:=.i64) (l:=min us.length 32767) hs_T24 (eS hz8) (eS hz8) (by omega) ?_);refine wC (Zs (n:=(min us.length 32767)) hsT24 (eS hz8) ?_);refine wC (wMv (v:=.int .i64 0) rfl ?_);refine wEk hz8 hd8 fun a11 ha11 hz11 hd11=>?_;have g11_5:=kP ha11 g8_5;have g11_6:=kP ha11 g8_6;have g11_17:get a11 17 = .slice qu (min us.length 32767) capu:=kG ha11 hz8;have g11_18:get a11 18 = .int .i64 (((min us.length 32767):Nat):Int):=kG ha11 hz8;have g11_19:get a11 19 = .int .i64 0:=kG ha11 hz8;refine hK10 a11 w4 ?_;refine wp_block (wp_loop_ghost (fun (m:Nat) a' w'=>∃ (j:Nat) (v6:Value) (cs:List (List Value)) (acc:List (Nat × List UInt8)),a'.tmps.size=85∧a'.defers=[]∧get a' 5 = .int .u32 ((Z7 fs:Nat):Int)∧get a' 6=v6∧get a' 17 = .slice qu (min us.length 32767) capu∧get a' 18 = .int .i64 ((min us.length 32767:Nat):Int)∧get a' 19 = .int .i64 (j:Int)∧j+m=(min us.length 32767)∧((us.take 32767).drop j).foldl (ZW (Z7 fs)) acc=ZA fs us∧acc.length≤j∧TgL w' B cs acc∧Own w' (From w.heap.size w') 2 v6 acc.length cs.flatten∧Fr [] w w') (min us.length 32767) ?_ ?_)
  · exact ⟨0,.slice none 0 0,[],[],hz11,hd11,g11_5,g11_6,g11_17,g11_18,g11_19,by omega,rfl,Nat.zero_le _,.nil,Own.nil,hF5⟩
  rintro m a12 w12 ⟨j,v6,cs,acc,hz12,hd12,g12_5,g12_6,g12_17,g12_18,g12_19,hjm,hacc,hal,htl,ho,hfw⟩;refine wS fun K13 hK13=>?_;refine wC (Z08 (k1:=.i64) (i:=(j:Int)) (j:=((min us.length 32767:Nat):Int)) (eK g12_19) (eK g12_18) ?_);refine wEk hz12 hd12 fun a14 ha14 hz14 hd14=>?_;have g14_5:=kP ha14 g12_5;have g14_6:=kP ha14 g12_6;have g14_17:=kP ha14 g12_17;have g14_18:=kP ha14 g12_18;have g14_19:=kP ha14 g12_19;have g14_20:get a14 20 = .bool (decide (((j:Int):Int) < (((min us.length 32767:Nat):Int):Int))):=kG ha14 hz12;refine hK13 a14 w12 ?_;refine wp_seq_k fun K15 hK15=>?_;refine wp_cond_split (t:=decide (((j:Int):Int) < (((min us.length 32767:Nat):Int):Int))) (eK g14_20) (fun hc16=>?_) (fun hc16=>?_)
  · have hjl : j < (min us.length 32767) := by simpa using hc16
    obtain ⟨⟨kk,x⟩,hp⟩:∃ p,us[j]?=some p:=⟨us[j]'(by omega),List.getElem?_eq_getElem (by omega)⟩;obtain ⟨bl,ol,xv,hq,hbl,hkk,hrl,hox⟩:=hku j kk x hp;have hdr:(us.take 32767).drop j=(kk,x)::(us.take 32767).drop (j+1):=by
      have h1:j < (us.take 32767).length:=by rw[List.length_take];omega
      rw[List.drop_eq_getElem_cons h1];congr 1;rw[List.getElem_take];rw[List.getElem?_eq_getElem (by omega)] at hp;exact Option.some.inj hp
    rw[hdr,List.foldl_cons] at hacc;refine wp_skip ?_;refine hK15 a14 w12 ?_;refine wp_seq_k fun K17 hK17=>?_;refine Zm ?_;refine wS fun K18 hK18=>?_;refine wC (Z14 (b:=bl) (o:=ol) (i:=j) hs_T24 (by rw[eTm,g14_17,hq]) (eK g14_19) hjl ?_);refine wC (Z8 (cs:=[.int .u32 ((kk:Nat):Int),xv]) (b:=bl) (o:=ol+j * 2) hFlT60 rfl (eS hz14) (hfw.range hrl .nil) ?_);refine wC (Z0A hFlT60 ?_);rintro w19 f19 sz19 r19 th19;have hF20:Fr [] w w19:=hfw.tr f19;have hL20_w12:Fr [] w12 w19:=(Fr.refl [] w12).tr f19;refine wC (Z0g (cs:=[.int .u32 ((kk:Nat):Int),xv]) (o:=0) hFlT60 rfl (eS hz14) (eS hz14) (by intro u hu;simp at hu;rcases hu with rfl | rfl <;> first | rfl | exact hox.one) th19 ?_);rintro w21 f21 sz21 r21 th21;have hF21:Fr [] w w21:=hF20.trans f21 (fun r hr=>.inl (by simp at hr;subst hr;have:=hfw.size;simp only;omega));have hL21_w12:Fr [] w12 w21:=hL20_w12.trans f21 (fun r hr=>.inl (by simp at hr;subst hr;have:=(Fr.refl [] w12).size;simp only;omega));refine wEk hz14 hd14 fun a22 ha22 hz22 hd22=>?_;have g22_5:=kP ha22 g14_5;have g22_6:=kP ha22 g14_6;have g22_8:get a22 8 = .pointer (some ⟨w12.heap.size,0,none⟩):=kG ha22 hz14;have g22_17:=kP ha22 g14_17;have g22_18:=kP ha22 g14_18;have g22_19:=kP ha22 g14_19;refine hK18 a22 w21 ?_;refine wS fun K23 hK23=>?_;refine wC (wAs (v:=.int .i64 0) rfl ?_);refine wEk hz22 hd22 fun a24 ha24 hz24 hd24=>?_;have g24_5:=kP ha24 g22_5;have g24_6:=kP ha24 g22_6;have g24_8:=kP ha24 g22_8;have g24_9:get a24 9 = .int .i64 0:=kG ha24 hz22;have g24_17:=kP ha24 g22_17;have g24_18:=kP ha24 g22_18;have g24_19:=kP ha24 g22_19;refine hK23 a24 w21 ?_;refine wp_seq_k fun K25 hK25=>?_;have hbne:blk v6 ≠ some w12.heap.size:=fun e=>by have:=ho.blk_lt e;have:=(Fr.refl [] w12).size;omega
    have hJ26:∀ (a':Act) (w':World),(∃ (i:Nat),a'.tmps.size=85∧a'.defers=[]∧get a' 5 = .int .u32 ((Z7 fs:Nat):Int)∧get a' 6=v6∧get a' 8 = .pointer (some ⟨w12.heap.size,0,none⟩)∧get a' 9 = .int .i64 (i:Int)∧get a' 17 = .slice qu (min us.length 32767) capu∧get a' 18 = .int .i64 ((min us.length 32767:Nat):Int)∧get a' 19 = .int .i64 (j:Int)∧i=Z0i acc kk∧TgL w' B cs acc∧Own w' (From w.heap.size w') 2 v6 acc.length cs.flatten∧w'.rangeAt w12.heap.size 0 [.int .u32 ((kk:Nat):Int),xv]∧OctE w' B xv x∧Fr [] w w'∧w12.heap.size < w'.heap.size)→K25 a' w':=by
      rintro a26 w26 ⟨i,hz26,hd26,g26_5,g26_6,g26_8,g26_9,g26_17,g26_18,g26_19,hia,htl3,ho3,hbx3,hox3,hfw3,hbs3⟩;refine hK25 a26 w26 ?_;refine wp_seq_k fun K27 hK27=>?_;have hJ28:∀ (a':Act) (w':World),(a'.tmps.size=85∧a'.defers=[]∧get a' 5 = .int .u32 ((Z7 fs:Nat):Int)∧get a' 6=v6∧get a' 8 = .pointer (some ⟨w12.heap.size,0,none⟩)∧get a' 9 = .int .i64 (i:Int)∧get a' 17 = .slice qu (min us.length 32767) capu∧get a' 18 = .int .i64 ((min us.length 32767:Nat):Int)∧get a' 19 = .int .i64 (j:Int)∧ZW (Z7 fs) acc (kk,x)=acc.take i++(kk,x)::acc.drop i∧TgL w' B cs acc∧Own w' (From w.heap.size w') 2 v6 acc.length cs.flatten∧w'.rangeAt w12.heap.size 0 [.int .u32 ((kk:Nat):Int),xv]∧OctE w' B xv x∧Fr [] w w'∧w12.heap.size < w'.heap.size)→K27 a' w':=by
        rintro a28 w28 ⟨hz28,hd28,g28_5,g28_6,g28_8,g28_9,g28_17,g28_18,g28_19,hins,htl5,ho5,hbx5,hox5,hfw5,hbs5⟩;have htl3:=htl5;have ho3:=ho5;have hox3:=hox5;have hbs3:=hbs5;refine hK27 a28 w28 ?_;refine wS fun K29 hK29=>?_;refine wC (wMv (v:=v6) (eK g28_6) ?_);refine wC (Z5j (z:=zTag) hFlT60 ?_);refine wC (wp_litS (c:=zTag) hs_T24 (by decide) (eS hz28) rfl ?_);rintro w30 f30 sz30 r30;have hF31:Fr [] w w30:=hfw5.tr f30;have hL31_w28:Fr [] w28 w30:=(Fr.refl [] w28).tr f30;have rb32:=f30.range hbx5 .nil;rw[wCo];have ho4:=ho3.upTo hL31_w28 (From.mono hL31_w28.size);have htl4:=htl3.kept hL31_w28 (by simp);have hox4:=hox3.kept hL31_w28 (by simp) (fun _ h=>h);refine Z3Q (z:=zTag) (m:=1) (news:=zTag) hs_T24 hz_T24 rfl (eS hz28) (eS hz28) ho4 (by decide) rfl r30 (by simp[zTag,Value.oneCell']) (by omega) (by simp only[maxLen];omega) ?_;intro v7 w33 fa7 oa7 bk7 _;have hbx7:=fa7.range rb32 (fun r hr=>.inl fun e=>hbne (by rw[← e];exact Z4y r hr));have htl7:TgL w33 B cs acc:=htl4.kept fa7 (fun r hr hb=>by have:=hB _ hb;have:=ho4.spare_in r hr;have:=this.1;omega);have hox7:=hox4.kept fa7 (A':=B) (fun r hr hb=>by have:=hB _ hb;have:=ho4.spare_in r hr;have:=this.1;omega) (fun _ h=>h);have hF7:Fr [] w w33:=Z0G hF31 fa7 ho4 (fun b hb=>hb.1);have ho7:Own w33 (From w.heap.size w33) 2 v7 (cs.take acc.length++zTag::cs.drop acc.length).length (cs.take acc.length++zTag::cs.drop acc.length).flatten:=by
          have hl:=htl7.len;rw[Z1h (by omega),← hl,List.take_length,List.drop_length,List.flatten_append,hl];simpa using oa7.imp_A (Z32 hF31.size fa7.size)
        have hbne7:blk v7 ≠ some w12.heap.size:=by rcases bk7 with h | h <;> rw[h];exact hbne;(have:=hL31_w28.size;intro e;simp at e;omega)
        have hbs7:=Nat.lt_of_lt_of_le hbs3 (Nat.le_trans hL31_w28.size fa7.size);have hall7:=Z2j (k:=acc.length) (h:=zTag) htl7.all rfl;obtain ⟨g7,o7,c7,hv7,hg7,hb7,-,-⟩:=ho7.elt hall7 rfl (k:=0) (c:=(cs.take acc.length++zTag::cs.drop acc.length)[0]'(by rw[Z1h (by have:=htl7.len;omega)];omega)) (by simp);rw[Z1h (by have:=htl7.len;omega),htl7.len] at hv7 ho7;have hne7:g7 ≠ w12.heap.size:=fun e=>hbne7 (by rw[hb7,e]);refine wC (wAs (v:=v7) (eS hz28) ?_);refine wEk hz28 hd28 fun a34 ha34 hz34 hd34=>?_;have g34_5:=kP ha34 g28_5;have g34_6:get a34 6=v7:=kG ha34 hz28;have g34_8:=kP ha34 g28_8;have g34_9:=kP ha34 g28_9;have g34_17:=kP ha34 g28_17;have g34_18:=kP ha34 g28_18;have g34_19:=kP ha34 g28_19;refine hK29 a34 w33 ?_;refine wp_seq_k fun K35 hK35=>?_;refine wp_seq_k fun K36 hK36=>?_;rw[hv7] at g34_6;refine Z2 ?_;refine wC (wMv (v:=.slice (some ⟨g7,o7,none⟩) (acc.length+1) c7) (eK g34_6) ?_);refine wC (Zs (n:=(acc.length+1)) hsT24 (eS hz34) ?_);refine wC (Z1O (k1:=.i64) (i:=(((acc.length+1):Nat):Int)) (j:=1) (eS hz34) rfl ?_);rw[show (IntKind.i64.wrap (((((acc.length+1):Nat):Int):Int) - (1:Int)):Int)=(((acc.length:Nat):Int):Int) from by simp only[IntKind.wrap,IntKind.bits,IntKind.signed];simp;omega];refine wC (wAs (v:=.int .i64 ((acc.length:Nat):Int)) (eS hz34) ?_);refine wEk hz34 hd34 fun a37 ha37 hz37 hd37=>?_;have g37_5:=kP ha37 g34_5;have g37_6:=kP ha37 g34_6;have g37_8:=kP ha37 g34_8;have g37_9:=kP ha37 g34_9;have g37_10:get a37 10 = .int .i64 ((acc.length:Nat):Int):=kG ha37 hz34;have g37_17:=kP ha37 g34_17;have g37_18:=kP ha37 g34_18;have g37_19:=kP ha37 g34_19;refine hK36 a37 w33 ?_;have hln:=htl7.len;have hil:=Z34 acc kk;rw[show ((acc.length:Nat):Int)=((i+(acc.length - i):Nat):Int) from by omega] at g37_10;refine wp_block (wp_loop_ghost (fun (k:Nat) a' w'=>∃ (h:List Value),a'.tmps.size=85∧a'.defers=[]∧get a' 5 = .int .u32 ((Z7 fs:Nat):Int)∧get a' 6 = .slice (some ⟨g7,o7,none⟩) (acc.length+1) c7∧get a' 8 = .pointer (some ⟨w12.heap.size,0,none⟩)∧get a' 9 = .int .i64 (i:Int)∧get a' 10 = .int .i64 ((i+k:Nat):Int)∧get a' 17 = .slice qu (min us.length 32767) capu∧get a' 18 = .int .i64 ((min us.length 32767:Nat):Int)∧get a' 19 = .int .i64 (j:Int)∧i+k≤acc.length∧h.length=2∧Own w' (From w.heap.size w') 2 v7 (acc.length+1) (cs.take (i+k)++h::cs.drop (i+k)).flatten∧TgL w' B cs acc∧w'.rangeAt w12.heap.size 0 [.int .u32 ((kk:Nat):Int),xv]∧OctE w' B xv x∧Fr [] w w'∧w12.heap.size < w'.heap.size) (acc.length - i) ?_ ?_)
        · exact ⟨zTag,hz37,hd37,g37_5,g37_6,g37_8,g37_9,g37_10,g37_17,g37_18,g37_19,by omega,rfl,by rw[show i+(acc.length - i)=acc.length from by omega];exact ho7.upTo (Fr.refl [] w33) (From.mono (Fr.refl [] w33).size),htl7.kept (Fr.refl [] w33) (by simp),hbx7,hox7.kept (Fr.refl [] w33) (by simp) (fun _ h=>h),hF7,Nat.lt_of_lt_of_le hbs7 (Fr.refl [] w33).size⟩
        rintro k a38 w38 ⟨h,hz38,hd38,g38_5,g38_6,g38_8,g38_9,g38_10,g38_17,g38_18,g38_19,hik,hh9,ho9,htl9,hbx9,hox9,hfw9,hbs9⟩;refine wp_seq_k fun K39 hK39=>?_;refine wS fun K40 hK40=>?_;refine wC (wMv (v:=.int .i64 ((i+k:Nat):Int)) (eK g38_10) ?_);refine wC (wMv (v:=.int .i64 (i:Int)) (eK g38_9) ?_);refine wC (Z2o (k1:=.i64) (i:=((i+k:Nat):Int)) (j:=(i:Int)) (eS hz38) (eS hz38) ?_);refine wEk hz38 hd38 fun a41 ha41 hz41 hd41=>?_;have g41_5:=kP ha41 g38_5;have g41_6:=kP ha41 g38_6;have g41_8:=kP ha41 g38_8;have g41_9:=kP ha41 g38_9;have g41_10:=kP ha41 g38_10;have g41_17:=kP ha41 g38_17;have g41_18:=kP ha41 g38_18;have g41_19:=kP ha41 g38_19;have g41_68:get a41 68 = .bool (decide ((((i+k:Nat):Int):Int) > ((i:Int):Int))):=kG ha41 hz38;refine hK40 a41 w38 ?_;refine wp_cond_split (t:=decide ((((i+k:Nat):Int):Int) > ((i:Int):Int))) (eK g41_68) (fun hc42=>?_) (fun hc42=>?_)
        · obtain ⟨k,rfl⟩:∃ k',k=k'+1:=⟨k - 1,by simp at hc42;omega⟩;have hnl:=htl9.len;obtain ⟨c,hc⟩:∃ c,cs[i+k]?=some c:=⟨cs[i+k]'(by omega),List.getElem?_eq_getElem (by omega)⟩;have hc2:=htl9.all c (List.mem_of_getElem? hc);refine wp_skip ?_;refine hK39 a41 w38 ?_;refine wp_seq_k fun K43 hK43=>?_;refine Zm ?_;refine Z2 ?_;refine wC (wMv (v:=.slice (some ⟨g7,o7,none⟩) (acc.length+1) c7) (eK g41_6) ?_);refine wC (wMv (v:=.int .i64 ((i+(k+1):Nat):Int)) (eK g41_10) ?_);refine wC (wMv (v:=.slice (some ⟨g7,o7,none⟩) (acc.length+1) c7) (eK g41_6) ?_);refine wC (wMv (v:=.int .i64 ((i+(k+1):Nat):Int)) (eK g41_10) ?_);refine wC (Z1O (k1:=.i64) (i:=((i+(k+1):Nat):Int)) (j:=1) (eS hz41) rfl ?_);rw[show (IntKind.i64.wrap ((((i+(k+1):Nat):Int):Int) - (1:Int)):Int)=(((i+k:Nat):Int):Int) from by simp only[IntKind.wrap,IntKind.bits,IntKind.signed];simp;omega];refine wC (Z14 (b:=g7) (o:=o7) (i:=(i+k)) hs_T24 (eS hz41) (eS hz41) (by omega) ?_);rw[wCo];obtain ⟨g1,o1,c1,hv1,hg1,hb1,hr1,-⟩:=ho9.elt (Z2j htl9.all hh9) (by rw[Z1h (by omega),hnl]) (hole_at (h:=h) (show i+k+1≤cs.length by omega) hc);rw[hv7] at hv1;cases hv1;refine Z8 (cs:=c) (b:=g7) (o:=o7+(i+k) * 2) hFlT60 (by rw[hc2];rfl) (eS hz41) ((Fr.refl [] w38).range hr1 .nil) ?_;refine wC (Z14 (b:=g7) (o:=o7) (i:=(i+(k+1))) hs_T24 (eS hz41) (eS hz41) (by omega) ?_);rw[wCo];obtain ⟨g2,o2,c2,hv2,hg2,hb2,-,ht2⟩:=ho9.elt (k:=i+(k+1)) (c:=h) (Z2j htl9.all hh9) (by rw[Z1h (by omega),hnl]) (by rw[List.getElem?_append_right (by rw[List.length_take];omega),List.length_take];simp[show i+(k+1) - min (i+(k+1)) cs.length=0 from by omega]);rw[hv7] at hv2;cases hv2;obtain ⟨pc,hpc⟩:∃ p,acc[i+k]?=some p:=⟨acc[i+k]'(by omega),List.getElem?_eq_getElem (by omega)⟩;obtain ⟨c',hc',htc⟩:=htl9.at hpc;rw[hc] at hc';cases hc';refine Z0g (cs:=c) (b:=g7) (o:=o7+(i+(k+1)) * 2) hFlT60 (by rw[hc2];rfl) (eS hz41) (eS hz41) htc.ones ((Fr.refl [] w38).there ht2) ?_;rintro w44 f44 sz44 r44 th44;have hgw:w.heap.size≤g7:=hg7.1;have hF44:Fr [] w w44:=hfw9.trans f44 (fun r hr=>.inl (by simp at hr;subst hr;exact hgw));have hoN:Own w44 (From w.heap.size w44) 2 v7 (acc.length+1) (cs.take (i+k)++c::cs.drop (i+k)).flatten:=by
            have h1:=(ho9.upTo (Fr.refl [] w38) (From.mono (Fr.refl [] w38).size)).setElt (k:=i+(k+1)) (c:=c) hv7 (Z2j htl9.all hh9) (by rw[Z1h (by omega),hnl]) (by omega) f44 r44 hc2;rw[show i+(k+1)=i+k+1 from by omega] at h1;rw[Z7Y (by omega) hc] at h1;exact h1.imp_A (From.mono f44.size)
          have htN:TgL w44 B cs acc:=(htl9.kept (Fr.refl [] w38) (by simp)).kept f44 (by intro r hr hb;simp at hr;subst hr;have:=hB _ hb;simp only at this;omega);have hxN:=(hox9.kept (Fr.refl [] w38) (by simp) (fun _ h=>h)).kept (A':=B) f44 (by intro r hr hb;simp at hr;subst hr;have:=hB _ hb;simp only at this;omega) (fun _ h=>h);have hbN:=f44.range hbx9 (.cons (.inl hne7) .nil);have hsN:=Nat.lt_of_lt_of_le hbs9 (Nat.le_trans (Fr.refl [] w38).size f44.size);refine wEk hz41 hd41 fun a45 ha45 hz45 hd45=>?_;have g45_5:=kP ha45 g41_5;have g45_6:=kP ha45 g41_6;have g45_8:=kP ha45 g41_8;have g45_9:=kP ha45 g41_9;have g45_10:=kP ha45 g41_10;have g45_17:=kP ha45 g41_17;have g45_18:=kP ha45 g41_18;have g45_19:=kP ha45 g41_19;refine hK43 a45 w44 ?_;refine Z2 ?_;refine wC (wMv (v:=.int .i64 ((i+(k+1):Nat):Int)) (eK g45_10) ?_);refine wC (Z1O (k1:=.i64) (i:=((i+(k+1):Nat):Int)) (j:=1) (eS hz45) rfl ?_);rw[show (IntKind.i64.wrap ((((i+(k+1):Nat):Int):Int) - (1:Int)):Int)=(((i+k:Nat):Int):Int) from by simp only[IntKind.wrap,IntKind.bits,IntKind.signed];simp;omega];refine wC (wAs (v:=.int .i64 ((i+k:Nat):Int)) (eS hz45) ?_);refine wEk hz45 hd45 fun a46 ha46 hz46 hd46=>?_;have g46_5:=kP ha46 g45_5;have g46_6:=kP ha46 g45_6;have g46_8:=kP ha46 g45_8;have g46_9:=kP ha46 g45_9;have g46_10:get a46 10 = .int .i64 ((i+k:Nat):Int):=kG ha46 hz45;have g46_17:=kP ha46 g45_17;have g46_18:=kP ha46 g45_18;have g46_19:=kP ha46 g45_19;exact ⟨k,by omega,c,hz46,hd46,g46_5,g46_6,g46_8,g46_9,g46_10,g46_17,g46_18,g46_19,by omega,hc2,hoN.upTo (Fr.refl [] w44) (From.mono (Fr.refl [] w44).size),htN.kept (Fr.refl [] w44) (by simp),(Fr.refl [] w44).range hbN .nil,hxN.kept (Fr.refl [] w44) (by simp) (fun _ h=>h),hF44,Nat.lt_of_lt_of_le hsN (Fr.refl [] w44).size⟩
        have hk0:k=0:=by simp at hc42;omega
        subst hk0;simp only[Nat.add_zero] at ho9 hik g41_10;refine wp_exit ?_;show K35 a41 w38
        refine hK35 a41 w38 ?_;refine Z2 ?_;refine wC (wMv (v:=.slice (some ⟨g7,o7,none⟩) (acc.length+1) c7) (eK g41_6) ?_);refine wC (wMv (v:=.int .i64 (i:Int)) (eK g41_9) ?_);refine wC (Z8 (cs:=[.int .u32 ((kk:Nat):Int),xv]) (b:=w12.heap.size) (o:=0) hFlT60 rfl (eK g41_8) hbx9 ?_);refine wC (Z14 (b:=g7) (o:=o7) (i:=i) hs_T24 (eS hz41) (eS hz41) (by have:=Z34 acc kk;omega) ?_);rw[wCo];have hnl:=htl9.len;have hilA:=Z34 acc kk;obtain ⟨g2,o2,c2,hv2,hg2,hb2,-,ht2⟩:=ho9.elt (k:=i) (c:=h) (Z2j htl9.all hh9) (by rw[Z1h (by omega),hnl]) (by rw[List.getElem?_append_right (by rw[List.length_take];omega),List.length_take];simp[show i - min i cs.length=0 from by omega]);rw[hv7] at hv2;cases hv2;refine Z0g (cs:=[.int .u32 ((kk:Nat):Int),xv]) (b:=g7) (o:=o7+i * 2) hFlT60 rfl (eS hz41) (eS hz41) (by intro u hu;simp at hu;rcases hu with rfl | rfl <;> first | rfl | exact hox.one) ((Fr.refl [] w38).there ht2) ?_;rintro w47 f47 sz47 r47 th47;have hgw:w.heap.size≤g7:=hg7.1;have hF47:Fr [] w w47:=hfw9.trans f47 (fun r hr=>.inl (by simp at hr;subst hr;exact hgw));have hoN:Own w47 (From w.heap.size w47) 2 v7 (acc.length+1) (cs.take i++[.int .u32 ((kk:Nat):Int),xv]::cs.drop i).flatten:=by
          have h1:=(ho9.upTo (Fr.refl [] w38) (From.mono (Fr.refl [] w38).size)).setElt (k:=i) (c:=[.int .u32 ((kk:Nat):Int),xv]) hv7 (Z2j htl9.all hh9) (by rw[Z1h (by omega),hnl]) (by omega) f47 r47 rfl;rw[hole_set (by omega)] at h1;exact h1.imp_A (From.mono f47.size)
        have htN:TgL w47 B (cs.take i++[.int .u32 ((kk:Nat):Int),xv]::cs.drop i) (acc.take i++(kk,x)::acc.drop i):=by
          have hnB:∀ r ∈ ([⟨g7,o7+i * 2,o7+i * 2+zTag.length⟩]:List Rng),¬ B r.b:=by intro r hr hb;simp at hr;subst hr;have:=hB _ hb;simp only at this;omega
          exact ((htl9.kept (Fr.refl [] w38) (by simp)).kept f47 hnB).ins (p:=(kk,x)) ⟨xv,rfl,hkk,((hox9.kept (Fr.refl [] w38) (by simp) (fun _ h=>h):OctE _ B xv x).kept f47 hnB (fun _ h=>h))⟩ i
        refine wEk hz41 hd41 fun a48 ha48 hz48 hd48=>?_;have g48_5:=kP ha48 g41_5;have g48_6:=kP ha48 g41_6;have g48_17:=kP ha48 g41_17;have g48_18:=kP ha48 g41_18;have g48_19:=kP ha48 g41_19;rw[← hv7] at g48_6;refine hK17 a48 w47 ?_;refine Z2 ?_;refine wC (ZJ (k1:=.i64) (i:=(j:Int)) (j:=1) (eK g48_19) rfl ?_);rw[show (IntKind.i64.wrap (((j:Int):Int)+(1:Int)):Int)=(((j+1:Nat):Int):Int) from by simp only[IntKind.wrap,IntKind.bits,IntKind.signed];simp;omega];refine wC (wMv (v:=.int .i64 ((j+1:Nat):Int)) (eS hz48) ?_);refine wEk hz48 hd48 fun a49 ha49 hz49 hd49=>?_;have g49_5:=kP ha49 g48_5;have g49_6:=kP ha49 g48_6;have g49_17:=kP ha49 g48_17;have g49_18:=kP ha49 g48_18;have g49_19:get a49 19 = .int .i64 ((j+1:Nat):Int):=kG ha49 hz48;refine ⟨m - 1,by omega,j+1,_,_,(acc.take i++(kk,x)::acc.drop i),hz49,hd49,g49_5,g49_6,g49_17,g49_18,g49_19,by omega,?_,?_,htN.kept (Fr.refl [] w47) (by simp),by have:=hoN.upTo (Fr.refl [] w47) (From.mono (Fr.refl [] w47).size);rw[show (acc.take i++(kk,x)::acc.drop i).length=acc.length+1 from by rw[List.length_append,List.length_take,List.length_cons,List.length_drop];have:=Z34 acc kk;omega];exact this,hF47⟩
        · rw[← hacc,hins]
        have:=Z2i (Z7 fs) acc (kk,x);rw[hins] at this;omega
      refine wp_seq_k fun K50 hK50=>?_
      by_cases h3:kk < Z7 fs
      · refine Z0n [spC [] (.pointer (some ⟨w12.heap.size, 0, none⟩)), spC [0] (.int .u32 ((kk : Nat) : Int)), spC [] (.int .u32 ((Z7 fs : Nat) : Int)), spC [1, 2] (.bool true), spC [3] (.bool true), spC [4] (undef), spC [4] (undef), spC [4, 6] (undef), spC [4, 5, 7] (undef), spC [4, 8] (undef), spC [9] (undef), spC [9] (undef), spC [9, 10, 11] (undef), spC [9, 12] (undef), spC [9, 13] (undef), spC [9] (undef), spC [9, 15] (undef), spC [9, 14, 16] (undef), spC [4, 9, 17] (undef), spC [4, 18] (.bool true)] 39 [] hmx he9 (by simp [Z0B]) (by simp [spC, spR]) (by simp; omega) ⟨lCc _ _ _, lCc _ _ _, lCc _ _ _, lCc _ _ _, lCc _ _ _, lCc _ _ _, lCc _ _ _, lCc _ _ _, lCc _ _ _, lCc _ _ _, lCc _ _ _, lCc _ _ _, lCc _ _ _, lCc _ _ _, lCc _ _ _, lCc _ _ _, lCc _ _ _, lCc _ _ _, lCc _ _ _, lCc _ _ _, trivial⟩ ?_ ?_
        · refine oCs ?_ ?_
          · refine op_c fun a' w' hk' hf' hd' K' hK'=>?_;refine wFa (b:=w12.heap.size) (i:=0) (hFlT60.fld (by decide)) (by rw[eTm,hk'.get 8 (by omega),g26_8]) ?_;rw[show (0+0:Nat)=0 from rfl];exact hK'
          refine oCs ?_ ?_
          · refine op_c fun a' w' hk' hf' hd' K' hK'=>?_;refine wL0 (j:=0) (v:=.int .u32 ((kk:Nat):Int)) hcT58 (by rw[eTm];exact hd'.c (nd':=[]) 0 (by simp) rfl) (hf'.range hbx3 .nil) rfl ?_;exact hK'
          refine oCs ?_ ?_
          · refine op_c fun a' w' hk' hf' hd' K' hK'=>?_;refine wMv (v:=.int .u32 ((Z7 fs:Nat):Int)) (by rw[eTm,hk'.get 5 (by omega),g26_5]) ?_;exact hK'
          refine oCs ?_ ?_
          · refine op_c fun a' w' hk' hf' hd' K' hK'=>?_;refine Z1X (k1:=.u32) (i:=((kk:Nat):Int)) (j:=((Z7 fs:Nat):Int)) (by omega) (by rw[eTm];exact hd'.c (nd':=[0]) 1 (by simp) rfl) (by rw[eTm];exact hd'.c (nd':=[]) 2 (by simp) rfl) ?_;exact hK'
          refine oCs ?_ ?_
          · refine op_c fun a' w' hk' hf' hd' K' hK'=>?_;refine wMv (v:=.bool true) (by rw[eTm];exact hd'.c (nd':=[1,2]) 3 (by simp) rfl) ?_;exact hK'
          refine oCs ?_ ?_
          · exact Z0y rfl (by decide) (fun a w h=>h.c (nd':=[3]) 4 (by simp) rfl)
          refine oCs ?_ ?_
          · exact Z0y rfl (by decide) (fun a w h=>h.c (nd':=[3]) 4 (by simp) rfl)
          refine oCs ?_ ?_
          · exact Z0y rfl (by decide) (fun a w h=>h.c (nd':=[3]) 4 (by simp) rfl)
          refine oCs ?_ ?_
          · exact Z0y rfl (by decide) (fun a w h=>h.c (nd':=[3]) 4 (by simp) rfl)
          refine oCs ?_ ?_
          · exact Z0y rfl (by decide) (fun a w h=>h.c (nd':=[3]) 4 (by simp) rfl)
          refine oCs ?_ ?_
          · exact Z5E rfl (by decide) (fun a w h=>h.c (nd':=[4,8]) 9 (by simp) rfl)
          refine oCs ?_ ?_
          · exact Z5E rfl (by decide) (fun a w h=>h.c (nd':=[4,8]) 9 (by simp) rfl)
          refine oCs ?_ ?_
          · exact Z5E rfl (by decide) (fun a w h=>h.c (nd':=[4,8]) 9 (by simp) rfl)
          refine oCs ?_ ?_
          · exact Z5E rfl (by decide) (fun a w h=>h.c (nd':=[4,8]) 9 (by simp) rfl)
          refine oCs ?_ ?_
          · exact Z5E rfl (by decide) (fun a w h=>h.c (nd':=[4,8]) 9 (by simp) rfl)
          refine oCs ?_ ?_
          · exact Z5E rfl (by decide) (fun a w h=>h.c (nd':=[4,8]) 9 (by simp) rfl)
          refine oCs ?_ ?_
          · exact Z5E rfl (by decide) (fun a w h=>h.c (nd':=[4,8]) 9 (by simp) rfl)
          refine oCs ?_ ?_
          · exact Z5E rfl (by decide) (fun a w h=>h.c (nd':=[4,8]) 9 (by simp) rfl)
          refine oCs ?_ ?_
          · exact Z0y rfl (by decide) (fun a w h=>h.c (nd':=[3]) 4 (by simp) rfl)
          refine oCs ?_ ?_
          · refine op_c fun a' w' hk' hf' hd' K' hK'=>?_;refine Zv (v:=.bool true) (by rw[eTm];exact hd'.c (nd':=[3]) 4 (by simp) rfl) rfl ?_;exact hK'
          exact ZY
        intro a51 w51 k51 f51 hd_51;have g51_5:get a51 5 = .int .u32 ((Z7 fs:Nat):Int):=by rw[k51.get 5 (by omega),g26_5]
        have g51_6:get a51 6=v6:=by rw[k51.get 6 (by omega),g26_6]
        have g51_17:get a51 17 = .slice qu (min us.length 32767) capu:=by rw[k51.get 17 (by omega),g26_17]
        have g51_18:get a51 18 = .int .i64 ((min us.length 32767:Nat):Int):=by rw[k51.get 18 (by omega),g26_18]
        have g51_19:get a51 19 = .int .i64 (j:Int):=by rw[k51.get 19 (by omega),g26_19]
        have hz51:a51.tmps.size=85:=k51.size.trans hz26;have hd51:a51.defers=[]:=k51.defers.trans hd26;have g51_58:get a51 58 = .bool true:=hd_51.c (nd':=[4,18]) 19 (by simp) rfl;have hF52:Fr [] w w51:=hfw3.tr f51;have hL52_w26:Fr [] w26 w51:=(Fr.refl [] w26).tr f51;have rb53:=f51.range hbx3 .nil;refine hK50 a51 w51 ?_;refine wp_cond_split (t:=true) (eK g51_58) (fun _=>?_) (fun h=>by cases h);refine wp_exit ?_;show K17 a51 w51
        refine hK17 a51 w51 ?_;refine Z2 ?_;refine wC (ZJ (k1:=.i64) (i:=(j:Int)) (j:=1) (eK g51_19) rfl ?_);rw[show (IntKind.i64.wrap (((j:Int):Int)+(1:Int)):Int)=(((j+1:Nat):Int):Int) from by simp only[IntKind.wrap,IntKind.bits,IntKind.signed];simp;omega];refine wC (wMv (v:=.int .i64 ((j+1:Nat):Int)) (eS hz51) ?_);refine wEk hz51 hd51 fun a55 ha55 hz55 hd55=>?_;have g55_5:=kP ha55 g51_5;have g55_6:=kP ha55 g51_6;have g55_17:=kP ha55 g51_17;have g55_18:=kP ha55 g51_18;have g55_19:get a55 19 = .int .i64 ((j+1:Nat):Int):=kG ha55 hz51;refine ⟨m - 1,by omega,j+1,_,_,acc,hz55,hd55,g55_5,g55_6,g55_17,g55_18,g55_19,by omega,?_,?_,htl3.kept hL52_w26 (by simp),ho3.upTo hL52_w26 (From.mono hL52_w26.size),hF52⟩
        · rw[← hacc,show ZW (Z7 fs) acc (kk,x)=acc from by unfold ZW;rw[if_pos h3]]
        have:=Z2i (Z7 fs) acc (kk,x);rw[show ZW (Z7 fs) acc (kk,x)=acc from by unfold ZW;rw[if_pos h3]] at this;omega
      by_cases h4:i < acc.length;rotate_left
      · refine Z0n [spC [] (.pointer (some ⟨w12.heap.size, 0, none⟩)), spC [0] (.int .u32 ((kk : Nat) : Int)), spC [] (.int .u32 ((Z7 fs : Nat) : Int)), spC [1, 2] (.bool false), spC [3] (.bool false), spC [4] (.int .i64 (i : Int)), spC [4] (v6), spC [4, 6] (.int .i64 (acc.length : Int)), spC [4, 5, 7] (.bool false), spC [4, 8] (.bool false), spC [9] (undef), spC [9] (undef), spC [9, 10, 11] (undef), spC [9, 12] (undef), spC [9, 13] (undef), spC [9] (undef), spC [9, 15] (undef), spC [9, 14, 16] (undef), spC [4, 9, 17] (.bool false), spC [4, 18] (.bool false)] 39 [] hmx he9 (by simp [Z0B]) (by simp [spC, spR]) (by simp; omega) ⟨lCc _ _ _, lCc _ _ _, lCc _ _ _, lCc _ _ _, lCc _ _ _, lCc _ _ _, lCc _ _ _, lCc _ _ _, lCc _ _ _, lCc _ _ _, lCc _ _ _, lCc _ _ _, lCc _ _ _, lCc _ _ _, lCc _ _ _, lCc _ _ _, lCc _ _ _, lCc _ _ _, lCc _ _ _, lCc _ _ _, trivial⟩ ?_ ?_
        · refine oCs ?_ ?_
          · refine op_c fun a' w' hk' hf' hd' K' hK'=>?_;refine wFa (b:=w12.heap.size) (i:=0) (hFlT60.fld (by decide)) (by rw[eTm,hk'.get 8 (by omega),g26_8]) ?_;rw[show (0+0:Nat)=0 from rfl];exact hK'
          refine oCs ?_ ?_
          · refine op_c fun a' w' hk' hf' hd' K' hK'=>?_;refine wL0 (j:=0) (v:=.int .u32 ((kk:Nat):Int)) hcT58 (by rw[eTm];exact hd'.c (nd':=[]) 0 (by simp) rfl) (hf'.range hbx3 .nil) rfl ?_;exact hK'
          refine oCs ?_ ?_
          · refine op_c fun a' w' hk' hf' hd' K' hK'=>?_;refine wMv (v:=.int .u32 ((Z7 fs:Nat):Int)) (by rw[eTm,hk'.get 5 (by omega),g26_5]) ?_;exact hK'
          refine oCs ?_ ?_
          · refine op_c fun a' w' hk' hf' hd' K' hK'=>?_;refine Z1E (k1:=.u32) (i:=((kk:Nat):Int)) (j:=((Z7 fs:Nat):Int)) (by omega) (by rw[eTm];exact hd'.c (nd':=[0]) 1 (by simp) rfl) (by rw[eTm];exact hd'.c (nd':=[]) 2 (by simp) rfl) ?_;exact hK'
          refine oCs ?_ ?_
          · refine op_c fun a' w' hk' hf' hd' K' hK'=>?_;refine wMv (v:=.bool false) (by rw[eTm];exact hd'.c (nd':=[1,2]) 3 (by simp) rfl) ?_;exact hK'
          refine oCs ?_ ?_
          · refine ZI rfl (by decide) (fun a w h=>h.c (nd':=[3]) 4 (by simp[spC,spR]) rfl) ?_;refine op_c fun a' w' hk' hf' hd' K' hK'=>?_;refine wMv (v:=.int .i64 (i:Int)) (by rw[eTm,hk'.get 9 (by omega),g26_9]) ?_;exact hK'
          refine oCs ?_ ?_
          · refine ZI rfl (by decide) (fun a w h=>h.c (nd':=[3]) 4 (by simp[spC,spR]) rfl) ?_;refine op_c fun a' w' hk' hf' hd' K' hK'=>?_;refine wMv (v:=v6) (by rw[eTm,hk'.get 6 (by omega),g26_6]) ?_;exact hK'
          refine oCs ?_ ?_
          · refine ZI rfl (by decide) (fun a w h=>h.c (nd':=[3]) 4 (by simp[spC,spR]) rfl) ?_;refine op_c fun a' w' hk' hf' hd' K' hK'=>?_;obtain ⟨q6,c6,hv6⟩:=ho3.sl;refine Zs (n:=acc.length) hsT24 (Eq.trans (b:=v6) (by rw[eTm];exact hd'.c (nd':=[4]) 6 (by simp) rfl) hv6) ?_;exact hK'
          refine oCs ?_ ?_
          · refine ZI rfl (by decide) (fun a w h=>h.c (nd':=[3]) 4 (by simp[spC,spR]) rfl) ?_;refine op_c fun a' w' hk' hf' hd' K' hK'=>?_;refine Z1E (k1:=.i64) (i:=(i:Int)) (j:=(acc.length:Int)) (by omega) (by rw[eTm];exact hd'.c (nd':=[4]) 5 (by simp) rfl) (by rw[eTm];exact hd'.c (nd':=[4,6]) 7 (by simp) rfl) ?_;exact hK'
          refine oCs ?_ ?_
          · refine ZI rfl (by decide) (fun a w h=>h.c (nd':=[3]) 4 (by simp[spC,spR]) rfl) ?_;refine op_c fun a' w' hk' hf' hd' K' hK'=>?_;refine wMv (v:=.bool false) (by rw[eTm];exact hd'.c (nd':=[4,5,7]) 8 (by simp) rfl) ?_;exact hK'
          refine oCs ?_ ?_
          · exact Z0y rfl (by decide) (fun a w h=>h.c (nd':=[4,8]) 9 (by simp) rfl)
          refine oCs ?_ ?_
          · exact Z0y rfl (by decide) (fun a w h=>h.c (nd':=[4,8]) 9 (by simp) rfl)
          refine oCs ?_ ?_
          · exact Z0y rfl (by decide) (fun a w h=>h.c (nd':=[4,8]) 9 (by simp) rfl)
          refine oCs ?_ ?_
          · exact Z0y rfl (by decide) (fun a w h=>h.c (nd':=[4,8]) 9 (by simp) rfl)
          refine oCs ?_ ?_
          · exact Z0y rfl (by decide) (fun a w h=>h.c (nd':=[4,8]) 9 (by simp) rfl)
          refine oCs ?_ ?_
          · exact Z0y rfl (by decide) (fun a w h=>h.c (nd':=[4,8]) 9 (by simp) rfl)
          refine oCs ?_ ?_
          · exact Z0y rfl (by decide) (fun a w h=>h.c (nd':=[4,8]) 9 (by simp) rfl)
          refine oCs ?_ ?_
          · exact Z0y rfl (by decide) (fun a w h=>h.c (nd':=[4,8]) 9 (by simp) rfl)
          refine oCs ?_ ?_
          · refine ZI rfl (by decide) (fun a w h=>h.c (nd':=[3]) 4 (by simp[spC,spR]) rfl) ?_;refine op_c fun a' w' hk' hf' hd' K' hK'=>?_;refine ZL (v:=.bool false) (by rw[eTm];exact hd'.c (nd':=[4,8]) 9 (by simp) rfl) rfl ?_;exact hK'
          refine oCs ?_ ?_
          · refine op_c fun a' w' hk' hf' hd' K' hK'=>?_;refine ZL (v:=.bool false) (by rw[eTm];exact hd'.c (nd':=[3]) 4 (by simp) rfl) (by rw[eTm];exact hd'.c (nd':=[4,9,17]) 18 (by simp) rfl) ?_;exact hK'
          exact ZY
        intro a56 w56 k56 f56 hd_56;have g56_5:get a56 5 = .int .u32 ((Z7 fs:Nat):Int):=by rw[k56.get 5 (by omega),g26_5]
        have g56_6:get a56 6=v6:=by rw[k56.get 6 (by omega),g26_6]
        have g56_8:get a56 8 = .pointer (some ⟨w12.heap.size,0,none⟩):=by rw[k56.get 8 (by omega),g26_8]
        have g56_9:get a56 9 = .int .i64 (i:Int):=by rw[k56.get 9 (by omega),g26_9]
        have g56_17:get a56 17 = .slice qu (min us.length 32767) capu:=by rw[k56.get 17 (by omega),g26_17]
        have g56_18:get a56 18 = .int .i64 ((min us.length 32767:Nat):Int):=by rw[k56.get 18 (by omega),g26_18]
        have g56_19:get a56 19 = .int .i64 (j:Int):=by rw[k56.get 19 (by omega),g26_19]
        have hz56:a56.tmps.size=85:=k56.size.trans hz26;have hd56:a56.defers=[]:=k56.defers.trans hd26;have g56_58:get a56 58 = .bool false:=hd_56.c (nd':=[4,18]) 19 (by simp) rfl;have hF57:Fr [] w w56:=hfw3.tr f56;have hL57_w26:Fr [] w26 w56:=(Fr.refl [] w26).tr f56;have rb58:=f56.range hbx3 .nil;have hins:ZW (Z7 fs) acc (kk,x)=acc.take i++(kk,x)::acc.drop i:=by unfold ZW;rw[if_neg h3,if_neg (by rw[← hia,List.getElem?_eq_none (by omega)];simp),← hia]
        refine hK50 a56 w56 ?_;refine wp_cond_split (t:=false) (eK g56_58) (fun h=>by cases h) (fun _=>?_);refine wp_skip ?_;exact hJ28 a56 w56 ⟨hz56,hd56,g56_5,g56_6,g56_8,g56_9,g56_17,g56_18,g56_19,hins,htl3.kept hL57_w26 (by simp),ho3.upTo hL57_w26 (From.mono hL57_w26.size),hL57_w26.range hbx3 .nil,hox3.kept hL57_w26 (by simp) (fun _ h=>h),hF57,Nat.lt_of_lt_of_le hbs3 hL57_w26.size⟩
      obtain ⟨⟨kj,xj⟩,hpj⟩:∃ p,acc[i]?=some p:=⟨acc[i],by simp[h4]⟩;obtain ⟨cj,hcj,yj,hcyj,hkj,_⟩:=htl3.at hpj;subst hcyj;obtain ⟨g8,o8,c8,hv8,hg8,hb8,hr8,_⟩:=ho3.elt htl3.all htl3.len hcj;rw[hv8] at g26_6
      by_cases h5:kj=kk
      · refine Z0n [spC [] (.pointer (some ⟨w12.heap.size, 0, none⟩)), spC [0] (.int .u32 ((kk : Nat) : Int)), spC [] (.int .u32 ((Z7 fs : Nat) : Int)), spC [1, 2] (.bool false), spC [3] (.bool false), spC [4] (.int .i64 (i : Int)), spC [4] (.slice (some ⟨g8, o8, none⟩) acc.length c8), spC [4, 6] (.int .i64 ((acc.length : Nat) : Int)), spC [4, 5, 7] (.bool true), spC [4, 8] (.bool true), spC [9] (.slice (some ⟨g8, o8, none⟩) acc.length c8), spC [9] (.int .i64 (i : Int)), spC [9, 10, 11] (.pointer (some ⟨g8, o8 + i * 2, none⟩)), spC [9, 12] (.pointer (some ⟨g8, o8 + i * 2, none⟩)), spC [9, 13] (.int .u32 ((kj : Nat) : Int)), spC [9] (.pointer (some ⟨w12.heap.size, 0, none⟩)), spC [9, 15] (.int .u32 ((kk : Nat) : Int)), spC [9, 14, 16] (.bool true), spC [4, 9, 17] (.bool true), spC [4, 18] (.bool true)] 39 [] hmx he9 (by simp [Z0B]) (by simp [spC, spR]) (by simp; omega) ⟨lCc _ _ _, lCc _ _ _, lCc _ _ _, lCc _ _ _, lCc _ _ _, lCc _ _ _, lCc _ _ _, lCc _ _ _, lCc _ _ _, lCc _ _ _, lCc _ _ _, lCc _ _ _, lCc _ _ _, lCc _ _ _, lCc _ _ _, lCc _ _ _, lCc _ _ _, lCc _ _ _, lCc _ _ _, lCc _ _ _, trivial⟩ ?_ ?_
        · refine oCs ?_ ?_
          · refine op_c fun a' w' hk' hf' hd' K' hK'=>?_;refine wFa (b:=w12.heap.size) (i:=0) (hFlT60.fld (by decide)) (by rw[eTm,hk'.get 8 (by omega),g26_8]) ?_;rw[show (0+0:Nat)=0 from rfl];exact hK'
          refine oCs ?_ ?_
          · refine op_c fun a' w' hk' hf' hd' K' hK'=>?_;refine wL0 (j:=0) (v:=.int .u32 ((kk:Nat):Int)) hcT58 (by rw[eTm];exact hd'.c (nd':=[]) 0 (by simp) rfl) (hf'.range hbx3 .nil) rfl ?_;exact hK'
          refine oCs ?_ ?_
          · refine op_c fun a' w' hk' hf' hd' K' hK'=>?_;refine wMv (v:=.int .u32 ((Z7 fs:Nat):Int)) (by rw[eTm,hk'.get 5 (by omega),g26_5]) ?_;exact hK'
          refine oCs ?_ ?_
          · refine op_c fun a' w' hk' hf' hd' K' hK'=>?_;refine Z1E (k1:=.u32) (i:=((kk:Nat):Int)) (j:=((Z7 fs:Nat):Int)) (by omega) (by rw[eTm];exact hd'.c (nd':=[0]) 1 (by simp) rfl) (by rw[eTm];exact hd'.c (nd':=[]) 2 (by simp) rfl) ?_;exact hK'
          refine oCs ?_ ?_
          · refine op_c fun a' w' hk' hf' hd' K' hK'=>?_;refine wMv (v:=.bool false) (by rw[eTm];exact hd'.c (nd':=[1,2]) 3 (by simp) rfl) ?_;exact hK'
          refine oCs ?_ ?_
          · refine ZI rfl (by decide) (fun a w h=>h.c (nd':=[3]) 4 (by simp[spC,spR]) rfl) ?_;refine op_c fun a' w' hk' hf' hd' K' hK'=>?_;refine wMv (v:=.int .i64 (i:Int)) (by rw[eTm,hk'.get 9 (by omega),g26_9]) ?_;exact hK'
          refine oCs ?_ ?_
          · refine ZI rfl (by decide) (fun a w h=>h.c (nd':=[3]) 4 (by simp[spC,spR]) rfl) ?_;refine op_c fun a' w' hk' hf' hd' K' hK'=>?_;refine wMv (v:=.slice (some ⟨g8,o8,none⟩) acc.length c8) (by rw[eTm,hk'.get 6 (by omega),g26_6]) ?_;exact hK'
          refine oCs ?_ ?_
          · refine ZI rfl (by decide) (fun a w h=>h.c (nd':=[3]) 4 (by simp[spC,spR]) rfl) ?_;refine op_c fun a' w' hk' hf' hd' K' hK'=>?_;refine Zs (n:=acc.length) hsT24 (by rw[eTm];exact hd'.c (nd':=[4]) 6 (by simp) rfl) ?_;exact hK'
          refine oCs ?_ ?_
          · refine ZI rfl (by decide) (fun a w h=>h.c (nd':=[3]) 4 (by simp[spC,spR]) rfl) ?_;refine op_c fun a' w' hk' hf' hd' K' hK'=>?_;refine Z1X (k1:=.i64) (i:=(i:Int)) (j:=((acc.length:Nat):Int)) (by omega) (by rw[eTm];exact hd'.c (nd':=[4]) 5 (by simp) rfl) (by rw[eTm];exact hd'.c (nd':=[4,6]) 7 (by simp) rfl) ?_;exact hK'
          refine oCs ?_ ?_
          · refine ZI rfl (by decide) (fun a w h=>h.c (nd':=[3]) 4 (by simp[spC,spR]) rfl) ?_;refine op_c fun a' w' hk' hf' hd' K' hK'=>?_;refine wMv (v:=.bool true) (by rw[eTm];exact hd'.c (nd':=[4,5,7]) 8 (by simp) rfl) ?_;exact hK'
          refine oCs ?_ ?_
          · refine ZI rfl (by decide) (fun a w h=>h.c (nd':=[4,8]) 9 (by simp[spC,spR]) rfl) ?_;refine op_c fun a' w' hk' hf' hd' K' hK'=>?_;refine wMv (v:=.slice (some ⟨g8,o8,none⟩) acc.length c8) (by rw[eTm,hk'.get 6 (by omega),g26_6]) ?_;exact hK'
          refine oCs ?_ ?_
          · refine ZI rfl (by decide) (fun a w h=>h.c (nd':=[4,8]) 9 (by simp[spC,spR]) rfl) ?_;refine op_c fun a' w' hk' hf' hd' K' hK'=>?_;refine wMv (v:=.int .i64 (i:Int)) (by rw[eTm,hk'.get 9 (by omega),g26_9]) ?_;exact hK'
          refine oCs ?_ ?_
          · refine ZI rfl (by decide) (fun a w h=>h.c (nd':=[4,8]) 9 (by simp[spC,spR]) rfl) ?_;refine op_c fun a' w' hk' hf' hd' K' hK'=>?_;refine Z14 (b:=g8) (o:=o8) (i:=i) hs_T24 (by rw[eTm];exact hd'.c (nd':=[9]) 10 (by simp) rfl) (by rw[eTm];exact hd'.c (nd':=[9]) 11 (by simp) rfl) h4 ?_;exact hK'
          refine oCs ?_ ?_
          · refine ZI rfl (by decide) (fun a w h=>h.c (nd':=[4,8]) 9 (by simp[spC,spR]) rfl) ?_;refine op_c fun a' w' hk' hf' hd' K' hK'=>?_;refine wFa (b:=g8) (i:=o8+i * 2) (hFlT60.fld (by decide)) (by rw[eTm];exact hd'.c (nd':=[9,10,11]) 12 (by simp) rfl) ?_;rw[Nat.add_zero];exact hK'
          refine oCs ?_ ?_
          · refine ZI rfl (by decide) (fun a w h=>h.c (nd':=[4,8]) 9 (by simp[spC,spR]) rfl) ?_;refine op_c fun a' w' hk' hf' hd' K' hK'=>?_;refine Zj (b:=g8) (o:=o8+i * 2) (v:=.int .u32 ((kj:Nat):Int)) hcT58 (by rw[eTm];exact hd'.c (nd':=[9,12]) 13 (by simp) rfl) (Zn.1 (hf'.range hr8 .nil)).1 ?_;exact hK'
          refine oCs ?_ ?_
          · refine ZI rfl (by decide) (fun a w h=>h.c (nd':=[4,8]) 9 (by simp[spC,spR]) rfl) ?_;refine op_c fun a' w' hk' hf' hd' K' hK'=>?_;refine wFa (b:=w12.heap.size) (i:=0) (hFlT60.fld (by decide)) (by rw[eTm,hk'.get 8 (by omega),g26_8]) ?_;rw[show (0+0:Nat)=0 from rfl];exact hK'
          refine oCs ?_ ?_
          · refine ZI rfl (by decide) (fun a w h=>h.c (nd':=[4,8]) 9 (by simp[spC,spR]) rfl) ?_;refine op_c fun a' w' hk' hf' hd' K' hK'=>?_;refine wL0 (j:=0) (v:=.int .u32 ((kk:Nat):Int)) hcT58 (by rw[eTm];exact hd'.c (nd':=[9]) 15 (by simp) rfl) (hf'.range hbx3 .nil) rfl ?_;exact hK'
          refine oCs ?_ ?_
          · refine ZI rfl (by decide) (fun a w h=>h.c (nd':=[4,8]) 9 (by simp[spC,spR]) rfl) ?_;refine op_c fun a' w' hk' hf' hd' K' hK'=>?_;refine Z1l (k1:=.u32) (i:=((kj:Nat):Int)) (j:=((kk:Nat):Int)) (by omega) (by rw[eTm];exact hd'.c (nd':=[9,13]) 14 (by simp) rfl) (by rw[eTm];exact hd'.c (nd':=[9,15]) 16 (by simp) rfl) ?_;exact hK'
          refine oCs ?_ ?_
          · refine ZI rfl (by decide) (fun a w h=>h.c (nd':=[3]) 4 (by simp[spC,spR]) rfl) ?_;refine op_c fun a' w' hk' hf' hd' K' hK'=>?_;refine Zv (v:=.bool true) (by rw[eTm];exact hd'.c (nd':=[4,8]) 9 (by simp) rfl) (by rw[eTm];exact hd'.c (nd':=[9,14,16]) 17 (by simp) rfl) ?_;exact hK'
          refine oCs ?_ ?_
          · refine op_c fun a' w' hk' hf' hd' K' hK'=>?_;refine ZL (v:=.bool true) (by rw[eTm];exact hd'.c (nd':=[3]) 4 (by simp) rfl) (by rw[eTm];exact hd'.c (nd':=[4,9,17]) 18 (by simp) rfl) ?_;exact hK'
          exact ZY
        intro a60 w60 k60 f60 hd_60;have g60_5:get a60 5 = .int .u32 ((Z7 fs:Nat):Int):=by rw[k60.get 5 (by omega),g26_5]
        have g60_6:get a60 6 = .slice (some ⟨g8,o8,none⟩) acc.length c8:=by rw[k60.get 6 (by omega),g26_6]
        have g60_17:get a60 17 = .slice qu (min us.length 32767) capu:=by rw[k60.get 17 (by omega),g26_17]
        have g60_18:get a60 18 = .int .i64 ((min us.length 32767:Nat):Int):=by rw[k60.get 18 (by omega),g26_18]
        have g60_19:get a60 19 = .int .i64 (j:Int):=by rw[k60.get 19 (by omega),g26_19]
        have hz60:a60.tmps.size=85:=k60.size.trans hz26;have hd60:a60.defers=[]:=k60.defers.trans hd26;have g60_58:get a60 58 = .bool true:=hd_60.c (nd':=[4,18]) 19 (by simp) rfl;have hF61:Fr [] w w60:=hfw3.tr f60;have hL61_w26:Fr [] w26 w60:=(Fr.refl [] w26).tr f60;have rb62:=f60.range hbx3 .nil;rw[← hv8] at g60_6;refine hK50 a60 w60 ?_;refine wp_cond_split (t:=true) (eK g60_58) (fun _=>?_) (fun h=>by cases h);refine wp_exit ?_;show K17 a60 w60
        refine hK17 a60 w60 ?_;refine Z2 ?_;refine wC (ZJ (k1:=.i64) (i:=(j:Int)) (j:=1) (eK g60_19) rfl ?_);rw[show (IntKind.i64.wrap (((j:Int):Int)+(1:Int)):Int)=(((j+1:Nat):Int):Int) from by simp only[IntKind.wrap,IntKind.bits,IntKind.signed];simp;omega];refine wC (wMv (v:=.int .i64 ((j+1:Nat):Int)) (eS hz60) ?_);refine wEk hz60 hd60 fun a64 ha64 hz64 hd64=>?_;have g64_5:=kP ha64 g60_5;have g64_6:=kP ha64 g60_6;have g64_17:=kP ha64 g60_17;have g64_18:=kP ha64 g60_18;have g64_19:get a64 19 = .int .i64 ((j+1:Nat):Int):=kG ha64 hz60;refine ⟨m - 1,by omega,j+1,_,_,acc,hz64,hd64,g64_5,g64_6,g64_17,g64_18,g64_19,by omega,?_,?_,htl3.kept hL61_w26 (by simp),ho3.upTo hL61_w26 (From.mono hL61_w26.size),hF61⟩
        · rw[← hacc,show ZW (Z7 fs) acc (kk,x)=acc from by unfold ZW;rw[if_neg h3,if_pos (by rw[← hia,hpj];simp[h5])]]
        have:=Z2i (Z7 fs) acc (kk,x);rw[show ZW (Z7 fs) acc (kk,x)=acc from by unfold ZW;rw[if_neg h3,if_pos (by rw[← hia,hpj];simp[h5])]] at this;omega
      refine Z0n [spC [] (.pointer (some ⟨w12.heap.size,0,none⟩)),spC [0] (.int .u32 ((kk:Nat):Int)),spC [] (.int .u32 ((Z7 fs:Nat):Int)),spC [1,2] (.bool false),spC [3] (.bool false),spC [4] (.int .i64 (i:Int)),spC [4] (.slice (some ⟨g8,o8,none⟩) acc.length c8),spC [4,6] (.int .i64 ((acc.length:Nat):Int)),spC [4,5,7] (.bool true),spC [4,8] (.bool true),spC [9] (.slice (some ⟨g8,o8,none⟩) acc.length c8),spC [9] (.int .i64 (i:Int)),spC [9,10,11] (.pointer (some ⟨g8,o8+i * 2,none⟩)),spC [9,12] (.pointer (some ⟨g8,o8+i * 2,none⟩)),spC [9,13] (.int .u32 ((kj:Nat):Int)),spC [9] (.pointer (some ⟨w12.heap.size,0,none⟩)),spC [9,15] (.int .u32 ((kk:Nat):Int)),spC [9,14,16] (.bool false),spC [4,9,17] (.bool false),spC [4,18] (.bool false)] 39 [] hmx he9 (by simp[Z0B]) (by simp[spC,spR]) (by simp;omega) ⟨lCc _ _ _,lCc _ _ _,lCc _ _ _,lCc _ _ _,lCc _ _ _,lCc _ _ _,lCc _ _ _,lCc _ _ _,lCc _ _ _,lCc _ _ _,lCc _ _ _,lCc _ _ _,lCc _ _ _,lCc _ _ _,lCc _ _ _,lCc _ _ _,lCc _ _ _,lCc _ _ _,lCc _ _ _,lCc _ _ _,trivial⟩ ?_ ?_
      · refine oCs ?_ ?_
        · refine op_c fun a' w' hk' hf' hd' K' hK'=>?_;refine wFa (b:=w12.heap.size) (i:=0) (hFlT60.fld (by decide)) (by rw[eTm,hk'.get 8 (by omega),g26_8]) ?_;rw[show (0+0:Nat)=0 from rfl];exact hK'
        refine oCs ?_ ?_
        · refine op_c fun a' w' hk' hf' hd' K' hK'=>?_;refine wL0 (j:=0) (v:=.int .u32 ((kk:Nat):Int)) hcT58 (by rw[eTm];exact hd'.c (nd':=[]) 0 (by simp) rfl) (hf'.range hbx3 .nil) rfl ?_;exact hK'
        refine oCs ?_ ?_
        · refine op_c fun a' w' hk' hf' hd' K' hK'=>?_;refine wMv (v:=.int .u32 ((Z7 fs:Nat):Int)) (by rw[eTm,hk'.get 5 (by omega),g26_5]) ?_;exact hK'
        refine oCs ?_ ?_
        · refine op_c fun a' w' hk' hf' hd' K' hK'=>?_;refine Z1E (k1:=.u32) (i:=((kk:Nat):Int)) (j:=((Z7 fs:Nat):Int)) (by omega) (by rw[eTm];exact hd'.c (nd':=[0]) 1 (by simp) rfl) (by rw[eTm];exact hd'.c (nd':=[]) 2 (by simp) rfl) ?_;exact hK'
        refine oCs ?_ ?_
        · refine op_c fun a' w' hk' hf' hd' K' hK'=>?_;refine wMv (v:=.bool false) (by rw[eTm];exact hd'.c (nd':=[1,2]) 3 (by simp) rfl) ?_;exact hK'
        refine oCs ?_ ?_
        · refine ZI rfl (by decide) (fun a w h=>h.c (nd':=[3]) 4 (by simp[spC,spR]) rfl) ?_;refine op_c fun a' w' hk' hf' hd' K' hK'=>?_;refine wMv (v:=.int .i64 (i:Int)) (by rw[eTm,hk'.get 9 (by omega),g26_9]) ?_;exact hK'
        refine oCs ?_ ?_
        · refine ZI rfl (by decide) (fun a w h=>h.c (nd':=[3]) 4 (by simp[spC,spR]) rfl) ?_;refine op_c fun a' w' hk' hf' hd' K' hK'=>?_;refine wMv (v:=.slice (some ⟨g8,o8,none⟩) acc.length c8) (by rw[eTm,hk'.get 6 (by omega),g26_6]) ?_;exact hK'
        refine oCs ?_ ?_
        · refine ZI rfl (by decide) (fun a w h=>h.c (nd':=[3]) 4 (by simp[spC,spR]) rfl) ?_;refine op_c fun a' w' hk' hf' hd' K' hK'=>?_;refine Zs (n:=acc.length) hsT24 (by rw[eTm];exact hd'.c (nd':=[4]) 6 (by simp) rfl) ?_;exact hK'
        refine oCs ?_ ?_
        · refine ZI rfl (by decide) (fun a w h=>h.c (nd':=[3]) 4 (by simp[spC,spR]) rfl) ?_;refine op_c fun a' w' hk' hf' hd' K' hK'=>?_;refine Z1X (k1:=.i64) (i:=(i:Int)) (j:=((acc.length:Nat):Int)) (by omega) (by rw[eTm];exact hd'.c (nd':=[4]) 5 (by simp) rfl) (by rw[eTm];exact hd'.c (nd':=[4,6]) 7 (by simp) rfl) ?_;exact hK'
        refine oCs ?_ ?_
        · refine ZI rfl (by decide) (fun a w h=>h.c (nd':=[3]) 4 (by simp[spC,spR]) rfl) ?_;refine op_c fun a' w' hk' hf' hd' K' hK'=>?_;refine wMv (v:=.bool true) (by rw[eTm];exact hd'.c (nd':=[4,5,7]) 8 (by simp) rfl) ?_;exact hK'
        refine oCs ?_ ?_
        · refine ZI rfl (by decide) (fun a w h=>h.c (nd':=[4,8]) 9 (by simp[spC,spR]) rfl) ?_;refine op_c fun a' w' hk' hf' hd' K' hK'=>?_;refine wMv (v:=.slice (some ⟨g8,o8,none⟩) acc.length c8) (by rw[eTm,hk'.get 6 (by omega),g26_6]) ?_;exact hK'
        refine oCs ?_ ?_
        · refine ZI rfl (by decide) (fun a w h=>h.c (nd':=[4,8]) 9 (by simp[spC,spR]) rfl) ?_;refine op_c fun a' w' hk' hf' hd' K' hK'=>?_;refine wMv (v:=.int .i64 (i:Int)) (by rw[eTm,hk'.get 9 (by omega),g26_9]) ?_;exact hK'
        refine oCs ?_ ?_
        · refine ZI rfl (by decide) (fun a w h=>h.c (nd':=[4,8]) 9 (by simp[spC,spR]) rfl) ?_;refine op_c fun a' w' hk' hf' hd' K' hK'=>?_;refine Z14 (b:=g8) (o:=o8) (i:=i) hs_T24 (by rw[eTm];exact hd'.c (nd':=[9]) 10 (by simp) rfl) (by rw[eTm];exact hd'.c (nd':=[9]) 11 (by simp) rfl) h4 ?_;exact hK'
        refine oCs ?_ ?_
        · refine ZI rfl (by decide) (fun a w h=>h.c (nd':=[4,8]) 9 (by simp[spC,spR]) rfl) ?_;refine op_c fun a' w' hk' hf' hd' K' hK'=>?_;refine wFa (b:=g8) (i:=o8+i * 2) (hFlT60.fld (by decide)) (by rw[eTm];exact hd'.c (nd':=[9,10,11]) 12 (by simp) rfl) ?_;rw[Nat.add_zero];exact hK'
        refine oCs ?_ ?_
        · refine ZI rfl (by decide) (fun a w h=>h.c (nd':=[4,8]) 9 (by simp[spC,spR]) rfl) ?_;refine op_c fun a' w' hk' hf' hd' K' hK'=>?_;refine Zj (b:=g8) (o:=o8+i * 2) (v:=.int .u32 ((kj:Nat):Int)) hcT58 (by rw[eTm];exact hd'.c (nd':=[9,12]) 13 (by simp) rfl) (Zn.1 (hf'.range hr8 .nil)).1 ?_;exact hK'
        refine oCs ?_ ?_
        · refine ZI rfl (by decide) (fun a w h=>h.c (nd':=[4,8]) 9 (by simp[spC,spR]) rfl) ?_;refine op_c fun a' w' hk' hf' hd' K' hK'=>?_;refine wFa (b:=w12.heap.size) (i:=0) (hFlT60.fld (by decide)) (by rw[eTm,hk'.get 8 (by omega),g26_8]) ?_;rw[show (0+0:Nat)=0 from rfl];exact hK'
        refine oCs ?_ ?_
        · refine ZI rfl (by decide) (fun a w h=>h.c (nd':=[4,8]) 9 (by simp[spC,spR]) rfl) ?_;refine op_c fun a' w' hk' hf' hd' K' hK'=>?_;refine wL0 (j:=0) (v:=.int .u32 ((kk:Nat):Int)) hcT58 (by rw[eTm];exact hd'.c (nd':=[9]) 15 (by simp) rfl) (hf'.range hbx3 .nil) rfl ?_;exact hK'
        refine oCs ?_ ?_
        · refine ZI rfl (by decide) (fun a w h=>h.c (nd':=[4,8]) 9 (by simp[spC,spR]) rfl) ?_;refine op_c fun a' w' hk' hf' hd' K' hK'=>?_;refine ZX (k1:=.u32) (i:=((kj:Nat):Int)) (j:=((kk:Nat):Int)) (by omega) (by rw[eTm];exact hd'.c (nd':=[9,13]) 14 (by simp) rfl) (by rw[eTm];exact hd'.c (nd':=[9,15]) 16 (by simp) rfl) ?_;exact hK'
        refine oCs ?_ ?_
        · refine ZI rfl (by decide) (fun a w h=>h.c (nd':=[3]) 4 (by simp[spC,spR]) rfl) ?_;refine op_c fun a' w' hk' hf' hd' K' hK'=>?_;refine Zv (v:=.bool false) (by rw[eTm];exact hd'.c (nd':=[4,8]) 9 (by simp) rfl) (by rw[eTm];exact hd'.c (nd':=[9,14,16]) 17 (by simp) rfl) ?_;exact hK'
        refine oCs ?_ ?_
        · refine op_c fun a' w' hk' hf' hd' K' hK'=>?_;refine ZL (v:=.bool false) (by rw[eTm];exact hd'.c (nd':=[3]) 4 (by simp) rfl) (by rw[eTm];exact hd'.c (nd':=[4,9,17]) 18 (by simp) rfl) ?_;exact hK'
        exact ZY
      intro a65 w65 k65 f65 hd_65;have g65_5:get a65 5 = .int .u32 ((Z7 fs:Nat):Int):=by rw[k65.get 5 (by omega),g26_5]
      have g65_6:get a65 6 = .slice (some ⟨g8,o8,none⟩) acc.length c8:=by rw[k65.get 6 (by omega),g26_6]
      have g65_8:get a65 8 = .pointer (some ⟨w12.heap.size,0,none⟩):=by rw[k65.get 8 (by omega),g26_8]
      have g65_9:get a65 9 = .int .i64 (i:Int):=by rw[k65.get 9 (by omega),g26_9]
      have g65_17:get a65 17 = .slice qu (min us.length 32767) capu:=by rw[k65.get 17 (by omega),g26_17]
      have g65_18:get a65 18 = .int .i64 ((min us.length 32767:Nat):Int):=by rw[k65.get 18 (by omega),g26_18]
      have g65_19:get a65 19 = .int .i64 (j:Int):=by rw[k65.get 19 (by omega),g26_19]
      have hz65:a65.tmps.size=85:=k65.size.trans hz26;have hd65:a65.defers=[]:=k65.defers.trans hd26;have g65_58:get a65 58 = .bool false:=hd_65.c (nd':=[4,18]) 19 (by simp) rfl;have hF66:Fr [] w w65:=hfw3.tr f65;have hL66_w26:Fr [] w26 w65:=(Fr.refl [] w26).tr f65;have rb67:=f65.range hbx3 .nil;rw[← hv8] at g65_6;have hins:ZW (Z7 fs) acc (kk,x)=acc.take i++(kk,x)::acc.drop i:=by unfold ZW;rw[if_neg h3,if_neg (by rw[← hia,hpj];simp[h5]),← hia]
      refine hK50 a65 w65 ?_;refine wp_cond_split (t:=false) (eK g65_58) (fun h=>by cases h) (fun _=>?_);refine wp_skip ?_;exact hJ28 a65 w65 ⟨hz65,hd65,g65_5,g65_6,g65_8,g65_9,g65_17,g65_18,g65_19,hins,htl3.kept hL66_w26 (by simp),ho3.upTo hL66_w26 (From.mono hL66_w26.size),hL66_w26.range hbx3 .nil,hox3.kept hL66_w26 (by simp) (fun _ h=>h),hF66,Nat.lt_of_lt_of_le hbs3 hL66_w26.size⟩
    refine wp_block (wp_loop_ghost (fun (m2:Nat) a' w'=>∃ (i:Nat),a'.tmps.size=85∧a'.defers=[]∧get a' 5 = .int .u32 ((Z7 fs:Nat):Int)∧get a' 6=v6∧get a' 8 = .pointer (some ⟨w12.heap.size,0,none⟩)∧get a' 9 = .int .i64 (i:Int)∧get a' 17 = .slice qu (min us.length 32767) capu∧get a' 18 = .int .i64 ((min us.length 32767:Nat):Int)∧get a' 19 = .int .i64 (j:Int)∧i+m2=acc.length∧i≤Z0i acc kk∧TgL w' B cs acc∧Own w' (From w.heap.size w') 2 v6 acc.length cs.flatten∧w'.rangeAt w12.heap.size 0 [.int .u32 ((kk:Nat):Int),xv]∧OctE w' B xv x∧Fr [] w w'∧w12.heap.size < w'.heap.size) acc.length ?_ ?_)
    · exact ⟨0,hz24,hd24,g24_5,g24_6,g24_8,g24_9,g24_17,g24_18,g24_19,by omega,Nat.zero_le _,htl.kept hL21_w12 (by simp),ho.upTo hL21_w12 (From.mono hL21_w12.size),r21,hox.kept hF21 (by simp) (fun _ h=>h),hF21,Z0f (n:=2) th21 (by decide)⟩
    rintro m2 a69 w69 ⟨i,hz69,hd69,g69_5,g69_6,g69_8,g69_9,g69_17,g69_18,g69_19,him,hia0,htl2,ho2,hbx,hox2,hfw2,hbs⟩;refine wp_seq_k fun K70 hK70=>?_;refine wp_seq_k fun K71 hK71=>?_
    by_cases h1:i < acc.length;rotate_left
    · have hia : i = Z0i acc kk := Z3k (fun p hp => by rw [List.getElem?_eq_none (by omega)] at hp; cases hp) hia0;refine Z0n [spC [] (.int .i64 (i : Int)), spC [] (v6), spC [1] (.int .i64 (acc.length : Int)), spC [0, 2] (.bool false), spC [3] (.bool false), spC [4] (undef), spC [4] (undef), spC [4, 5, 6] (undef), spC [4, 7] (undef), spC [4, 8] (undef), spC [4] (undef), spC [4, 10] (undef), spC [4, 9, 11] (undef), spC [4, 12] (.bool false)] 23 [] hmx he7 (by simp [Z0B]) (by simp [spC, spR]) (by simp; omega) ⟨lCc _ _ _, lCc _ _ _, lCc _ _ _, lCc _ _ _, lCc _ _ _, lCc _ _ _, lCc _ _ _, lCc _ _ _, lCc _ _ _, lCc _ _ _, lCc _ _ _, lCc _ _ _, lCc _ _ _, lCc _ _ _, trivial⟩ ?_ ?_
      · refine oCs ?_ ?_
        · refine op_c fun a' w' hk' hf' hd' K' hK'=>?_;refine wMv (v:=.int .i64 (i:Int)) (by rw[eTm,hk'.get 9 (by omega),g69_9]) ?_;exact hK'
        refine oCs ?_ ?_
        · refine op_c fun a' w' hk' hf' hd' K' hK'=>?_;refine wMv (v:=v6) (by rw[eTm,hk'.get 6 (by omega),g69_6]) ?_;exact hK'
        refine oCs ?_ ?_
        · refine op_c fun a' w' hk' hf' hd' K' hK'=>?_;obtain ⟨q6,c6,hv6⟩:=ho2.sl;refine Zs (n:=acc.length) hsT24 (Eq.trans (b:=v6) (by rw[eTm];exact hd'.c (nd':=[]) 1 (by simp) rfl) hv6) ?_;exact hK'
        refine oCs ?_ ?_
        · refine op_c fun a' w' hk' hf' hd' K' hK'=>?_;refine Z1E (k1:=.i64) (i:=(i:Int)) (j:=(acc.length:Int)) (by omega) (by rw[eTm];exact hd'.c (nd':=[]) 0 (by simp) rfl) (by rw[eTm];exact hd'.c (nd':=[1]) 2 (by simp) rfl) ?_;exact hK'
        refine oCs ?_ ?_
        · refine op_c fun a' w' hk' hf' hd' K' hK'=>?_;refine wMv (v:=.bool false) (by rw[eTm];exact hd'.c (nd':=[0,2]) 3 (by simp) rfl) ?_;exact hK'
        refine oCs ?_ ?_
        · exact Z0y rfl (by decide) (fun a w h=>h.c (nd':=[3]) 4 (by simp) rfl)
        refine oCs ?_ ?_
        · exact Z0y rfl (by decide) (fun a w h=>h.c (nd':=[3]) 4 (by simp) rfl)
        refine oCs ?_ ?_
        · exact Z0y rfl (by decide) (fun a w h=>h.c (nd':=[3]) 4 (by simp) rfl)
        refine oCs ?_ ?_
        · exact Z0y rfl (by decide) (fun a w h=>h.c (nd':=[3]) 4 (by simp) rfl)
        refine oCs ?_ ?_
        · exact Z0y rfl (by decide) (fun a w h=>h.c (nd':=[3]) 4 (by simp) rfl)
        refine oCs ?_ ?_
        · exact Z0y rfl (by decide) (fun a w h=>h.c (nd':=[3]) 4 (by simp) rfl)
        refine oCs ?_ ?_
        · exact Z0y rfl (by decide) (fun a w h=>h.c (nd':=[3]) 4 (by simp) rfl)
        refine oCs ?_ ?_
        · exact Z0y rfl (by decide) (fun a w h=>h.c (nd':=[3]) 4 (by simp) rfl)
        refine oCs ?_ ?_
        · refine op_c fun a' w' hk' hf' hd' K' hK'=>?_;refine ZL (v:=.bool false) (by rw[eTm];exact hd'.c (nd':=[3]) 4 (by simp) rfl) rfl ?_;exact hK'
        exact ZY
      intro a72 w72 k72 f72 hd_72;have g72_5:get a72 5 = .int .u32 ((Z7 fs:Nat):Int):=by rw[k72.get 5 (by omega),g69_5]
      have g72_6:get a72 6=v6:=by rw[k72.get 6 (by omega),g69_6]
      have g72_8:get a72 8 = .pointer (some ⟨w12.heap.size,0,none⟩):=by rw[k72.get 8 (by omega),g69_8]
      have g72_9:get a72 9 = .int .i64 (i:Int):=by rw[k72.get 9 (by omega),g69_9]
      have g72_17:get a72 17 = .slice qu (min us.length 32767) capu:=by rw[k72.get 17 (by omega),g69_17]
      have g72_18:get a72 18 = .int .i64 ((min us.length 32767:Nat):Int):=by rw[k72.get 18 (by omega),g69_18]
      have g72_19:get a72 19 = .int .i64 (j:Int):=by rw[k72.get 19 (by omega),g69_19]
      have hz72:a72.tmps.size=85:=k72.size.trans hz69;have hd72:a72.defers=[]:=k72.defers.trans hd69;have g72_36:get a72 36 = .bool false:=hd_72.c (nd':=[4,12]) 13 (by simp) rfl;have hF73:Fr [] w w72:=hfw2.tr f72;have hL73_w69:Fr [] w69 w72:=(Fr.refl [] w69).tr f72;have rb74:=f72.range hbx .nil;refine hK71 a72 w72 ?_;refine wp_cond_split (t:=false) (eK g72_36) (fun h=>by cases h) (fun _=>?_);refine wp_exit ?_;show K25 a72 w72
      exact hJ26 a72 w72 ⟨i,hz72,hd72,g72_5,g72_6,g72_8,g72_9,g72_17,g72_18,g72_19,hia,htl2.kept hL73_w69 (by simp),ho2.upTo hL73_w69 (From.mono hL73_w69.size),hL73_w69.range hbx .nil,hox2.kept hL73_w69 (by simp) (fun _ h=>h),hF73,Nat.lt_of_lt_of_le hbs hL73_w69.size⟩
    obtain ⟨⟨ki,xi⟩,hpi⟩:∃ p,acc[i]?=some p:=⟨acc[i],by simp[h1]⟩;obtain ⟨ci,hci,yv,hcy,hki,_⟩:=htl2.at hpi;subst hcy;obtain ⟨g6,o6,c6,hv6,hg6,hb6,hr6,_⟩:=ho2.elt htl2.all htl2.len hci;rw[hv6] at g69_6
    by_cases h2:ki < kk
    · have hia1 : i + 1 ≤ Z0i acc kk := Z6T hpi h2 hia0;refine Z0n [spC [] (.int .i64 (i : Int)), spC [] (.slice (some ⟨g6, o6, none⟩) acc.length c6), spC [1] (.int .i64 ((acc.length : Nat) : Int)), spC [0, 2] (.bool true), spC [3] (.bool true), spC [4] (.slice (some ⟨g6, o6, none⟩) acc.length c6), spC [4] (.int .i64 (i : Int)), spC [4, 5, 6] (.pointer (some ⟨g6, o6 + i * 2, none⟩)), spC [4, 7] (.pointer (some ⟨g6, o6 + i * 2, none⟩)), spC [4, 8] (.int .u32 ((ki : Nat) : Int)), spC [4] (.pointer (some ⟨w12.heap.size, 0, none⟩)), spC [4, 10] (.int .u32 ((kk : Nat) : Int)), spC [4, 9, 11] (.bool true), spC [4, 12] (.bool true)] 23 [] hmx he7 (by simp [Z0B]) (by simp [spC, spR]) (by simp; omega) ⟨lCc _ _ _, lCc _ _ _, lCc _ _ _, lCc _ _ _, lCc _ _ _, lCc _ _ _, lCc _ _ _, lCc _ _ _, lCc _ _ _, lCc _ _ _, lCc _ _ _, lCc _ _ _, lCc _ _ _, lCc _ _ _, trivial⟩ ?_ ?_
      · refine oCs ?_ ?_
        · refine op_c fun a' w' hk' hf' hd' K' hK'=>?_;refine wMv (v:=.int .i64 (i:Int)) (by rw[eTm,hk'.get 9 (by omega),g69_9]) ?_;exact hK'
        refine oCs ?_ ?_
        · refine op_c fun a' w' hk' hf' hd' K' hK'=>?_;refine wMv (v:=.slice (some ⟨g6,o6,none⟩) acc.length c6) (by rw[eTm,hk'.get 6 (by omega),g69_6]) ?_;exact hK'
        refine oCs ?_ ?_
        · refine op_c fun a' w' hk' hf' hd' K' hK'=>?_;refine Zs (n:=acc.length) hsT24 (by rw[eTm];exact hd'.c (nd':=[]) 1 (by simp) rfl) ?_;exact hK'
        refine oCs ?_ ?_
        · refine op_c fun a' w' hk' hf' hd' K' hK'=>?_;refine Z1X (k1:=.i64) (i:=(i:Int)) (j:=((acc.length:Nat):Int)) (by omega) (by rw[eTm];exact hd'.c (nd':=[]) 0 (by simp) rfl) (by rw[eTm];exact hd'.c (nd':=[1]) 2 (by simp) rfl) ?_;exact hK'
        refine oCs ?_ ?_
        · refine op_c fun a' w' hk' hf' hd' K' hK'=>?_;refine wMv (v:=.bool true) (by rw[eTm];exact hd'.c (nd':=[0,2]) 3 (by simp) rfl) ?_;exact hK'
        refine oCs ?_ ?_
        · refine ZI rfl (by decide) (fun a w h=>h.c (nd':=[3]) 4 (by simp[spC,spR]) rfl) ?_;refine op_c fun a' w' hk' hf' hd' K' hK'=>?_;refine wMv (v:=.slice (some ⟨g6,o6,none⟩) acc.length c6) (by rw[eTm,hk'.get 6 (by omega),g69_6]) ?_;exact hK'
        refine oCs ?_ ?_
        · refine ZI rfl (by decide) (fun a w h=>h.c (nd':=[3]) 4 (by simp[spC,spR]) rfl) ?_;refine op_c fun a' w' hk' hf' hd' K' hK'=>?_;refine wMv (v:=.int .i64 (i:Int)) (by rw[eTm,hk'.get 9 (by omega),g69_9]) ?_;exact hK'
        refine oCs ?_ ?_
        · refine ZI rfl (by decide) (fun a w h=>h.c (nd':=[3]) 4 (by simp[spC,spR]) rfl) ?_;refine op_c fun a' w' hk' hf' hd' K' hK'=>?_;refine Z14 (b:=g6) (o:=o6) (i:=i) hs_T24 (by rw[eTm];exact hd'.c (nd':=[4]) 5 (by simp) rfl) (by rw[eTm];exact hd'.c (nd':=[4]) 6 (by simp) rfl) h1 ?_;exact hK'
        refine oCs ?_ ?_
        · refine ZI rfl (by decide) (fun a w h=>h.c (nd':=[3]) 4 (by simp[spC,spR]) rfl) ?_;refine op_c fun a' w' hk' hf' hd' K' hK'=>?_;refine wFa (b:=g6) (i:=o6+i * 2) (hFlT60.fld (by decide)) (by rw[eTm];exact hd'.c (nd':=[4,5,6]) 7 (by simp) rfl) ?_;rw[Nat.add_zero];exact hK'
        refine oCs ?_ ?_
        · refine ZI rfl (by decide) (fun a w h=>h.c (nd':=[3]) 4 (by simp[spC,spR]) rfl) ?_;refine op_c fun a' w' hk' hf' hd' K' hK'=>?_;refine Zj (b:=g6) (o:=o6+i * 2) (v:=.int .u32 ((ki:Nat):Int)) hcT58 (by rw[eTm];exact hd'.c (nd':=[4,7]) 8 (by simp) rfl) (Zn.1 (hf'.range hr6 .nil)).1 ?_;exact hK'
        refine oCs ?_ ?_
        · refine ZI rfl (by decide) (fun a w h=>h.c (nd':=[3]) 4 (by simp[spC,spR]) rfl) ?_;refine op_c fun a' w' hk' hf' hd' K' hK'=>?_;refine wFa (b:=w12.heap.size) (i:=0) (hFlT60.fld (by decide)) (by rw[eTm,hk'.get 8 (by omega),g69_8]) ?_;rw[show (0+0:Nat)=0 from rfl];exact hK'
        refine oCs ?_ ?_
        · refine ZI rfl (by decide) (fun a w h=>h.c (nd':=[3]) 4 (by simp[spC,spR]) rfl) ?_;refine op_c fun a' w' hk' hf' hd' K' hK'=>?_;refine wL0 (j:=0) (v:=.int .u32 ((kk:Nat):Int)) hcT58 (by rw[eTm];exact hd'.c (nd':=[4]) 10 (by simp) rfl) (hf'.range hbx .nil) rfl ?_;exact hK'
        refine oCs ?_ ?_
        · refine ZI rfl (by decide) (fun a w h=>h.c (nd':=[3]) 4 (by simp[spC,spR]) rfl) ?_;refine op_c fun a' w' hk' hf' hd' K' hK'=>?_;refine Z1X (k1:=.u32) (i:=((ki:Nat):Int)) (j:=((kk:Nat):Int)) (by omega) (by rw[eTm];exact hd'.c (nd':=[4,8]) 9 (by simp) rfl) (by rw[eTm];exact hd'.c (nd':=[4,10]) 11 (by simp) rfl) ?_;exact hK'
        refine oCs ?_ ?_
        · refine op_c fun a' w' hk' hf' hd' K' hK'=>?_;refine Zv (v:=.bool true) (by rw[eTm];exact hd'.c (nd':=[3]) 4 (by simp) rfl) (by rw[eTm];exact hd'.c (nd':=[4,9,11]) 12 (by simp) rfl) ?_;exact hK'
        exact ZY
      intro a76 w76 k76 f76 hd_76;have g76_5:get a76 5 = .int .u32 ((Z7 fs:Nat):Int):=by rw[k76.get 5 (by omega),g69_5]
      have g76_6:get a76 6 = .slice (some ⟨g6,o6,none⟩) acc.length c6:=by rw[k76.get 6 (by omega),g69_6]
      have g76_8:get a76 8 = .pointer (some ⟨w12.heap.size,0,none⟩):=by rw[k76.get 8 (by omega),g69_8]
      have g76_9:get a76 9 = .int .i64 (i:Int):=by rw[k76.get 9 (by omega),g69_9]
      have g76_17:get a76 17 = .slice qu (min us.length 32767) capu:=by rw[k76.get 17 (by omega),g69_17]
      have g76_18:get a76 18 = .int .i64 ((min us.length 32767:Nat):Int):=by rw[k76.get 18 (by omega),g69_18]
      have g76_19:get a76 19 = .int .i64 (j:Int):=by rw[k76.get 19 (by omega),g69_19]
      have hz76:a76.tmps.size=85:=k76.size.trans hz69;have hd76:a76.defers=[]:=k76.defers.trans hd69;have g76_36:get a76 36 = .bool true:=hd_76.c (nd':=[4,12]) 13 (by simp) rfl;have hF77:Fr [] w w76:=hfw2.tr f76;have hL77_w69:Fr [] w69 w76:=(Fr.refl [] w69).tr f76;have rb78:=f76.range hbx .nil;rw[← hv6] at g76_6;refine hK71 a76 w76 ?_;refine wp_cond_split (t:=true) (eK g76_36) (fun _=>?_) (fun h=>by cases h);refine wp_skip ?_;refine hK70 a76 w76 ?_;refine Zm ?_;refine Z2 ?_;refine wC (wMv (v:=.int .i64 (i:Int)) (eK g76_9) ?_);refine wC (ZJ (k1:=.i64) (i:=(i:Int)) (j:=1) (eS hz76) rfl ?_);rw[show (IntKind.i64.wrap (((i:Int):Int)+(1:Int)):Int)=(((i+1:Nat):Int):Int) from by simp only[IntKind.wrap,IntKind.bits,IntKind.signed];simp;omega];refine wC (wAs (v:=.int .i64 ((i+1:Nat):Int)) (eS hz76) ?_);refine wEk hz76 hd76 fun a80 ha80 hz80 hd80=>?_;have g80_5:=kP ha80 g76_5;have g80_6:=kP ha80 g76_6;have g80_8:=kP ha80 g76_8;have g80_9:get a80 9 = .int .i64 ((i+1:Nat):Int):=kG ha80 hz76;have g80_17:=kP ha80 g76_17;have g80_18:=kP ha80 g76_18;have g80_19:=kP ha80 g76_19;exact ⟨m2 - 1,by omega,i+1,hz80,hd80,g80_5,g80_6,g80_8,g80_9,g80_17,g80_18,g80_19,by omega,hia1,htl2.kept hL77_w69 (by simp),ho2.upTo hL77_w69 (From.mono hL77_w69.size),hL77_w69.range hbx .nil,hox2.kept hL77_w69 (by simp) (fun _ h=>h),hF77,Nat.lt_of_lt_of_le hbs hL77_w69.size⟩
    have hia:i=Z0i acc kk:=Z3k (fun p hp=>by rw[hpi] at hp;obtain rfl:=Option.some.inj hp;exact h2) hia0;refine Z0n [spC [] (.int .i64 (i:Int)),spC [] (.slice (some ⟨g6,o6,none⟩) acc.length c6),spC [1] (.int .i64 ((acc.length:Nat):Int)),spC [0,2] (.bool true),spC [3] (.bool true),spC [4] (.slice (some ⟨g6,o6,none⟩) acc.length c6),spC [4] (.int .i64 (i:Int)),spC [4,5,6] (.pointer (some ⟨g6,o6+i * 2,none⟩)),spC [4,7] (.pointer (some ⟨g6,o6+i * 2,none⟩)),spC [4,8] (.int .u32 ((ki:Nat):Int)),spC [4] (.pointer (some ⟨w12.heap.size,0,none⟩)),spC [4,10] (.int .u32 ((kk:Nat):Int)),spC [4,9,11] (.bool false),spC [4,12] (.bool false)] 23 [] hmx he7 (by simp[Z0B]) (by simp[spC,spR]) (by simp;omega) ⟨lCc _ _ _,lCc _ _ _,lCc _ _ _,lCc _ _ _,lCc _ _ _,lCc _ _ _,lCc _ _ _,lCc _ _ _,lCc _ _ _,lCc _ _ _,lCc _ _ _,lCc _ _ _,lCc _ _ _,lCc _ _ _,trivial⟩ ?_ ?_
    · refine oCs ?_ ?_
      · refine op_c fun a' w' hk' hf' hd' K' hK'=>?_;refine wMv (v:=.int .i64 (i:Int)) (by rw[eTm,hk'.get 9 (by omega),g69_9]) ?_;exact hK'
      refine oCs ?_ ?_
      · refine op_c fun a' w' hk' hf' hd' K' hK'=>?_;refine wMv (v:=.slice (some ⟨g6,o6,none⟩) acc.length c6) (by rw[eTm,hk'.get 6 (by omega),g69_6]) ?_;exact hK'
      refine oCs ?_ ?_
      · refine op_c fun a' w' hk' hf' hd' K' hK'=>?_;refine Zs (n:=acc.length) hsT24 (by rw[eTm];exact hd'.c (nd':=[]) 1 (by simp) rfl) ?_;exact hK'
      refine oCs ?_ ?_
      · refine op_c fun a' w' hk' hf' hd' K' hK'=>?_;refine Z1X (k1:=.i64) (i:=(i:Int)) (j:=((acc.length:Nat):Int)) (by omega) (by rw[eTm];exact hd'.c (nd':=[]) 0 (by simp) rfl) (by rw[eTm];exact hd'.c (nd':=[1]) 2 (by simp) rfl) ?_;exact hK'
      refine oCs ?_ ?_
      · refine op_c fun a' w' hk' hf' hd' K' hK'=>?_;refine wMv (v:=.bool true) (by rw[eTm];exact hd'.c (nd':=[0,2]) 3 (by simp) rfl) ?_;exact hK'
      refine oCs ?_ ?_
      · refine ZI rfl (by decide) (fun a w h=>h.c (nd':=[3]) 4 (by simp[spC,spR]) rfl) ?_;refine op_c fun a' w' hk' hf' hd' K' hK'=>?_;refine wMv (v:=.slice (some ⟨g6,o6,none⟩) acc.length c6) (by rw[eTm,hk'.get 6 (by omega),g69_6]) ?_;exact hK'
      refine oCs ?_ ?_
      · refine ZI rfl (by decide) (fun a w h=>h.c (nd':=[3]) 4 (by simp[spC,spR]) rfl) ?_;refine op_c fun a' w' hk' hf' hd' K' hK'=>?_;refine wMv (v:=.int .i64 (i:Int)) (by rw[eTm,hk'.get 9 (by omega),g69_9]) ?_;exact hK'
      refine oCs ?_ ?_
      · refine ZI rfl (by decide) (fun a w h=>h.c (nd':=[3]) 4 (by simp[spC,spR]) rfl) ?_;refine op_c fun a' w' hk' hf' hd' K' hK'=>?_;refine Z14 (b:=g6) (o:=o6) (i:=i) hs_T24 (by rw[eTm];exact hd'.c (nd':=[4]) 5 (by simp) rfl) (by rw[eTm];exact hd'.c (nd':=[4]) 6 (by simp) rfl) h1 ?_;exact hK'
      refine oCs ?_ ?_
      · refine ZI rfl (by decide) (fun a w h=>h.c (nd':=[3]) 4 (by simp[spC,spR]) rfl) ?_;refine op_c fun a' w' hk' hf' hd' K' hK'=>?_;refine wFa (b:=g6) (i:=o6+i * 2) (hFlT60.fld (by decide)) (by rw[eTm];exact hd'.c (nd':=[4,5,6]) 7 (by simp) rfl) ?_;rw[Nat.add_zero];exact hK'
      refine oCs ?_ ?_
      · refine ZI rfl (by decide) (fun a w h=>h.c (nd':=[3]) 4 (by simp[spC,spR]) rfl) ?_;refine op_c fun a' w' hk' hf' hd' K' hK'=>?_;refine Zj (b:=g6) (o:=o6+i * 2) (v:=.int .u32 ((ki:Nat):Int)) hcT58 (by rw[eTm];exact hd'.c (nd':=[4,7]) 8 (by simp) rfl) (Zn.1 (hf'.range hr6 .nil)).1 ?_;exact hK'
      refine oCs ?_ ?_
      · refine ZI rfl (by decide) (fun a w h=>h.c (nd':=[3]) 4 (by simp[spC,spR]) rfl) ?_;refine op_c fun a' w' hk' hf' hd' K' hK'=>?_;refine wFa (b:=w12.heap.size) (i:=0) (hFlT60.fld (by decide)) (by rw[eTm,hk'.get 8 (by omega),g69_8]) ?_;rw[show (0+0:Nat)=0 from rfl];exact hK'
      refine oCs ?_ ?_
      · refine ZI rfl (by decide) (fun a w h=>h.c (nd':=[3]) 4 (by simp[spC,spR]) rfl) ?_;refine op_c fun a' w' hk' hf' hd' K' hK'=>?_;refine wL0 (j:=0) (v:=.int .u32 ((kk:Nat):Int)) hcT58 (by rw[eTm];exact hd'.c (nd':=[4]) 10 (by simp) rfl) (hf'.range hbx .nil) rfl ?_;exact hK'
      refine oCs ?_ ?_
      · refine ZI rfl (by decide) (fun a w h=>h.c (nd':=[3]) 4 (by simp[spC,spR]) rfl) ?_;refine op_c fun a' w' hk' hf' hd' K' hK'=>?_;refine Z1E (k1:=.u32) (i:=((ki:Nat):Int)) (j:=((kk:Nat):Int)) (by omega) (by rw[eTm];exact hd'.c (nd':=[4,8]) 9 (by simp) rfl) (by rw[eTm];exact hd'.c (nd':=[4,10]) 11 (by simp) rfl) ?_;exact hK'
      refine oCs ?_ ?_
      · refine op_c fun a' w' hk' hf' hd' K' hK'=>?_;refine Zv (v:=.bool false) (by rw[eTm];exact hd'.c (nd':=[3]) 4 (by simp) rfl) (by rw[eTm];exact hd'.c (nd':=[4,9,11]) 12 (by simp) rfl) ?_;exact hK'
      exact ZY
    intro a81 w81 k81 f81 hd_81;have g81_5:get a81 5 = .int .u32 ((Z7 fs:Nat):Int):=by rw[k81.get 5 (by omega),g69_5]
    have g81_6:get a81 6 = .slice (some ⟨g6,o6,none⟩) acc.length c6:=by rw[k81.get 6 (by omega),g69_6]
    have g81_8:get a81 8 = .pointer (some ⟨w12.heap.size,0,none⟩):=by rw[k81.get 8 (by omega),g69_8]
    have g81_9:get a81 9 = .int .i64 (i:Int):=by rw[k81.get 9 (by omega),g69_9]
    have g81_17:get a81 17 = .slice qu (min us.length 32767) capu:=by rw[k81.get 17 (by omega),g69_17]
    have g81_18:get a81 18 = .int .i64 ((min us.length 32767:Nat):Int):=by rw[k81.get 18 (by omega),g69_18]
    have g81_19:get a81 19 = .int .i64 (j:Int):=by rw[k81.get 19 (by omega),g69_19]
    have hz81:a81.tmps.size=85:=k81.size.trans hz69;have hd81:a81.defers=[]:=k81.defers.trans hd69;have g81_36:get a81 36 = .bool false:=hd_81.c (nd':=[4,12]) 13 (by simp) rfl;have hF82:Fr [] w w81:=hfw2.tr f81;have hL82_w69:Fr [] w69 w81:=(Fr.refl [] w69).tr f81;have rb83:=f81.range hbx .nil;rw[← hv6] at g81_6;refine hK71 a81 w81 ?_;refine wp_cond_split (t:=false) (eK g81_36) (fun h=>by cases h) (fun _=>?_);refine wp_exit ?_;show K25 a81 w81
    exact hJ26 a81 w81 ⟨i,hz81,hd81,g81_5,g81_6,g81_8,g81_9,g81_17,g81_18,g81_19,hia,htl2.kept hL82_w69 (by simp),ho2.upTo hL82_w69 (From.mono hL82_w69.size),hL82_w69.range hbx .nil,hox2.kept hL82_w69 (by simp) (fun _ h=>h),hF82,Nat.lt_of_lt_of_le hbs hL82_w69.size⟩
  have hj0:j=(min us.length 32767):=by simp at hc16;omega
  rw[hj0,List.drop_of_length_le (by rw[List.length_take];omega),List.foldl_nil] at hacc;refine wp_exit ?_;show K9 a14 w12
  refine hK9 a14 w12 (tUp ?_);refine wT fun K85 hK85=>?_;refine wC (wMv (v:=v6) (eK g14_6) ?_);refine wC (wAs (v:=v6) (eS hz14) ?_);refine wEk hz14 hd14 fun a86 ha86 hz86 hd86=>?_;have g86_4:get a86 4=v6:=kG ha86 hz14;refine hK85 a86 w12 (tUp ?_);refine wp_ret ?_;exact ⟨hd86,v6,rIs hres g86_4,v6,rfl,hfw,by rw[← hacc];exact htl.tags ho (by omega) (fun b h=>.inr h) (fun b h=>.inl h)⟩
end Go.Kq

namespace Go.Kq
open Go Go.Proofs
theorem band1 (n:Int):bits .and .i64 n 1=n % 2:=by
  simp only[bits,BitVec.toNat_and,BitVec.toNat_ofInt];have h1:((1:Int) % ((2 ^ IntKind.i64.bits:Nat):Int)).toNat=1:=by decide
  rw[h1,Nat.and_one_is_mod,IntKind.wrap_i64];simp only[IntKind.bits];omega
theorem Z7w (n:Int):IntKind.u8.wrap (n % 2)=((UInt8.ofNat (n % 2).toNat).toNat:Int):=by
  rw[IntKind.wrap_u8];simp;omega
theorem Own.from {w:World} {s0 s sz n:Nat} {v:Value} {xs:List Value} (h:Own w (From s w) sz v n xs) (hs:s0≤s):Own w (From s0 w) sz v n xs:=h.imp_A fun b hb=>⟨by have:=hb.1;omega,hb.2⟩
theorem Z3w (s:List UInt8):(Z3U s).length=16:=by unfold Z3U;simp;omega
theorem wp_copyU {P:Program} {a:Act} {w:World} {K:Act→World→Prop} {Q:Exit→Act→World→Prop} {d:Option Tmp} {t:TypeId} {p:String} {af:Array Edge} {g:Option (Nat × Bool)} {T te:TypeId} {b:Nat} {B:Nat→Prop} {x y:Operand} {v:Value} {xs:List UInt8}
    (hT:Z3 P T te 1 1=true) (hx:a.eval x = .slice (some ⟨b,0,none⟩) 16 16) (hy:a.eval y=v) (hs:OctE w B v xs) (hr:w.rangeAt b 0 (Z0 (List.replicate 16 0))) (ht:w.there b 0 16)
    (k:∀ w' u,Fr [⟨b,0,16⟩] w w'→w'.rangeAt b 0 (Z0 (Z3U xs))→K (a.put d u) w') :
    OW P ⟨d,.call ⟨.builtin .copy,#[x,y],#[T,T]⟩,t,p,af,g⟩ a w K Q:=by
  obtain ⟨hu,i,z0,hi,hsz,hby,hzz,hsz0⟩:=Zt hT;have hs1:(P.info? te).map (·.size)=some 1:=by simp[hi,hsz]
  obtain ⟨q,cap,rfl,hq⟩:=hs.slice
  by_cases h0:xs=[]
  · subst h0;have hrun:=run_copy_none (P:=P) w T T t te (some ⟨b,0,none⟩) q 16 16 0 cap hu hs1 rfl;refine Zf (v:=goInt 0) (w':=w) ?_ (k w _ (Fr.refl _ _) (by simpa [Z3U] using hr));simp only[List.length_nil] at hy;simp only[execOp,resolve,invoke,builtin,List.map_toArray,List.map_cons,List.map_nil,hx,hy,hrun,Sem.run_bind,Result.andThen_ok,Sem.run_pure]
  obtain ⟨bo,o,rfl,hro⟩:=hq (List.length_pos_iff.2 h0);have hln:(Z0 (xs.take 16)).length=Nat.min xs.length 16:=by rw[lOc,List.length_take,Nat.min_comm]
  have hle:(Z0 (xs.take 16)).length≤16:=by rw[hln];exact Nat.min_le_right _ _
  have hsrc:w.rangeAt bo o (Z0 (xs.take 16)):=by have:=Z0x hro 0 16;simpa using this
  have hrun:=run_copy_cells (P:=P) w T T t te b 0 16 16 ⟨bo,o,none⟩ xs.length cap (Z0 (xs.take 16)) hu hs1 hln (fun j v hj=>by rw[Addr.add_mid];exact hsrc j v hj)
    (fun j hj=>(ht j (by omega)).1) (fun j hj=>(ht j (by omega)).2) (Z5G _)
  have fs:=Fr.sets b (Z0 (xs.take 16)) w 0;have th0:w.there b 0 (Z0 (xs.take 16)).length:=Z6 ht (Nat.le_refl _) (by omega);have rs:=World.rangeAt_setCells_same w b 0 (Z0 (xs.take 16)) th0;refine Zf (v:=goInt (Z0 (xs.take 16)).length) (w':=w.setCells b 0 (Z0 (xs.take 16))) ?_ (k _ _ (fs.mono (by intro r hr;simp at hr;subst hr;exact .inr ⟨_,List.mem_singleton.2 rfl,rfl,Nat.le_refl _,by simp only;omega⟩)) ?_)
  · simp only[execOp,resolve,invoke,builtin,List.map_toArray,List.map_cons,List.map_nil,hx,hy,hrun,Sem.run_bind,Result.andThen_ok,Sem.run_pure]
  unfold Z3U;rw[Z0X,Z4];refine ⟨rs,?_⟩;have hpart:=Z2d hr (xs.take 16).length (16 - (xs.take 16).length);rw[Z2D,Z2C] at hpart;have e:((List.replicate 16 (0:UInt8)).drop (xs.take 16).length).take (16 - (xs.take 16).length)=List.replicate (16 - xs.length) 0:=by
    rw[List.drop_replicate,List.take_replicate];congr 1;simp;omega
  rw[e] at hpart;rw[lOc];exact fs.range hpart (.cons (.inr (.inr (by simp[lOc]))) .nil)
end Go.Kq

namespace Go.Kq
open Go Go.Proofs
theorem Z51 {s:Nat} {w1 w2 w3:World} (h0:s≤w1.heap.size) (h1:w1.heap.size≤w2.heap.size) (h2:w2.heap.size≤w3.heap.size) (b:Nat) (hb:From w1.heap.size w2 b∨(w2.heap.size≤b∧b < w3.heap.size)):From s w3 b:=by
  rcases hb with hb | hb
  · exact ⟨by have:=hb.1;omega,by have:=hb.2;omega⟩
  exact ⟨by omega,hb.2⟩
theorem made16:madeCells ([.int .u8 0]:List Value).toArray (16 * 1)=(Z0 (List.replicate 16 0)).toArray:=by
  apply Array.ext'
  simp[madeCells,Z0]
  rfl
theorem wp_litO {P:Program} {a:Act} {w:World} {K:Act→World→Prop} {Q:Exit→Act→World→Prop} {d:Option Tmp} {t:TypeId} {p:String} {af:Array Edge} {g:Option (Nat × Bool)} {T e:TypeId} {x:Operand} {c:UInt8} (hT:Z3 P T e 1 1=true) (hx:a.eval x = .int .u8 (c.toNat:Int))
    (k:∀ u w',Fr [] w w'→Own w' (From w.heap.size w') 1 u [c].length (Z0 [c])→K (a.put d u) w'):OW P ⟨d,.buildSlice T 1 #[(0,x)],t,p,af,g⟩ a w K Q:=by
  have hr:=ZE w #[.int .u8 (c.toNat:Int)] e (0,0);have ht:=Zy w #[.int .u8 (c.toNat:Int)] e;refine Z1u (xs:=[x]) (css:=[[.int .u8 (c.toNat:Int)]]) hT rfl (by decide) (by decide) (by simp[hx,Value.cells]) (by simp) (k _ _ (Fr.alloc _ _ _) ?_);exact ⟨rfl,.inr ⟨w.heap.size,0,1,⟨Nat.le_refl _,by rw[Zb];omega⟩,rfl,Nat.le_refl _,by decide,hr,ht⟩⟩
structure Z1U (P:Program) (f:FuncId) (fs:List Fd) (sub:Int→Bool→T→List UInt8):Prop where
  enters:Enters P f
  call:∀ (w:World) (A B:Nat→Prop) (v:Value) (ver:Int) (flex:Bool) (ct:List Value) (t:T),FdsR w A v fs→RepT w B ct t→(∀ b,A b→b < w.heap.size)→(∀ b,B b→b < w.heap.size)→(sub ver flex t).length≤4294967296 →
    Calls P f #[v,.int .i64 ver,.bool flex,.agg ct.toArray] w (Z61 w (sub ver flex t))
structure Z2t (P:Program) (f:FuncId) (fs:List Fd) (sub:Int→Bool→T→List UInt8):Prop where
  enters:Enters P f
  call:∀ (w:World) (A B:Nat→Prop) (v:Value) (ver:Int) (flex null:Bool) (kind:Int) (ct:List Value) (t:T),FdsR w A v fs→RepT w B ct t→(∀ b,A b→b < w.heap.size)→(∀ b,B b→b < w.heap.size)→(Zh kind (sub ver flex) null flex t).length≤4294967296 →
    Calls P f #[.int .i64 kind,v,.bool null,.int .i64 ver,.bool flex,.agg ct.toArray] w (Z61 w (Zh kind (sub ver flex) null flex t))
set_option maxHeartbeats 4000000 in
theorem value_m {P:Program} {f:FuncId} {fn:Func} {T2 T3 T5 T22 T26:TypeId} {f26 f54 f74 f76 f77:FuncId} {a0:Array TypeId} {a1:Array TypeId} {a2:Array TypeId} {a3:Array TypeId} {a4:Array TypeId} {a5:Array TypeId} {a6:Array TypeId} {i0 i1 i2 i3 i4 i5 i6 i7 i8 i9 i10 i11 i12 i13 i14 i15 i16 i17 i18 i19 i20:Nat} {t0 t1 t2 t3 t4 t5 t6 t7 t8 t9 t10 t11 t12 t13 t14 t15 t16 t17 t18 t19 t20 t21 t22 t23 t24 t25 t26 t27 t28 t29 t30 t31 t32 t33 t34 t35 t36 t37 t38 t39 t40 t41 t42 t43 t44 t45 t46 t47 t48 t49 t50 t51 t52 t53 t54 t55 t56 t57 t58 t59 t60 t61 t62 t63 t64 t65 t66:TypeId} {p0 p1 p2 p3 p4 p5 p6 p7 p8 p9 p10 p11 p12 p13 p14 p15 p16 p17 p18 p19 p20 p21 p22 p23 p24 p25 p26 p27 p28 p29 p30 p31 p32 p33 p34 p35 p36 p37 p38 p39 p40 p41 p42 p43 p44 p45 p46 p47 p48 p49 p50 p51 p52 p53 p54 p55 p56 p57 p58 p59 p60 p61 p62 p63 p64 p65 p66:String} {e0 e1 e2 e3 e4 e5 e6 e7 e8 e9 e10 e11 e12 e13 e14 e15 e16 e17 e18 e19 e20 e21 e22 e23 e24 e25 e26 e27 e28 e29 e30 e31 e32 e33 e34 e35 e36 e37 e38 e39 e40 e41 e42 e43 e44 e45 e46 e47 e48 e49 e50 e51 e52 e53 e54 e55 e56 e57 e58 e59 e60 e61 e62 e63 e64 e65 e66:Array Edge} {te:TypeId} {fs:List Fd} {sub:Int→Bool→T→List UInt8}
    (hf:P.funcs[f]?=some fn) (hname:nG fn=false) (hres:fn.results = #[.tmp 12]) (hN:fn.ntmps=70)
    (hbody:fn.body=some (.seq (Code.region i0 ⟨[⟨some 11,.box T26 (.tmp 5),t0,p0,e0,none⟩,
    oA 12 (.const (.slice none 0 0)) t1 p1 e1]⟩ false) (.seq (.seq (Code.region i1 ⟨[oM 16 0 t2 p2 e2]⟩ false) (.block 0 (.seq (Code.region i2 ⟨[⟨some 18,.binOp .eql T3 (.tmp 16) (.const (.int .i64 0)) T3,t3,p3,e3,none⟩,
    oT 17 18 t4 p4 e4]⟩ false) (.cond (.tmp 17) (.seq (Code.region i3 ⟨[oF 19 T26 11 0 t5 p5 e5,
    oL 20 T2 19 t6 p6 e6,⟨some 21,.binOp .and T2 (.tmp 20) (.const (.int .i64 1)) T2,t7,p7,e7,none⟩,⟨some 22,.convert T2 T5 (.tmp 21),t8,p8,e8,none⟩,⟨some 23,.buildSlice T22 1 #[(0,.tmp 22)],t9,p9,e9,none⟩,
    oT 12 23 t10 p10 e10]⟩ false) .ret) (.seq (Code.region i4 ⟨[⟨some 25,.binOp .eql T3 (.tmp 16) (.const (.int .i64 7)) T3,t11,p11,e11,none⟩,
    oT 24 25 t12 p12 e12]⟩ false) (.cond (.tmp 24) (.seq (Code.region i5 ⟨[⟨some 26,.makeSlice T22 (.const (.int .i64 16)) (.const (.int .i64 16)),t13,p13,e13,none⟩,
    oT 13 26 t14 p14 e14]⟩ false) (.seq (Code.region i6 ⟨[oM 27 13 t15 p15 e15,
    oF 28 T26 11 1 t16 p16 e16,
    oL 29 T22 28 t17 p17 e17,⟨some 30,.call ⟨.builtin .copy,#[(.tmp 27),(.tmp 29)],#[T22,T22]⟩,t18,p18,e18,none⟩]⟩ false) (.seq (Code.region i7 ⟨[oM 31 13 t19 p19 e19,
    oT 12 31 t20 p20 e20]⟩ false) .ret))) (.seq (Code.region i8 ⟨[⟨some 33,.binOp .eql T3 (.tmp 16) (.const (.int .i64 8)) T3,t21,p21,e21,none⟩,
    oT 32 33 t22 p22 e22]⟩ false) (.cond (.tmp 32) (.seq (Code.region i9 ⟨[oF 34 T26 11 1 t23 p23 e23,
    oL 35 T22 34 t24 p24 e24,
    oC 36 f54 #[(.tmp 35)] a0 t25 p25 e25,
    oT 14 36 t26 p26 e26]⟩ false) (.seq (.seq (Code.region i10 ⟨[oM 37 2 t27 p27 e27]⟩ false) (.cond (.tmp 37) (Code.region i11 ⟨[oA 14 (.const (.slice none 0 0)) t28 p28 e28]⟩ false) .skip)) (.seq (Code.region i12 ⟨[oM 38 4 t29 p29 e29,
    oM 39 2 t30 p30 e30,
    oM 40 14 t31 p31 e31,⟨some 41,.call ⟨.builtin .len,#[(.tmp 40)],#[T22]⟩,t32,p32,e32,none⟩,
    oC 42 f74 #[(.tmp 38),(.tmp 39),(.tmp 41),(.const (.int .i64 2))] a1 t33 p33 e33,
    oM 43 14 t34 p34 e34,⟨some 44,.call ⟨.builtin .append,#[(.tmp 42),(.tmp 43)],#[T22,T22]⟩,t35,p35,e35,none⟩,
    oT 12 44 t36 p36 e36]⟩ false) .ret))) (.seq (Code.region i13 ⟨[⟨some 46,.binOp .eql T3 (.tmp 16) (.const (.int .i64 9)) T3,t37,p37,e37,none⟩,
    oT 45 46 t38 p38 e38]⟩ false) (.cond (.tmp 45) (.seq (Code.region i14 ⟨[oF 47 T26 11 1 t39 p39 e39,
    oL 48 T22 47 t40 p40 e40,
    oC 49 f54 #[(.tmp 48)] a2 t41 p41 e41,
    oT 15 49 t42 p42 e42]⟩ false) (.seq (.seq (Code.region i15 ⟨[oM 50 2 t43 p43 e43]⟩ false) (.cond (.tmp 50) (Code.region i16 ⟨[oA 15 (.const (.slice none 0 0)) t44 p44 e44]⟩ false) .skip)) (.seq (Code.region i17 ⟨[oM 51 4 t45 p45 e45,
    oM 52 2 t46 p46 e46,
    oM 53 15 t47 p47 e47,⟨some 54,.call ⟨.builtin .len,#[(.tmp 53)],#[T22]⟩,t48,p48,e48,none⟩,
    oC 55 f74 #[(.tmp 51),(.tmp 52),(.tmp 54),(.const (.int .i64 4))] a3 t49 p49 e49,
    oM 56 15 t50 p50 e50,⟨some 57,.call ⟨.builtin .append,#[(.tmp 55),(.tmp 56)],#[T22,T22]⟩,t51,p51,e51,none⟩,
    oT 12 57 t52 p52 e52]⟩ false) .ret))) (.seq (Code.region i18 ⟨[⟨some 59,.binOp .eql T3 (.tmp 16) (.const (.int .i64 10)) T3,t53,p53,e53,none⟩,
    oT 58 59 t54 p54 e54]⟩ false) (.cond (.tmp 58) (.seq (Code.region i19 ⟨[oM 60 1 t55 p55 e55,
    oM 61 3 t56 p56 e56,
    oM 62 4 t57 p57 e57,
    oL 63 T26 11 t58 p58 e58,
    oC 64 f26 #[(.tmp 60),(.tmp 61),(.tmp 62),(.tmp 63)] a4 t59 p59 e59,
    oT 12 64 t60 p60 e60]⟩ false) .ret) .skip)))))))))))) (.seq (Code.region i20 ⟨[oF 65 T26 11 0 t61 p61 e61,
    oL 66 T2 65 t62 p62 e62,
    oM 67 0 t63 p63 e63,
    oC 68 f77 #[(.tmp 67)] a5 t64 p64 e64,
    oC 69 f76 #[(.tmp 66),(.tmp 68)] a6 t65 p65 e65,
    oT 12 69 t66 p66 e66]⟩ true) .ret))))
    (hs_T22:Z3 P T22 te 1 1=true) (hz_T22:ZG P te [.int .u8 0]) (hFlT26:Flat P T26 zT) (hcT2:scal P T2=true) (hT2_i64:Zk P T2 .i64=true) (hT5_u8:Zk P T5 .u8=true) (hcT22:scal P T22=true) (hsT22:slTy P T22=true) (he20:Z0I 0 [e61,e62,e63,e64,e65,e66] [[],[0],[],[2],[0,1,2,3],[0,1,2,3,4]]=true) (hmx:P.follows .mixedOrders=true) (hWh:Z75 P f54) (hCo:Z77 P f74) (hPa:Z1U P f26 fs sub) (hWi:Z74 P f77) (hFx:FixM P f76):Z2t P f fs sub:=by
  refine ⟨enters_of hf hname hbody,?_⟩;intro w A B v ver flex null kind ct t hfs ht hA hB hlen
  cases t with
  | mk n s nl l u =>
  have ht0:=ht;obtain ⟨sv,lv,uv,rfl,hn,hs,hl,hu⟩:=Z0O.1 ht;refine calls_of_wp hf hbody ?_;generalize ha0:({ tmps:=#[Value.int .i64 kind,v,Value.bool null,Value.int .i64 ver,Value.bool flex,Value.agg ([.int .i64 n,sv,.bool nl,lv,uv]:List Value).toArray]++Array.replicate (fn.ntmps - (#[Value.int .i64 kind,v,Value.bool null,Value.int .i64 ver,Value.bool flex,Value.agg ([.int .i64 n,sv,.bool nl,lv,uv]:List Value).toArray]:Array Value).size) undef,defers:=[] }:Act)=a0;have hz0:a0.tmps.size=70:=by subst ha0;simp[hN]
  have hd0:a0.defers=[]:=by subst ha0;rfl
  have g0_0:get a0 0 = .int .i64 kind:=by subst ha0;exact gAr rfl
  have g0_1:get a0 1=v:=by subst ha0;exact gAr rfl
  have g0_2:get a0 2 = .bool null:=by subst ha0;exact gAr rfl
  have g0_3:get a0 3 = .int .i64 ver:=by subst ha0;exact gAr rfl
  have g0_4:get a0 4 = .bool flex:=by subst ha0;exact gAr rfl
  have g0_5:get a0 5 = .agg ([.int .i64 n,sv,.bool nl,lv,uv]:List Value).toArray:=by subst ha0;exact gAr rfl
  refine wT fun K1 hK1=>?_;refine wC (ZS (cs:=[.int .i64 n,sv,.bool nl,lv,uv]) (eK g0_5) ?_);rintro w2 f2 sz2 r2 th2;have hF3:Fr [] w w2:=f2;refine wC (wAs (v:=.slice none 0 0) rfl ?_);refine wEk hz0 hd0 fun a4 ha4 hz4 hd4=>?_;have g4_0:=kP ha4 g0_0;have g4_1:=kP ha4 g0_1;have g4_2:=kP ha4 g0_2;have g4_3:=kP ha4 g0_3;have g4_4:=kP ha4 g0_4;have g4_11:get a4 11 = .pointer (some ⟨w.heap.size,0,none⟩):=kG ha4 hz0;refine hK1 a4 w2 (tUp ?_);refine tId (wp_seq_k fun K5 hK5=>?_);refine wS fun K6 hK6=>?_;refine wC (wMv (v:=.int .i64 kind) (eK g4_0) ?_);refine wEk hz4 hd4 fun a7 ha7 hz7 hd7=>?_;have g7_0:=kP ha7 g4_0;have g7_1:=kP ha7 g4_1;have g7_2:=kP ha7 g4_2;have g7_3:=kP ha7 g4_3;have g7_4:=kP ha7 g4_4;have g7_11:=kP ha7 g4_11;have g7_16:get a7 16 = .int .i64 kind:=kG ha7 hz4;refine hK6 a7 w2 ?_;refine Zm ?_;refine wS fun K8 hK8=>?_;refine wC (Z0h (k1:=.i64) (i:=kind) (j:=0) (eK g7_16) rfl ?_);refine wC (wAs (v:=.bool ((kind:Int)==(0:Int))) (eS hz7) ?_);refine wEk hz7 hd7 fun a9 ha9 hz9 hd9=>?_;have g9_0:=kP ha9 g7_0;have g9_1:=kP ha9 g7_1;have g9_2:=kP ha9 g7_2;have g9_3:=kP ha9 g7_3;have g9_4:=kP ha9 g7_4;have g9_11:=kP ha9 g7_11;have g9_16:=kP ha9 g7_16;have g9_17:get a9 17 = .bool ((kind:Int)==(0:Int)):=kG ha9 hz7;refine hK8 a9 w2 ?_;refine wp_cond_split (t:=((kind:Int)==(0:Int))) (eK g9_17) (fun hc10=>?_) (fun hc10=>?_)
  · have hk0 : kind = 0 := by simpa using hc10
    refine wp_seq_k fun K11 hK11=>?_;have hW:Zh kind (sub ver flex) null flex (.mk n s nl l u)=[UInt8.ofNat (n % 2).toNat]:=by simp[Zh,hk0,T.n]
    rw[hW] at hlen;refine Z2 ?_;refine wC (wFa (b:=w.heap.size) (i:=0) (hFlT26.fld (by decide)) (eK g9_11) ?_);rw[show (0+0:Nat)=0 from rfl];refine wC (wL0 (j:=0) (v:=.int .i64 n) hcT2 (eS hz9) r2 rfl ?_);refine wC (Z0T (k1:=.i64) (i:=n) (j:=1) (eS hz9) rfl ?_);rw[band1];refine wC (wCv (k1:=.i64) (i:=n % 2) hT2_i64 hT5_u8 (eS hz9) ?_);rw[show (IntKind.u8.wrap (n % 2:Int))=(((UInt8.ofNat (n % 2).toNat).toNat:Int):Int) from Z7w n];refine wC (wp_litO (c:=UInt8.ofNat (n % 2).toNat) hs_T22 (eS hz9) ?_);rintro x12 w12 fr12 ow12;have hF13:Fr [] w w12:=hF3.tr fr12;have rb14:=fr12.range r2 .nil;refine wC (wAs (v:=x12) (eS hz9) ?_);refine wEk hz9 hd9 fun a15 ha15 hz15 hd15=>?_;have g15_12:get a15 12=x12:=kG ha15 hz9;refine hK11 a15 w12 ?_;refine wp_ret ?_;rw[hW];exact ⟨hd15,_,rIs hres g15_12,_,rfl,hF13,ow12.from hF3.size⟩
  have hn0:kind ≠ 0:=by simpa using hc10
  refine wS fun K16 hK16=>?_;refine wC (Z0h (k1:=.i64) (i:=kind) (j:=7) (eK g9_16) rfl ?_);refine wC (wAs (v:=.bool ((kind:Int)==(7:Int))) (eS hz9) ?_);refine wEk hz9 hd9 fun a17 ha17 hz17 hd17=>?_;have g17_0:=kP ha17 g9_0;have g17_1:=kP ha17 g9_1;have g17_2:=kP ha17 g9_2;have g17_3:=kP ha17 g9_3;have g17_4:=kP ha17 g9_4;have g17_11:=kP ha17 g9_11;have g17_16:=kP ha17 g9_16;have g17_24:get a17 24 = .bool ((kind:Int)==(7:Int)):=kG ha17 hz9;refine hK16 a17 w2 ?_;refine wp_cond_split (t:=((kind:Int)==(7:Int))) (eK g17_24) (fun hc18=>?_) (fun hc18=>?_)
  · have hk7 : kind = 7 := by simpa using hc18
    refine wp_seq_k fun K19 hK19=>?_;have hW:Zh kind (sub ver flex) null flex (.mk n s nl l u)=Z3U s:=by simp[Zh,hk7,T.s]
    rw[hW] at hlen;refine Z2 ?_;refine wC (wp_make (n:=16) hs_T22 hz_T22 (by decide) (by decide) ?_);have fr20:=Fr.alloc [] w2 (.cells (madeCells ([.int .u8 0]:List Value).toArray (16 * 1)) te);have rg20:(w2.alloc (.cells (madeCells ([.int .u8 0]:List Value).toArray (16 * 1)) te)).rangeAt w2.heap.size 0 (Z0 (List.replicate 16 0)):=by rw[made16];simpa using ZE w2 (Z0 (List.replicate 16 0)).toArray te (0,0)
    have th20:(w2.alloc (.cells (madeCells ([.int .u8 0]:List Value).toArray (16 * 1)) te)).there w2.heap.size 0 16:=by rw[made16];simpa [lOc] using Zy w2 (Z0 (List.replicate 16 0)).toArray te
    have sz20:=Zb w2 (.cells (madeCells ([.int .u8 0]:List Value).toArray (16 * 1)) te);generalize w2.alloc (.cells (madeCells ([.int .u8 0]:List Value).toArray (16 * 1)) te)=w20 at fr20 rg20 th20 sz20 ⊢;have hF21:Fr [] w w20:=hF3.tr fr20;have rb22:=fr20.range r2 .nil;refine wC (wAs (v:=.slice (some ⟨w2.heap.size,0,none⟩) 16 16) (eS hz17) ?_);refine wEk hz17 hd17 fun a23 ha23 hz23 hd23=>?_;have g23_11:=kP ha23 g17_11;have g23_13:get a23 13 = .slice (some ⟨w2.heap.size,0,none⟩) 16 16:=kG ha23 hz17;refine hK19 a23 w20 ?_;refine wS fun K24 hK24=>?_;refine wC (wMv (v:=.slice (some ⟨w2.heap.size,0,none⟩) 16 16) (eK g23_13) ?_);refine wC (wFa (b:=w.heap.size) (i:=0) (hFlT26.fld (by decide)) (eK g23_11) ?_);rw[show (0+1:Nat)=1 from rfl];refine wC (wL0 (j:=1) (v:=sv) hcT22 (eS hz23) rb22 rfl ?_);refine wC (wp_copyU (xs:=s) (b:=w2.heap.size) hs_T22 (eS hz23) (eS hz23) (hs.kept hF21 (by simp) (fun _ h=>h)) rg20 th20 ?_);rintro w25 u25 f25 r25;have hF25:Fr [] w w25:=hF21.trans f25 (fun r hr=>.inl (by simp at hr;subst hr;exact hF3.size));refine wEk hz23 hd23 fun a26 ha26 hz26 hd26=>?_;have g26_13:=kP ha26 g23_13;refine hK24 a26 w25 ?_;refine wS fun K27 hK27=>?_;refine wC (wMv (v:=.slice (some ⟨w2.heap.size,0,none⟩) 16 16) (eK g26_13) ?_);refine wC (wAs (v:=.slice (some ⟨w2.heap.size,0,none⟩) 16 16) (eS hz26) ?_);refine wEk hz26 hd26 fun a28 ha28 hz28 hd28=>?_;have g28_12:get a28 12 = .slice (some ⟨w2.heap.size,0,none⟩) 16 16:=kG ha28 hz26;refine hK27 a28 w25 ?_;refine wp_ret ?_;rw[hW];refine ⟨hd28,_,rIs hres g28_12,_,rfl,hF25,by rw[lOc,Nat.mul_one],.inr ⟨w2.heap.size,0,16,⟨hF3.size,by have:=f25.size;omega⟩,by rw[Z3w],by rw[Z3w];exact Nat.le_refl _,by decide,r25,f25.there th20⟩⟩
  have hn7:kind ≠ 7:=by simpa using hc18
  refine wS fun K29 hK29=>?_;refine wC (Z0h (k1:=.i64) (i:=kind) (j:=8) (eK g17_16) rfl ?_);refine wC (wAs (v:=.bool ((kind:Int)==(8:Int))) (eS hz17) ?_);refine wEk hz17 hd17 fun a30 ha30 hz30 hd30=>?_;have g30_0:=kP ha30 g17_0;have g30_1:=kP ha30 g17_1;have g30_2:=kP ha30 g17_2;have g30_3:=kP ha30 g17_3;have g30_4:=kP ha30 g17_4;have g30_11:=kP ha30 g17_11;have g30_16:=kP ha30 g17_16;have g30_32:get a30 32 = .bool ((kind:Int)==(8:Int)):=kG ha30 hz17;refine hK29 a30 w2 ?_;refine wp_cond_split (t:=((kind:Int)==(8:Int))) (eK g30_32) (fun hc31=>?_) (fun hc31=>?_)
  · have hk8 : kind = 8 := by simpa using hc31
    refine wS fun K32 hK32=>?_;refine wC (wFa (b:=w.heap.size) (i:=0) (hFlT26.fld (by decide)) (eK g30_11) ?_);rw[show (0+1:Nat)=1 from rfl];refine wC (wL0 (j:=1) (v:=sv) hcT22 (eS hz30) r2 rfl ?_);refine wC (wCr (R:=fun x w'=>OctE w' B x (Zd s)∧w2=w') (vs:=#[sv]) hWh.enters (mX1 (eS hz30)) ((hWh.call w2 B sv s (hs.kept hF3 (by simp) (fun _ h=>h))).mono (by rintro e w' ⟨x,rfl,h1,rfl⟩;exact ⟨x,rfl,h1,rfl⟩)) ?_);rintro x33 _ ⟨hx33,rfl⟩;obtain ⟨q33,c33,rfl,hcc33,-,-⟩:=hx33.slice2;refine wC (wAs (v:=.slice q33 ((Zd s).length) c33) (eS hz30) ?_);refine wEk hz30 hd30 fun a34 ha34 hz34 hd34=>?_;have g34_2:=kP ha34 g30_2;have g34_4:=kP ha34 g30_4;have g34_14:get a34 14 = .slice q33 ((Zd s).length) c33:=kG ha34 hz30;refine hK32 a34 w2 ?_;refine wp_seq_k fun K35 hK35=>?_;refine wS fun K36 hK36=>?_;refine wC (wMv (v:=.bool null) (eK g34_2) ?_);refine wEk hz34 hd34 fun a37 ha37 hz37 hd37=>?_;have g37_2:=kP ha37 g34_2;have g37_4:=kP ha37 g34_4;have g37_14:=kP ha37 g34_14;have g37_37:get a37 37 = .bool null:=kG ha37 hz34;refine hK36 a37 w2 ?_;refine wp_cond_split (t:=null) (eK g37_37) (fun hc38=>?_) (fun hc38=>?_)
    · have hnu : null = true := hc38;refine Z2 ?_;refine wC (wAs (v := .slice none 0 0) rfl ?_);refine wEk hz37 hd37 fun a39 ha39 hz39 hd39 => ?_;have g39_2 := kP ha39 g37_2;have g39_4 := kP ha39 g37_4;have g39_14 : get a39 14 = .slice none 0 0 := kG ha39 hz37;refine hK35 a39 w2 ?_;refine wp_seq_k fun K40 hK40 => ?_;have hW : Zh kind (sub ver flex) null flex (.mk n s nl l u) = Zi flex null ([] : List UInt8).length 2 ++ [] := by simp only [Zh, hk8, hnu, T.s]; simp
      rw[hW] at hlen;refine Z2 ?_;refine wC (wMv (v:=.bool flex) (eK g39_4) ?_);refine wC (wMv (v:=.bool null) (eK g39_2) ?_);refine wC (wMv (v:=.slice none 0 0) (eK g39_14) ?_);refine wC (Zs (n:=0) hsT22 (eS hz39) ?_);refine wC (wCr (R:=fun x w'=>Fr [] w2 w'∧Own w' (From w2.heap.size w') 1 x (Zi flex null 0 2).length (Z0 (Zi flex null 0 2))) (vs:=#[.bool flex,.bool null,.int .i64 ((0:Nat):Int),.int .i64 2]) hCo.enters (by simp only[List.map_toArray,List.map_cons,List.map_nil];rw[eTm,nZ (by decide),nZ (by decide),nZ (by decide),sZ hz39 (by decide),eTm,nZ (by decide),nZ (by decide),sZ (zZ hz39) (by decide),eTm,sZ (zZ (zZ (zZ hz39))) (by decide),show ((((a39.put (some 38) (.bool flex)).put (some 39) (.bool null)).put (some 40) (.slice none 0 0)).put (some 41) (.int .i64 ((0:Nat):Int))).eval (.const (.int .i64 2))=Value.int .i64 2 from rfl]) (Za (hCo.call w2 flex null 0 2 (by decide) (by decide))) ?_);rintro x41 w41 ⟨fr41,ow41⟩;have hF42:Fr [] w w41:=hF3.tr fr41;have rb43:=fr41.range r2 .nil;refine wC (wMv (v:=.slice none 0 0) (eK g39_14) ?_);refine wC (Z0d hs_T22 hz_T22 (eS hz39) (eS hz39) ow41 (OctE.nil (A:=B)) (by rw[← List.length_append];exact hlen) ?_);rintro v44 w44 fa44 oa44 sp44 -;refine wC (wAs (v:=v44) (eS hz39) ?_);refine wEk hz39 hd39 fun a45 ha45 hz45 hd45=>?_;have g45_12:get a45 12=v44:=kG ha45 hz39;refine hK40 a45 w44 ?_;refine wp_ret ?_;rw[hW];exact ⟨hd45,_,rIs hres g45_12,_,rfl,Z0G hF42 fa44 (ow41.from hF3.size) (fun b hb=>hb.1),oa44.imp_A (Z51 hF3.size fr41.size fa44.size)⟩
    have hnu:null=false:=hc38;refine wp_skip ?_;refine hK35 a37 w2 ?_;refine wp_seq_k fun K46 hK46=>?_;have hW:Zh kind (sub ver flex) null flex (.mk n s nl l u)=Zi flex null (Zd s:List UInt8).length 2++Zd s:=by simp only[Zh,hk8,hnu,T.s];simp
    rw[hW] at hlen;refine Z2 ?_;refine wC (wMv (v:=.bool flex) (eK g37_4) ?_);refine wC (wMv (v:=.bool null) (eK g37_2) ?_);refine wC (wMv (v:=.slice q33 ((Zd s).length) c33) (eK g37_14) ?_);refine wC (Zs (n:=(Zd s).length) hsT22 (eS hz37) ?_);refine wC (wCr (R:=fun x w'=>Fr [] w2 w'∧Own w' (From w2.heap.size w') 1 x (Zi flex null (Zd s).length 2).length (Z0 (Zi flex null (Zd s).length 2))) (vs:=#[.bool flex,.bool null,.int .i64 (((Zd s).length:Nat):Int),.int .i64 2]) hCo.enters (by simp only[List.map_toArray,List.map_cons,List.map_nil];rw[eTm,nZ (by decide),nZ (by decide),nZ (by decide),sZ hz37 (by decide),eTm,nZ (by decide),nZ (by decide),sZ (zZ hz37) (by decide),eTm,sZ (zZ (zZ (zZ hz37))) (by decide),show ((((a37.put (some 38) (.bool flex)).put (some 39) (.bool null)).put (some 40) (.slice q33 ((Zd s).length) c33)).put (some 41) (.int .i64 (((Zd s).length:Nat):Int))).eval (.const (.int .i64 2))=Value.int .i64 2 from rfl]) (Za (hCo.call w2 flex null (Zd s).length 2 (by simp[Zd];omega) (by decide))) ?_);rintro x47 w47 ⟨fr47,ow47⟩;have hF48:Fr [] w w47:=hF3.tr fr47;have rb49:=fr47.range r2 .nil;refine wC (wMv (v:=.slice q33 ((Zd s).length) c33) (eK g37_14) ?_);refine wC (Z0d hs_T22 hz_T22 (eS hz37) (eS hz37) ow47 (hx33.kept fr47 (by simp) (fun _ h=>h):OctE _ B _ _) (by rw[← List.length_append];exact hlen) ?_);rintro v50 w50 fa50 oa50 sp50 -;refine wC (wAs (v:=v50) (eS hz37) ?_);refine wEk hz37 hd37 fun a51 ha51 hz51 hd51=>?_;have g51_12:get a51 12=v50:=kG ha51 hz37;refine hK46 a51 w50 ?_;refine wp_ret ?_;rw[hW];exact ⟨hd51,_,rIs hres g51_12,_,rfl,Z0G hF48 fa50 (ow47.from hF3.size) (fun b hb=>hb.1),oa50.imp_A (Z51 hF3.size fr47.size fa50.size)⟩
  have hn8:kind ≠ 8:=by simpa using hc31
  refine wS fun K52 hK52=>?_;refine wC (Z0h (k1:=.i64) (i:=kind) (j:=9) (eK g30_16) rfl ?_);refine wC (wAs (v:=.bool ((kind:Int)==(9:Int))) (eS hz30) ?_);refine wEk hz30 hd30 fun a53 ha53 hz53 hd53=>?_;have g53_0:=kP ha53 g30_0;have g53_1:=kP ha53 g30_1;have g53_2:=kP ha53 g30_2;have g53_3:=kP ha53 g30_3;have g53_4:=kP ha53 g30_4;have g53_11:=kP ha53 g30_11;have g53_16:=kP ha53 g30_16;have g53_45:get a53 45 = .bool ((kind:Int)==(9:Int)):=kG ha53 hz30;refine hK52 a53 w2 ?_;refine wp_cond_split (t:=((kind:Int)==(9:Int))) (eK g53_45) (fun hc54=>?_) (fun hc54=>?_)
  · have hk9 : kind = 9 := by simpa using hc54
    refine wS fun K55 hK55=>?_;refine wC (wFa (b:=w.heap.size) (i:=0) (hFlT26.fld (by decide)) (eK g53_11) ?_);rw[show (0+1:Nat)=1 from rfl];refine wC (wL0 (j:=1) (v:=sv) hcT22 (eS hz53) r2 rfl ?_);refine wC (wCr (R:=fun x w'=>OctE w' B x (Zd s)∧w2=w') (vs:=#[sv]) hWh.enters (mX1 (eS hz53)) ((hWh.call w2 B sv s (hs.kept hF3 (by simp) (fun _ h=>h))).mono (by rintro e w' ⟨x,rfl,h1,rfl⟩;exact ⟨x,rfl,h1,rfl⟩)) ?_);rintro x56 _ ⟨hx56,rfl⟩;obtain ⟨q56,c56,rfl,hcc56,-,-⟩:=hx56.slice2;refine wC (wAs (v:=.slice q56 ((Zd s).length) c56) (eS hz53) ?_);refine wEk hz53 hd53 fun a57 ha57 hz57 hd57=>?_;have g57_2:=kP ha57 g53_2;have g57_4:=kP ha57 g53_4;have g57_15:get a57 15 = .slice q56 ((Zd s).length) c56:=kG ha57 hz53;refine hK55 a57 w2 ?_;refine wp_seq_k fun K58 hK58=>?_;refine wS fun K59 hK59=>?_;refine wC (wMv (v:=.bool null) (eK g57_2) ?_);refine wEk hz57 hd57 fun a60 ha60 hz60 hd60=>?_;have g60_2:=kP ha60 g57_2;have g60_4:=kP ha60 g57_4;have g60_15:=kP ha60 g57_15;have g60_50:get a60 50 = .bool null:=kG ha60 hz57;refine hK59 a60 w2 ?_;refine wp_cond_split (t:=null) (eK g60_50) (fun hc61=>?_) (fun hc61=>?_)
    · have hnu : null = true := hc61;refine Z2 ?_;refine wC (wAs (v := .slice none 0 0) rfl ?_);refine wEk hz60 hd60 fun a62 ha62 hz62 hd62 => ?_;have g62_2 := kP ha62 g60_2;have g62_4 := kP ha62 g60_4;have g62_15 : get a62 15 = .slice none 0 0 := kG ha62 hz60;refine hK58 a62 w2 ?_;refine wp_seq_k fun K63 hK63 => ?_;have hW : Zh kind (sub ver flex) null flex (.mk n s nl l u) = Zi flex null ([] : List UInt8).length 4 ++ [] := by simp only [Zh, hk9, hnu, T.s]; simp
      rw[hW] at hlen;refine Z2 ?_;refine wC (wMv (v:=.bool flex) (eK g62_4) ?_);refine wC (wMv (v:=.bool null) (eK g62_2) ?_);refine wC (wMv (v:=.slice none 0 0) (eK g62_15) ?_);refine wC (Zs (n:=0) hsT22 (eS hz62) ?_);refine wC (wCr (R:=fun x w'=>Fr [] w2 w'∧Own w' (From w2.heap.size w') 1 x (Zi flex null 0 4).length (Z0 (Zi flex null 0 4))) (vs:=#[.bool flex,.bool null,.int .i64 ((0:Nat):Int),.int .i64 4]) hCo.enters (by simp only[List.map_toArray,List.map_cons,List.map_nil];rw[eTm,nZ (by decide),nZ (by decide),nZ (by decide),sZ hz62 (by decide),eTm,nZ (by decide),nZ (by decide),sZ (zZ hz62) (by decide),eTm,sZ (zZ (zZ (zZ hz62))) (by decide),show ((((a62.put (some 51) (.bool flex)).put (some 52) (.bool null)).put (some 53) (.slice none 0 0)).put (some 54) (.int .i64 ((0:Nat):Int))).eval (.const (.int .i64 4))=Value.int .i64 4 from rfl]) (Za (hCo.call w2 flex null 0 4 (by decide) (by decide))) ?_);rintro x64 w64 ⟨fr64,ow64⟩;have hF65:Fr [] w w64:=hF3.tr fr64;have rb66:=fr64.range r2 .nil;refine wC (wMv (v:=.slice none 0 0) (eK g62_15) ?_);refine wC (Z0d hs_T22 hz_T22 (eS hz62) (eS hz62) ow64 (OctE.nil (A:=B)) (by rw[← List.length_append];exact hlen) ?_);rintro v67 w67 fa67 oa67 sp67 -;refine wC (wAs (v:=v67) (eS hz62) ?_);refine wEk hz62 hd62 fun a68 ha68 hz68 hd68=>?_;have g68_12:get a68 12=v67:=kG ha68 hz62;refine hK63 a68 w67 ?_;refine wp_ret ?_;rw[hW];exact ⟨hd68,_,rIs hres g68_12,_,rfl,Z0G hF65 fa67 (ow64.from hF3.size) (fun b hb=>hb.1),oa67.imp_A (Z51 hF3.size fr64.size fa67.size)⟩
    have hnu:null=false:=hc61;refine wp_skip ?_;refine hK58 a60 w2 ?_;refine wp_seq_k fun K69 hK69=>?_;have hW:Zh kind (sub ver flex) null flex (.mk n s nl l u)=Zi flex null (Zd s:List UInt8).length 4++Zd s:=by simp only[Zh,hk9,hnu,T.s];simp
    rw[hW] at hlen;refine Z2 ?_;refine wC (wMv (v:=.bool flex) (eK g60_4) ?_);refine wC (wMv (v:=.bool null) (eK g60_2) ?_);refine wC (wMv (v:=.slice q56 ((Zd s).length) c56) (eK g60_15) ?_);refine wC (Zs (n:=(Zd s).length) hsT22 (eS hz60) ?_);refine wC (wCr (R:=fun x w'=>Fr [] w2 w'∧Own w' (From w2.heap.size w') 1 x (Zi flex null (Zd s).length 4).length (Z0 (Zi flex null (Zd s).length 4))) (vs:=#[.bool flex,.bool null,.int .i64 (((Zd s).length:Nat):Int),.int .i64 4]) hCo.enters (by simp only[List.map_toArray,List.map_cons,List.map_nil];rw[eTm,nZ (by decide),nZ (by decide),nZ (by decide),sZ hz60 (by decide),eTm,nZ (by decide),nZ (by decide),sZ (zZ hz60) (by decide),eTm,sZ (zZ (zZ (zZ hz60))) (by decide),show ((((a60.put (some 51) (.bool flex)).put (some 52) (.bool null)).put (some 53) (.slice q56 ((Zd s).length) c56)).put (some 54) (.int .i64 (((Zd s).length:Nat):Int))).eval (.const (.int .i64 4))=Value.int .i64 4 from rfl]) (Za (hCo.call w2 flex null (Zd s).length 4 (by simp[Zd];omega) (by decide))) ?_);rintro x70 w70 ⟨fr70,ow70⟩;have hF71:Fr [] w w70:=hF3.tr fr70;have rb72:=fr70.range r2 .nil;refine wC (wMv (v:=.slice q56 ((Zd s).length) c56) (eK g60_15) ?_);refine wC (Z0d hs_T22 hz_T22 (eS hz60) (eS hz60) ow70 (hx56.kept fr70 (by simp) (fun _ h=>h):OctE _ B _ _) (by rw[← List.length_append];exact hlen) ?_);rintro v73 w73 fa73 oa73 sp73 -;refine wC (wAs (v:=v73) (eS hz60) ?_);refine wEk hz60 hd60 fun a74 ha74 hz74 hd74=>?_;have g74_12:get a74 12=v73:=kG ha74 hz60;refine hK69 a74 w73 ?_;refine wp_ret ?_;rw[hW];exact ⟨hd74,_,rIs hres g74_12,_,rfl,Z0G hF71 fa73 (ow70.from hF3.size) (fun b hb=>hb.1),oa73.imp_A (Z51 hF3.size fr70.size fa73.size)⟩
  have hn9:kind ≠ 9:=by simpa using hc54
  refine wS fun K75 hK75=>?_;refine wC (Z0h (k1:=.i64) (i:=kind) (j:=10) (eK g53_16) rfl ?_);refine wC (wAs (v:=.bool ((kind:Int)==(10:Int))) (eS hz53) ?_);refine wEk hz53 hd53 fun a76 ha76 hz76 hd76=>?_;have g76_0:=kP ha76 g53_0;have g76_1:=kP ha76 g53_1;have g76_3:=kP ha76 g53_3;have g76_4:=kP ha76 g53_4;have g76_11:=kP ha76 g53_11;have g76_58:get a76 58 = .bool ((kind:Int)==(10:Int)):=kG ha76 hz53;refine hK75 a76 w2 ?_;refine wp_cond_split (t:=((kind:Int)==(10:Int))) (eK g76_58) (fun hc77=>?_) (fun hc77=>?_)
  · have hk10 : kind = 10 := by simpa using hc77
    refine wp_seq_k fun K78 hK78=>?_;have hW:Zh kind (sub ver flex) null flex (.mk n s nl l u)=sub ver flex (.mk n s nl l u):=by simp[Zh,hk10]
    rw[hW] at hlen;refine Z2 ?_;refine wC (wMv (v:=v) (eK g76_1) ?_);refine wC (wMv (v:=.int .i64 ver) (eK g76_3) ?_);refine wC (wMv (v:=.bool flex) (eK g76_4) ?_);refine wC (Z8 (cs:=[.int .i64 n,sv,.bool nl,lv,uv]) (b:=w.heap.size) (o:=0) hFlT26 rfl (eK g76_11) r2 ?_);refine wC (wCr (R:=fun x w'=>Fr [] w2 w'∧Own w' (From w2.heap.size w') 1 x (sub ver flex (.mk n s nl l u)).length (Z0 (sub ver flex (.mk n s nl l u)))) (vs:=#[v,.int .i64 ver,.bool flex,.agg ([.int .i64 n,sv,.bool nl,lv,uv]:List Value).toArray]) hPa.enters (mX4 (eS hz76) (eS hz76) (eS hz76) (eS hz76)) (Za (hPa.call w2 A B v ver flex _ _ (hfs.kept hF3 (by simp) (fun _ h=>h)) (ht0.kept hF3 (by simp) (fun _ h=>h)) (fun b hb=>Nat.lt_of_lt_of_le (hA b hb) hF3.size) (fun b hb=>Nat.lt_of_lt_of_le (hB b hb) hF3.size) hlen)) ?_);rintro x79 w79 ⟨fr79,ow79⟩;have hF80:Fr [] w w79:=hF3.tr fr79;have rb81:=fr79.range r2 .nil;refine wC (wAs (v:=x79) (eS hz76) ?_);refine wEk hz76 hd76 fun a82 ha82 hz82 hd82=>?_;have g82_12:get a82 12=x79:=kG ha82 hz76;refine hK78 a82 w79 ?_;refine wp_ret ?_;rw[hW];exact ⟨hd82,_,rIs hres g82_12,_,rfl,hF80,ow79.from hF3.size⟩
  have hn10:kind ≠ 10:=by simpa using hc77
  refine wp_skip ?_;refine hK5 a76 w2 (tUp ?_);refine tId (wp_seq_k fun K83 hK83=>?_);have hW:Zh kind (sub ver flex) null flex (.mk n s nl l u)=fxW n (Zg kind):=by simp[Zh,hn0,hn7,hn8,hn9,hn10,T.n]
  rw[hW] at hlen;have hwk:Zg kind≤8:=by unfold Zg;split;omega;split;omega;split <;> omega
  refine Z1d (os:=[oF 65 T26 11 0 t61 p61 e61,oL 66 T2 65 t62 p62 e62,oM 67 0 t63 p63 e63,oC 68 f77 #[(.tmp 67)] a5 t64 p64 e64]) (rest:=[oC 69 f76 #[(.tmp 66),(.tmp 68)] a6 t65 p65 e65,oT 12 69 t66 p66 e66]) [spC [] (.pointer (some ⟨w.heap.size,0,none⟩)),spC [0] (.int .i64 n),spC [] (.int .i64 kind),spC [2] (.int .i64 ((Zg kind:Nat):Int))] 65 [] hmx he20 (by simp[Z0B]) (by simp[Z1f]) (by simp[spC,spR]) (by simp;omega) ⟨lCc _ _ _,lCc _ _ _,lCc _ _ _,lCc _ _ _,trivial⟩ ?_ ?_
  · refine oCs ?_ ?_
    · refine op_c fun a' w' hk' hf' hd' K' hK'=>?_;refine wFa (b:=w.heap.size) (i:=0) (hFlT26.fld (by decide)) (by rw[eTm,hk'.get 11 (by omega),g76_11]) ?_;rw[show (0+0:Nat)=0 from rfl];exact hK'
    refine oCs ?_ ?_
    · refine op_c fun a' w' hk' hf' hd' K' hK'=>?_;refine wL0 (j:=0) (v:=.int .i64 n) hcT2 (by rw[eTm];exact hd'.c (nd':=[]) 0 (by simp) rfl) (hf'.range r2 .nil) rfl ?_;exact hK'
    refine oCs ?_ ?_
    · refine op_c fun a' w' hk' hf' hd' K' hK'=>?_;refine wMv (v:=.int .i64 kind) (by rw[eTm,hk'.get 0 (by omega),g76_0]) ?_;exact hK'
    refine oCs ?_ ?_
    · refine op_c fun a' w' hk' hf' hd' K' hK'=>?_;refine wCr (R:=fun x w2=>x = .int .i64 (Zg kind:Nat)∧w2=w') (vs:=#[.int .i64 kind]) hWi.enters (by simp only[List.map_toArray,List.map_cons,List.map_nil];rw[show a'.eval (.tmp 67)=Value.int .i64 kind from (by rw[eTm];exact hd'.c (nd':=[]) 2 (by simp) rfl)]) ((hWi.call w' kind).mono (by rintro e w2 ⟨rfl,rfl⟩;exact ⟨_,rfl,rfl,rfl⟩)) ?_;rintro _ _ ⟨rfl,rfl⟩;exact hK'
    exact ZY
  intro a84 w84 k84 f84 hd_84;have hz84:a84.tmps.size=70:=k84.size.trans hz76;have hd84:a84.defers=[]:=k84.defers.trans hd76;have g84_66:get a84 66 = .int .i64 n:=hd_84.c (nd':=[0]) 1 (by simp) rfl;have g84_68:get a84 68 = .int .i64 ((Zg kind:Nat):Int):=hd_84.c (nd':=[2]) 3 (by simp) rfl;have hF85:Fr [] w w84:=hF3.tr f84;have rb86:=f84.range r2 .nil;refine wC (wCr (R:=fun x w'=>Fr [] w84 w'∧Own w' (From w84.heap.size w') 1 x (fxW n (Zg kind)).length (Z0 (fxW n (Zg kind)))) (vs:=#[.int .i64 n,.int .i64 ((Zg kind:Nat):Int)]) hFx.enters (by simp only[List.map_toArray,List.map_cons,List.map_nil];rw[show a84.eval (.tmp 66)=Value.int .i64 n from (eK g84_66),show a84.eval (.tmp 68)=Value.int .i64 ((Zg kind:Nat):Int) from (eK g84_68)]) (Za (hFx.call w84 n (Zg kind) hwk)) ?_);rintro x87 w87 ⟨fr87,ow87⟩;have hF88:Fr [] w w87:=hF85.tr fr87;have rb89:=fr87.range rb86 .nil;refine wC (wAs (v:=x87) (eS hz84) ?_);refine wEk hz84 hd84 fun a90 ha90 hz90 hd90=>?_;have g90_12:get a90 12=x87:=kG ha90 hz84;refine hK83 a90 w87 (tUp ?_);refine wp_ret ?_;rw[hW];exact ⟨hd90,_,rIs hres g90_12,_,rfl,hF88,ow87.from hF85.size⟩
end Go.Kq
