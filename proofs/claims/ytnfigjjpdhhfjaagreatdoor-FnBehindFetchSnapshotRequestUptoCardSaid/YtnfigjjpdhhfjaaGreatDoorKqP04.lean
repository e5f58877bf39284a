/- A part of the library: rules of reasoning about the program's operations and what its shared functions do. -/
import Derived.Test.YtnfigjjpdhhfjaaGreatDoorKqP03
import Derived.Laws.IdiomCopy
import Derived.Test.YtnfigjjpdhhfjaaGreatDoorKqP01
set_option linter.unusedVariables false
set_option linter.unusedSimpArgs false
namespace Go.Kq
open Go Go.Proofs
theorem Z4n {v:Value} {sz:Nat} (r:Rng) (h:r ∈ Z1 v sz):blk v=some r.b:=by
  unfold Z1 at h
  split at h
  · simp at h;subst h;rfl
  cases h
structure UnkM (P:Program) (f:FuncId):Prop where
  enters:Enters P f
  call:∀ (w:World) (A B:Nat→Prop) (v:Value) (fs:List Fd) (u:Value) (us:List (Nat × List UInt8)),FdsR w A v fs→(∀ f ∈ fs,f.tag < 4294967295)→Z1V w B u us→(∀ b,B b→b < w.heap.size) →
    Calls P f #[v,u] w fun e w'=>∃ x,e = .returned x∧Fr [] w w'∧Z1V w' (fun b=>B b∨From w.heap.size w' b) x (Zy fs us)
set_option maxHeartbeats 4000000 in
theorem Z7y {P:Program} {f:FuncId} {fn:Func} {T3 T24 T58 T60:TypeId} {f50:FuncId} {a0:Array TypeId} {i0 i1 i2 i3 i4 i5 i6 i7 i8 i9 i10 i11 i12 i14 i13 i15 i16 i17:Nat} {t0 t1 t2 t3 t4 t5 t6 t7 t8 t9 t10 t11 t12 t13 t14 t15 t16 t17 t18 t19 t20 t21 t22 t23 t24 t25 t26 t27 t28 t29 t30 t31 t32 t33 t34 t35 t36 t37 t38 t39 t40 t41 t42 t43 t44 t45 t46 t47 t48 t49 t50 t51 t52 t53 t54 t55 t56 t57 t58 t59 t60 t61 t62 t63 t64 t65 t66 t67 t68 t69 t70 t71 t72 t73 t74 t75 t76 t77 t78 t79 t80 t81 t82 t83 t84 t85 t86 t87:TypeId} {p0 p1 p2 p3 p4 p5 p6 p7 p8 p9 p10 p11 p12 p13 p14 p15 p16 p17 p18 p19 p20 p21 p22 p23 p24 p25 p26 p27 p28 p29 p30 p31 p32 p33 p34 p35 p36 p37 p38 p39 p40 p41 p42 p43 p44 p45 p46 p47 p48 p49 p50 p51 p52 p53 p54 p55 p56 p57 p58 p59 p60 p61 p62 p63 p64 p65 p66 p67 p68 p69 p70 p71 p72 p73 p74 p75 p76 p77 p78 p79 p80 p81 p82 p83 p84 p85 p86 p87:String} {e0 e1 e2 e3 e4 e5 e6 e7 e8 e9 e10 e11 e12 e13 e14 e15 e16 e17 e18 e19 e20 e21 e22 e23 e24 e25 e26 e27 e28 e29 e30 e31 e32 e33 e34 e35 e36 e37 e38 e39 e40 e41 e42 e43 e44 e45 e46 e47 e48 e49 e50 e51 e52 e53 e54 e55 e56 e57 e58 e59 e60 e61 e62 e63 e64 e65 e66 e67 e68 e69 e70 e71 e72 e73 e74 e75 e76 e77 e78 e79 e80 e81 e82 e83 e84 e85 e86 e87:Array Edge} {te:TypeId}
    (hf:P.funcs[f]?=some fn) (hname:nG fn=false) (hres:fn.results = #[.tmp 4]) (hN:fn.ntmps=85)
    (hbody:fn.body=some (.seq (Code.region i0 ⟨[oA 4 (.const (.slice none 0 0)) t0 p0 e0]⟩ false) (.seq (Code.region i1 ⟨[oM 11 0 t1 p1 e1,
    oC 12 f50 #[(.tmp 11)] a0 t2 p2 e2,
    oT 5 12 t3 p3 e3]⟩ false) (.seq (Code.region i2 ⟨[oA 6 (.const (.slice none 0 0)) t4 p4 e4]⟩ false) (.seq (.seq (Code.region i3 ⟨[oM 13 1 t5 p5 e5,
    oM 14 1 t6 p6 e6,⟨some 15,.call ⟨.builtin .len,#[(.tmp 14)],#[T24]⟩,t7,p7,e7,none⟩,⟨some 16,.call ⟨.builtin .min,#[(.tmp 15),(.const (.int .i64 32767))],#[T3,T3]⟩,t8,p8,e8,none⟩,⟨some 17,.slice T24 (.tmp 13) none (some (.tmp 16)) none,t9,p9,e9,none⟩,⟨some 18,.call ⟨.builtin .len,#[(.tmp 17)],#[T24]⟩,t10,p10,e10,none⟩,⟨some 19,.move (.const (.int .i64 0)),t11,p11,e11,none⟩]⟩ false) (.block 0 (.loop (.seq (Code.region i4 ⟨[⟨some 20,.binOp .lss T3 (.tmp 19) (.tmp 18) T3,t12,p12,e12,none⟩]⟩ false) (.seq (.cond (.tmp 20) .skip
  (.exit 0)) (.seq (.block 1 (.seq (Code.region i5 ⟨[⟨some 21,.indexAddr T24 (.tmp 17) (.tmp 19),t13,p13,e13,none⟩,
    oL 22 T60 21 t14 p14 e14,⟨some 8,.alloc T60,t15,p15,e15,none⟩,
    oS T60 8 22 t16 p16 e16]⟩ false) (.seq (Code.region i6 ⟨[oA 9 (.const (.int .i64 0)) t17 p17 e17]⟩ false) (.seq (.block 2 (.loop (.seq (.seq (Code.region i7 ⟨[oM 23 9 t18 p18 e18,
    oM 24 6 t19 p19 e19,⟨some 25,.call ⟨.builtin .len,#[(.tmp 24)],#[T24]⟩,t20,p20,e20,none⟩,⟨some 26,.binOp .lss T3 (.tmp 23) (.tmp 25) T3,t21,p21,e21,none⟩,
    oM 27 26 t22 p22 e22,⟨some 28,.move (.tmp 6),t23,p23,e23,some (4,true)⟩,⟨some 29,.move (.tmp 9),t24,p24,e24,some (4,true)⟩,⟨some 30,.indexAddr T24 (.tmp 28) (.tmp 29),t25,p25,e25,some (4,true)⟩,⟨some 31,.fieldAddr T60 (.tmp 30) 0,t26,p26,e26,some (4,true)⟩,⟨some 32,.load T58 (.tmp 31),t27,p27,e27,some (4,true)⟩,⟨some 33,.fieldAddr T60 (.tmp 8) 0,t28,p28,e28,some (4,true)⟩,⟨some 34,.load T58 (.tmp 33),t29,p29,e29,some (4,true)⟩,⟨some 35,.binOp .lss T58 (.tmp 32) (.tmp 34) T58,t30,p30,e30,some (4,true)⟩,⟨some 36,.pick (.tmp 27) (.tmp 35) (.const (.bool false)),t31,p31,e31,none⟩]⟩ true) (.cond (.tmp 36) .skip
  (.exit 2))) (.block 3 (Code.region i8 ⟨[oM 37 9 t32 p32 e32,⟨some 38,.binOp .add T3 (.tmp 37) (.const (.int .i64 1)) T3,t33,p33,e33,none⟩,
    oT 9 38 t34 p34 e34]⟩ false))))) (.seq (.seq (Code.region i9 ⟨[oF 39 T60 8 0 t35 p35 e35,
    oL 40 T58 39 t36 p36 e36,
    oM 41 5 t37 p37 e37,⟨some 42,.binOp .lss T58 (.tmp 40) (.tmp 41) T58,t38,p38,e38,none⟩,
    oM 43 42 t39 p39 e39,⟨some 44,.move (.tmp 9),t40,p40,e40,some (4,false)⟩,⟨some 45,.move (.tmp 6),t41,p41,e41,some (4,false)⟩,⟨some 46,.call ⟨.builtin .len,#[(.tmp 45)],#[T24]⟩,t42,p42,e42,some (4,false)⟩,⟨some 47,.binOp .lss T3 (.tmp 44) (.tmp 46) T3,t43,p43,e43,some (4,false)⟩,⟨some 48,.move (.tmp 47),t44,p44,e44,some (4,false)⟩,⟨some 49,.move (.tmp 6),t45,p45,e45,some (9,true)⟩,⟨some 50,.move (.tmp 9),t46,p46,e46,some (9,true)⟩,⟨some 51,.indexAddr T24 (.tmp 49) (.tmp 50),t47,p47,e47,some (9,true)⟩,⟨some 52,.fieldAddr T60 (.tmp 51) 0,t48,p48,e48,some (9,true)⟩,⟨some 53,.load T58 (.tmp 52),t49,p49,e49,some (9,true)⟩,⟨some 54,.fieldAddr T60 (.tmp 8) 0,t50,p50,e50,some (9,true)⟩,⟨some 55,.load T58 (.tmp 54),t51,p51,e51,some (9,true)⟩,⟨some 56,.binOp .eql T58 (.tmp 53) (.tmp 55) T58,t52,p52,e52,some (9,true)⟩,⟨some 57,.pick (.tmp 48) (.tmp 56) (.const (.bool false)),t53,p53,e53,some (4,false)⟩,⟨some 58,.pick (.tmp 43) (.const (.bool true)) (.tmp 57),t54,p54,e54,none⟩]⟩ true) (.cond (.tmp 58) (.exit 1) .skip)) (.seq (Code.region i10 ⟨[oM 59 6 t55 p55 e55,⟨some 60,.build T60 #[],t56,p56,e56,none⟩,⟨some 61,.buildSlice T24 1 #[(0,.tmp 60)],t57,p57,e57,none⟩,⟨some 62,.call ⟨.builtin .append,#[(.tmp 59),(.tmp 61)],#[T24,T24]⟩,t58,p58,e58,none⟩,
    oT 6 62 t59 p59 e59]⟩ false) (.seq (.seq (Code.region i11 ⟨[oM 63 6 t60 p60 e60,⟨some 64,.call ⟨.builtin .len,#[(.tmp 63)],#[T24]⟩,t61,p61,e61,none⟩,⟨some 65,.binOp .sub T3 (.tmp 64) (.const (.int .i64 1)) T3,t62,p62,e62,none⟩,
    oT 10 65 t63 p63 e63]⟩ false) (.block 4 (.loop (.seq (.seq (Code.region i12 ⟨[oM 66 10 t64 p64 e64,
    oM 67 9 t65 p65 e65,⟨some 68,.binOp .gtr T3 (.tmp 66) (.tmp 67) T3,t66,p66,e66,none⟩]⟩ false) (.cond (.tmp 68) .skip
  (.exit 4))) (.seq (.block 5 (Code.region i14 ⟨[oM 71 6 t67 p67 e67,
    oM 72 10 t68 p68 e68,
    oM 73 6 t69 p69 e69,
    oM 74 10 t70 p70 e70,⟨some 75,.binOp .sub T3 (.tmp 74) (.const (.int .i64 1)) T3,t71,p71,e71,none⟩,⟨some 76,.indexAddr T24 (.tmp 73) (.tmp 75),t72,p72,e72,none⟩,
    oL 77 T60 76 t73 p73 e73,⟨some 78,.indexAddr T24 (.tmp 71) (.tmp 72),t74,p74,e74,none⟩,
    oS T60 78 77 t75 p75 e75]⟩ false))
  (Code.region i13 ⟨[oM 69 10 t76 p76 e76,⟨some 70,.binOp .sub T3 (.tmp 69) (.const (.int .i64 1)) T3,t77,p77,e77,none⟩,
    oT 10 70 t78 p78 e78]⟩ false))))))
  (Code.region i15 ⟨[oM 79 6 t79 p79 e79,
    oM 80 9 t80 p80 e80,
    oL 81 T60 8 t81 p81 e81,⟨some 82,.indexAddr T24 (.tmp 79) (.tmp 80),t82,p82,e82,none⟩,
    oS T60 82 81 t83 p83 e83]⟩ false))))))))
  (Code.region i16 ⟨[⟨some 83,.binOp .add T3 (.tmp 19) (.const (.int .i64 1)) T3,t84,p84,e84,none⟩,
    oM 19 83 t85 p85 e85]⟩ false))))))) (.seq (Code.region i17 ⟨[oM 84 6 t86 p86 e86,
    oT 4 84 t87 p87 e87]⟩ false) .ret))))))
    (hsT24:slTy P T24=true) (hs_T24:Z4 P T24 te 2 32=true) (hFlT60:Flat P T60 zTag) (hz_T24:ZI P te zTag) (hcT58:scal P T58=true) (he9:Z0q 0 [e35,e36,e37,e38,e39,e40,e41,e42,e43,e44,e45,e46,e47,e48,e49,e50,e51,e52,e53,e54] [[],[0],[],[1,2],[3],[4],[4],[4,6],[4,5,7],[4,8],[9],[9],[9,10,11],[9,12],[9,13],[9],[9,15],[9,14,16],[4,9,17],[4,18]]=true) (hmx:P.follows .mixedOrders=true) (he7:Z0q 0 [e18,e19,e20,e21,e22,e23,e24,e25,e26,e27,e28,e29,e30,e31] [[],[],[1],[0,2],[3],[4],[4],[4,5,6],[4,7],[4,8],[4],[4,10],[4,9,11],[4,12]]=true) (hK:Z6M P f50):UnkM P f:=by
  refine ⟨enters_of hf hname hbody,?_⟩;intro w A B v fs u us hfs htag hus hB;obtain ⟨qu,capu,hu,hcu,hbu,hku⟩:=hus.sl2;subst hu;have hlt:=Z40 htag;refine calls_of_wp hf hbody ?_;generalize ha0:({ tmps:=#[v,Value.slice qu us.length capu]++Array.replicate (fn.ntmps - (#[v,Value.slice qu us.length capu]:Array Value).size) undef,defers:=[] }:Act)=a0;have hz0:a0.tmps.size=85:=by subst ha0;simp[hN]
  have hd0:a0.defers=[]:=by subst ha0;rfl
  have g0_0:get a0 0=v:=by subst ha0;exact gAr rfl
  have g0_1:get a0 1 = .slice qu us.length capu:=by subst ha0;exact gAr rfl
  refine wT fun K1 hK1=>?_;refine wC (wAs (v:=.slice none 0 0) rfl ?_);refine wEk hz0 hd0 fun a2 ha2 hz2 hd2=>?_;have g2_0:=kP ha2 g0_0;have g2_1:=kP ha2 g0_1;refine hK1 a2 w (tUp ?_);refine wT fun K3 hK3=>?_;refine wC (wMv (v:=v) (eK g2_0) ?_);refine wC (wCr (R:=fun x w'=>x = .int .u32 (Z5 fs:Nat)∧Fr [] w w') (vs:=#[v]) hK.enters (mX1 (eS hz2)) ((hK.call w A v fs hfs htag).mono (by rintro e w' ⟨rfl,hf⟩;exact ⟨_,rfl,rfl,hf⟩)) ?_);rintro x4 w4 ⟨rfl,f4⟩;have hF5:Fr [] w w4:=f4;refine wC (wAs (v:=.int .u32 ((Z5 fs:Nat):Int)) (eS hz2) ?_);refine wEk hz2 hd2 fun a6 ha6 hz6 hd6=>?_;have g6_1:=kP ha6 g2_1;have g6_5:get a6 5 = .int .u32 ((Z5 fs:Nat):Int):=kG ha6 hz2;refine hK3 a6 w4 (tUp ?_);refine wT fun K7 hK7=>?_;refine wC (wAs (v:=.slice none 0 0) rfl ?_);refine wEk hz6 hd6 fun a8 ha8 hz8 hd8=>?_;have g8_1:=kP ha8 g6_1;have g8_5:=kP ha8 g6_5;have g8_6:get a8 6 = .slice none 0 0:=kG ha8 hz6;refine hK7 a8 w4 (tUp ?_);refine tId (wp_seq_k fun K9 hK9=>?_);refine wS fun K10 hK10=>?_;refine wC (wMv (v:=.slice qu us.length capu) (eK g8_1) ?_);refine wC (wMv (v:=.slice qu us.length capu) (eK g8_1) ?_);refine wC (Zs (n:=us.length) hsT24 (eS hz8) ?_);refine wC (Z5H (k1:=.i64) (i:=us.length) (j:=32767) (eS hz8) rfl ?_);rw[show (if (32767:Int) < (us.length:Int) then (32767:Int) else us.length)=((min us.length 32767:Nat):Int) from by split <;> omega];refine wC (Z2b (k1:=.i64) (l:=min us.length 32767) hs_T24 (eS hz8) (eS hz8) (by omega) ?_);refine wC (Zs (n:=(min us.length 32767)) hsT24 (eS hz8) ?_);refine wC (wMv (v:=.int .i64 0) rfl ?_);refine wEk hz8 hd8 fun a11 ha11 hz11 hd11=>?_;have g11_5:=kP ha11 g8_5;have g11_6:=kP ha11 g8_6;have g11_17:get a11 17 = .slice qu (min us.length 32767) capu:=kG ha11 hz8;have g11_18:get a11 18 = .int .i64 (((min us.length 32767):Nat):Int):=kG ha11 hz8;have g11_19:get a11 19 = .int .i64 0:=kG ha11 hz8;refine hK10 a11 w4 ?_;refine wp_block (wp_loop_ghost (fun (m:Nat) a' w'=>∃ (j:Nat) (v6:Value) (cs:List (List Value)) (acc:List (Nat × List UInt8)),a'.tmps.size=85∧a'.defers=[]∧get a' 5 = .int .u32 ((Z5 fs:Nat):Int)∧get a' 6=v6∧get a' 17 = .slice qu (min us.length 32767) capu∧get a' 18 = .int .i64 ((min us.length 32767:Nat):Int)∧get a' 19 = .int .i64 (j:Int)∧j+m=(min us.length 32767)∧((us.take 32767).drop j).foldl (ZT (Z5 fs)) acc=Zy fs us∧acc.length≤j∧TgL w' B cs acc∧Own w' (From w.heap.size w') 2 v6 acc.length cs.flatten∧Fr [] w w') (min us.length 32767) ?_ ?_)
  · exact ⟨0,.slice none 0 0,[],[],hz11,hd11,g11_5,g11_6,g11_17,g11_18,g11_19,by omega,rfl,Nat.zero_le _,.nil,Own.nil,hF5⟩
  rintro m a12 w12 ⟨j,v6,cs,acc,hz12,hd12,g12_5,g12_6,g12_17,g12_18,g12_19,hjm,hacc,hal,htl,ho,hfw⟩;refine wS fun K13 hK13=>?_;refine wC (Z0g (k1:=.i64) (i:=(j:Int)) (j:=((min us.length 32767:Nat):Int)) (eK g12_19) (eK g12_18) ?_);refine wEk hz12 hd12 fun a14 ha14 hz14 hd14=>?_;have g14_5:=kP ha14 g12_5;have g14_6:=kP ha14 g12_6;have g14_17:=kP ha14 g12_17;have g14_18:=kP ha14 g12_18;have g14_19:=kP ha14 g12_19;have g14_20:get a14 20 = .bool (decide (((j:Int):Int) < (((min us.length 32767:Nat):Int):Int))):=kG ha14 hz12;refine hK13 a14 w12 ?_;refine wp_seq_k fun K15 hK15=>?_;refine wp_cond_split (t:=decide (((j:Int):Int) < (((min us.length 32767:Nat):Int):Int))) (eK g14_20) (fun hc16=>?_) (fun hc16=>?_)
  · have hjl : j < (min us.length 32767) := by simpa using hc16
    obtain ⟨⟨kk,x⟩,hp⟩:∃ p,us[j]?=some p:=⟨us[j]'(by omega),List.getElem?_eq_getElem (by omega)⟩;obtain ⟨bl,ol,xv,hq,hbl,hkk,hrl,hox⟩:=hku j kk x hp;have hdr:(us.take 32767).drop j=(kk,x)::(us.take 32767).drop (j+1):=by
      have h1:j < (us.take 32767).length:=by rw[List.length_take];omega
      rw[List.drop_eq_getElem_cons h1];congr 1;rw[List.getElem_take];rw[List.getElem?_eq_getElem (by omega)] at hp;exact Option.some.inj hp
    rw[hdr,List.foldl_cons] at hacc;refine wp_skip ?_;refine hK15 a14 w12 ?_;refine wp_seq_k fun K17 hK17=>?_;refine Zj ?_;refine wS fun K18 hK18=>?_;refine wC (Z10 (b:=bl) (o:=ol) (i:=j) hs_T24 (by rw[eTm,g14_17,hq]) (eK g14_19) hjl ?_);refine wC (Z7 (cs:=[.int .u32 ((kk:Nat):Int),xv]) (b:=bl) (o:=ol+j * 2) hFlT60 rfl (eS hz14) (hfw.range hrl .nil) ?_);refine wC (Z0w hFlT60 ?_);rintro w19 f19 sz19 r19 th19;have hF20:Fr [] w w19:=hfw.tr f19;have hL20_w12:Fr [] w12 w19:=(Fr.refl [] w12).tr f19;refine wC (Z0f (cs:=[.int .u32 ((kk:Nat):Int),xv]) (o:=0) hFlT60 rfl (eS hz14) (eS hz14) (by intro u hu;simp at hu;rcases hu with rfl | rfl <;> first | rfl | exact hox.one) th19 ?_);rintro w21 f21 sz21 r21 th21;have hF21:Fr [] w w21:=hF20.trans f21 (fun r hr=>.inl (by simp at hr;subst hr;have:=hfw.size;simp only;omega));have hL21_w12:Fr [] w12 w21:=hL20_w12.trans f21 (fun r hr=>.inl (by simp at hr;subst hr;have:=(Fr.refl [] w12).size;simp only;omega));refine wEk hz14 hd14 fun a22 ha22 hz22 hd22=>?_;have g22_5:=kP ha22 g14_5;have g22_6:=kP ha22 g14_6;have g22_8:get a22 8 = .pointer (some ⟨w12.heap.size,0,none⟩):=kG ha22 hz14;have g22_17:=kP ha22 g14_17;have g22_18:=kP ha22 g14_18;have g22_19:=kP ha22 g14_19;refine hK18 a22 w21 ?_;refine wS fun K23 hK23=>?_;refine wC (wAs (v:=.int .i64 0) rfl ?_);refine wEk hz22 hd22 fun a24 ha24 hz24 hd24=>?_;have g24_5:=kP ha24 g22_5;have g24_6:=kP ha24 g22_6;have g24_8:=kP ha24 g22_8;have g24_9:get a24 9 = .int .i64 0:=kG ha24 hz22;have g24_17:=kP ha24 g22_17;have g24_18:=kP ha24 g22_18;have g24_19:=kP ha24 g22_19;refine hK23 a24 w21 ?_;refine wp_seq_k fun K25 hK25=>?_;have hbne:blk v6 ≠ some w12.heap.size:=fun e=>by have:=ho.blk_lt e;have:=(Fr.refl [] w12).size;omega
    have hJ26:∀ (a':Act) (w':World),(∃ (i:Nat),a'.tmps.size=85∧a'.defers=[]∧get a' 5 = .int .u32 ((Z5 fs:Nat):Int)∧get a' 6=v6∧get a' 8 = .pointer (some ⟨w12.heap.size,0,none⟩)∧get a' 9 = .int .i64 (i:Int)∧get a' 17 = .slice qu (min us.length 32767) capu∧get a' 18 = .int .i64 ((min us.length 32767:Nat):Int)∧get a' 19 = .int .i64 (j:Int)∧i=Z0h acc kk∧TgL w' B cs acc∧Own w' (From w.heap.size w') 2 v6 acc.length cs.flatten∧w'.rangeAt w12.heap.size 0 [.int .u32 ((kk:Nat):Int),xv]∧OctE w' B xv x∧Fr [] w w'∧w12.heap.size < w'.heap.size)→K25 a' w':=by
      rintro a26 w26 ⟨i,hz26,hd26,g26_5,g26_6,g26_8,g26_9,g26_17,g26_18,g26_19,hia,htl3,ho3,hbx3,hox3,hfw3,hbs3⟩;refine hK25 a26 w26 ?_;refine wp_seq_k fun K27 hK27=>?_;have hJ28:∀ (a':Act) (w':World),(a'.tmps.size=85∧a'.defers=[]∧get a' 5 = .int .u32 ((Z5 fs:Nat):Int)∧get a' 6=v6∧get a' 8 = .pointer (some ⟨w12.heap.size,0,none⟩)∧get a' 9 = .int .i64 (i:Int)∧get a' 17 = .slice qu (min us.length 32767) capu∧get a' 18 = .int .i64 ((min us.length 32767:Nat):Int)∧get a' 19 = .int .i64 (j:Int)∧ZT (Z5 fs) acc (kk,x)=acc.take i++(kk,x)::acc.drop i∧TgL w' B cs acc∧Own w' (From w.heap.size w') 2 v6 acc.length cs.flatten∧w'.rangeAt w12.heap.size 0 [.int .u32 ((kk:Nat):Int),xv]∧OctE w' B xv x∧Fr [] w w'∧w12.heap.size < w'.heap.size)→K27 a' w':=by
        rintro a28 w28 ⟨hz28,hd28,g28_5,g28_6,g28_8,g28_9,g28_17,g28_18,g28_19,hins,htl5,ho5,hbx5,hox5,hfw5,hbs5⟩;have htl3:=htl5;have ho3:=ho5;have hox3:=hox5;have hbs3:=hbs5;refine hK27 a28 w28 ?_;refine wS fun K29 hK29=>?_;refine wC (wMv (v:=v6) (eK g28_6) ?_);refine wC (Z52 (z:=zTag) hFlT60 ?_);refine wC (wp_litS (c:=zTag) hs_T24 (by decide) (eS hz28) rfl ?_);rintro w30 f30 sz30 r30;have hF31:Fr [] w w30:=hfw5.tr f30;have hL31_w28:Fr [] w28 w30:=(Fr.refl [] w28).tr f30;have rb32:=f30.range hbx5 .nil;rw[wCo];have ho4:=ho3.upTo hL31_w28 (From.mono hL31_w28.size);have htl4:=htl3.kept hL31_w28 (by simp);have hox4:=hox3.kept hL31_w28 (by simp) (fun _ h=>h);refine Z3I (z:=zTag) (m:=1) (news:=zTag) hs_T24 hz_T24 rfl (eS hz28) (eS hz28) ho4 (by decide) rfl r30 (by simp[zTag,Value.oneCell']) (by omega) (by simp only[maxLen];omega) ?_;intro v7 w33 fa7 oa7 bk7 _;have hbx7:=fa7.range rb32 (fun r hr=>.inl fun e=>hbne (by rw[← e];exact Z4n r hr));have htl7:TgL w33 B cs acc:=htl4.kept fa7 (fun r hr hb=>by have:=hB _ hb;have:=ho4.spare_in r hr;have:=this.1;omega);have hox7:=hox4.kept fa7 (A':=B) (fun r hr hb=>by have:=hB _ hb;have:=ho4.spare_in r hr;have:=this.1;omega) (fun _ h=>h);have hF7:Fr [] w w33:=Z0C hF31 fa7 ho4 (fun b hb=>hb.1);have ho7:Own w33 (From w.heap.size w33) 2 v7 (cs.take acc.length++zTag::cs.drop acc.length).length (cs.take acc.length++zTag::cs.drop acc.length).flatten:=by
          have hl:=htl7.len;rw[Z1d (by omega),← hl,List.take_length,List.drop_length,List.flatten_append,hl];simpa using oa7.imp_A (Z2W hF31.size fa7.size)
        have hbne7:blk v7 ≠ some w12.heap.size:=by rcases bk7 with h | h <;> rw[h];exact hbne;(have:=hL31_w28.size;intro e;simp at e;omega)
        have hbs7:=Nat.lt_of_lt_of_le hbs3 (Nat.le_trans hL31_w28.size fa7.size);have hall7:=Z2g (k:=acc.length) (h:=zTag) htl7.all rfl;obtain ⟨g7,o7,c7,hv7,hg7,hb7,-,-⟩:=ho7.elt hall7 rfl (k:=0) (c:=(cs.take acc.length++zTag::cs.drop acc.length)[0]'(by rw[Z1d (by have:=htl7.len;omega)];omega)) (by simp);rw[Z1d (by have:=htl7.len;omega),htl7.len] at hv7 ho7;have hne7:g7 ≠ w12.heap.size:=fun e=>hbne7 (by rw[hb7,e]);refine wC (wAs (v:=v7) (eS hz28) ?_);refine wEk hz28 hd28 fun a34 ha34 hz34 hd34=>?_;have g34_5:=kP ha34 g28_5;have g34_6:get a34 6=v7:=kG ha34 hz28;have g34_8:=kP ha34 g28_8;have g34_9:=kP ha34 g28_9;have g34_17:=kP ha34 g28_17;have g34_18:=kP ha34 g28_18;have g34_19:=kP ha34 g28_19;refine hK29 a34 w33 ?_;refine wp_seq_k fun K35 hK35=>?_;refine wp_seq_k fun K36 hK36=>?_;rw[hv7] at g34_6;refine Z2 ?_;refine wC (wMv (v:=.slice (some ⟨g7,o7,none⟩) (acc.length+1) c7) (eK g34_6) ?_);refine wC (Zs (n:=(acc.length+1)) hsT24 (eS hz34) ?_);refine wC (Z1P (k1:=.i64) (i:=(((acc.length+1):Nat):Int)) (j:=1) (eS hz34) rfl ?_);rw[show (IntKind.i64.wrap (((((acc.length+1):Nat):Int):Int) - (1:Int)):Int)=(((acc.length:Nat):Int):Int) from by simp only[IntKind.wrap,IntKind.bits,IntKind.signed];simp;omega];refine wC (wAs (v:=.int .i64 ((acc.length:Nat):Int)) (eS hz34) ?_);refine wEk hz34 hd34 fun a37 ha37 hz37 hd37=>?_;have g37_5:=kP ha37 g34_5;have g37_6:=kP ha37 g34_6;have g37_8:=kP ha37 g34_8;have g37_9:=kP ha37 g34_9;have g37_10:get a37 10 = .int .i64 ((acc.length:Nat):Int):=kG ha37 hz34;have g37_17:=kP ha37 g34_17;have g37_18:=kP ha37 g34_18;have g37_19:=kP ha37 g34_19;refine hK36 a37 w33 ?_;have hln:=htl7.len;have hil:=Z31 acc kk;rw[show ((acc.length:Nat):Int)=((i+(acc.length - i):Nat):Int) from by omega] at g37_10;refine wp_block (wp_loop_ghost (fun (k:Nat) a' w'=>∃ (h:List Value),a'.tmps.size=85∧a'.defers=[]∧get a' 5 = .int .u32 ((Z5 fs:Nat):Int)∧get a' 6 = .slice (some ⟨g7,o7,none⟩) (acc.length+1) c7∧get a' 8 = .pointer (some ⟨w12.heap.size,0,none⟩)∧get a' 9 = .int .i64 (i:Int)∧get a' 10 = .int .i64 ((i+k:Nat):Int)∧get a' 17 = .slice qu (min us.length 32767) capu∧get a' 18 = .int .i64 ((min us.length 32767:Nat):Int)∧get a' 19 = .int .i64 (j:Int)∧i+k≤acc.length∧h.length=2∧Own w' (From w.heap.size w') 2 v7 (acc.length+1) (cs.take (i+k)++h::cs.drop (i+k)).flatten∧TgL w' B cs acc∧w'.rangeAt w12.heap.size 0 [.int .u32 ((kk:Nat):Int),xv]∧OctE w' B xv x∧Fr [] w w'∧w12.heap.size < w'.heap.size) (acc.length - i) ?_ ?_)
        · exact ⟨zTag,hz37,hd37,g37_5,g37_6,g37_8,g37_9,g37_10,g37_17,g37_18,g37_19,by omega,rfl,by rw[show i+(acc.length - i)=acc.length from by omega];exact ho7.upTo (Fr.refl [] w33) (From.mono (Fr.refl [] w33).size),htl7.kept (Fr.refl [] w33) (by simp),hbx7,hox7.kept (Fr.refl [] w33) (by simp) (fun _ h=>h),hF7,Nat.lt_of_lt_of_le hbs7 (Fr.refl [] w33).size⟩
        rintro k a38 w38 ⟨h,hz38,hd38,g38_5,g38_6,g38_8,g38_9,g38_10,g38_17,g38_18,g38_19,hik,hh9,ho9,htl9,hbx9,hox9,hfw9,hbs9⟩;refine wp_seq_k fun K39 hK39=>?_;refine wS fun K40 hK40=>?_;refine wC (wMv (v:=.int .i64 ((i+k:Nat):Int)) (eK g38_10) ?_);refine wC (wMv (v:=.int .i64 (i:Int)) (eK g38_9) ?_);refine wC (Z2m (k1:=.i64) (i:=((i+k:Nat):Int)) (j:=(i:Int)) (eS hz38) (eS hz38) ?_);refine wEk hz38 hd38 fun a41 ha41 hz41 hd41=>?_;have g41_5:=kP ha41 g38_5;have g41_6:=kP ha41 g38_6;have g41_8:=kP ha41 g38_8;have g41_9:=kP ha41 g38_9;have g41_10:=kP ha41 g38_10;have g41_17:=kP ha41 g38_17;have g41_18:=kP ha41 g38_18;have g41_19:=kP ha41 g38_19;have g41_68:get a41 68 = .bool (decide ((((i+k:Nat):Int):Int) > ((i:Int):Int))):=kG ha41 hz38;refine hK40 a41 w38 ?_;refine wp_cond_split (t:=decide ((((i+k:Nat):Int):Int) > ((i:Int):Int))) (eK g41_68) (fun hc42=>?_) (fun hc42=>?_)
        · obtain ⟨k,rfl⟩:∃ k',k=k'+1:=⟨k - 1,by simp at hc42;omega⟩;have hnl:=htl9.len;obtain ⟨c,hc⟩:∃ c,cs[i+k]?=some c:=⟨cs[i+k]'(by omega),List.getElem?_eq_getElem (by omega)⟩;have hc2:=htl9.all c (List.mem_of_getElem? hc);refine wp_skip ?_;refine hK39 a41 w38 ?_;refine wp_seq_k fun K43 hK43=>?_;refine Zj ?_;refine Z2 ?_;refine wC (wMv (v:=.slice (some ⟨g7,o7,none⟩) (acc.length+1) c7) (eK g41_6) ?_);refine wC (wMv (v:=.int .i64 ((i+(k+1):Nat):Int)) (eK g41_10) ?_);refine wC (wMv (v:=.slice (some ⟨g7,o7,none⟩) (acc.length+1) c7) (eK g41_6) ?_);refine wC (wMv (v:=.int .i64 ((i+(k+1):Nat):Int)) (eK g41_10) ?_);refine wC (Z1P (k1:=.i64) (i:=((i+(k+1):Nat):Int)) (j:=1) (eS hz41) rfl ?_);rw[show (IntKind.i64.wrap ((((i+(k+1):Nat):Int):Int) - (1:Int)):Int)=(((i+k:Nat):Int):Int) from by simp only[IntKind.wrap,IntKind.bits,IntKind.signed];simp;omega];refine wC (Z10 (b:=g7) (o:=o7) (i:=(i+k)) hs_T24 (eS hz41) (eS hz41) (by omega) ?_);rw[wCo];obtain ⟨g1,o1,c1,hv1,hg1,hb1,hr1,-⟩:=ho9.elt (Z2g htl9.all hh9) (by rw[Z1d (by omega),hnl]) (hole_at (h:=h) (show i+k+1≤cs.length by omega) hc);rw[hv7] at hv1;cases hv1;refine Z7 (cs:=c) (b:=g7) (o:=o7+(i+k) * 2) hFlT60 (by rw[hc2];rfl) (eS hz41) ((Fr.refl [] w38).range hr1 .nil) ?_;refine wC (Z10 (b:=g7) (o:=o7) (i:=(i+(k+1))) hs_T24 (eS hz41) (eS hz41) (by omega) ?_);rw[wCo];obtain ⟨g2,o2,c2,hv2,hg2,hb2,-,ht2⟩:=ho9.elt (k:=i+(k+1)) (c:=h) (Z2g htl9.all hh9) (by rw[Z1d (by omega),hnl]) (by rw[List.getElem?_append_right (by rw[List.length_take];omega),List.length_take];simp[show i+(k+1) - min (i+(k+1)) cs.length=0 from by omega]);rw[hv7] at hv2;cases hv2;obtain ⟨pc,hpc⟩:∃ p,acc[i+k]?=some p:=⟨acc[i+k]'(by omega),List.getElem?_eq_getElem (by omega)⟩;obtain ⟨c',hc',htc⟩:=htl9.at hpc;rw[hc] at hc';cases hc';refine Z0f (cs:=c) (b:=g7) (o:=o7+(i+(k+1)) * 2) hFlT60 (by rw[hc2];rfl) (eS hz41) (eS hz41) htc.ones ((Fr.refl [] w38).there ht2) ?_;rintro w44 f44 sz44 r44 th44;have hgw:w.heap.size≤g7:=hg7.1;have hF44:Fr [] w w44:=hfw9.trans f44 (fun r hr=>.inl (by simp at hr;subst hr;exact hgw));have hoN:Own w44 (From w.heap.size w44) 2 v7 (acc.length+1) (cs.take (i+k)++c::cs.drop (i+k)).flatten:=by
            have h1:=(ho9.upTo (Fr.refl [] w38) (From.mono (Fr.refl [] w38).size)).setElt (k:=i+(k+1)) (c:=c) hv7 (Z2g htl9.all hh9) (by rw[Z1d (by omega),hnl]) (by omega) f44 r44 hc2;rw[show i+(k+1)=i+k+1 from by omega] at h1;rw[Z7H (by omega) hc] at h1;exact h1.imp_A (From.mono f44.size)
          have htN:TgL w44 B cs acc:=(htl9.kept (Fr.refl [] w38) (by simp)).kept f44 (by intro r hr hb;simp at hr;subst hr;have:=hB _ hb;simp only at this;omega);have hxN:=(hox9.kept (Fr.refl [] w38) (by simp) (fun _ h=>h)).kept (A':=B) f44 (by intro r hr hb;simp at hr;subst hr;have:=hB _ hb;simp only at this;omega) (fun _ h=>h);have hbN:=f44.range hbx9 (.cons (.inl hne7) .nil);have hsN:=Nat.lt_of_lt_of_le hbs9 (Nat.le_trans (Fr.refl [] w38).size f44.size);refine wEk hz41 hd41 fun a45 ha45 hz45 hd45=>?_;have g45_5:=kP ha45 g41_5;have g45_6:=kP ha45 g41_6;have g45_8:=kP ha45 g41_8;have g45_9:=kP ha45 g41_9;have g45_10:=kP ha45 g41_10;have g45_17:=kP ha45 g41_17;have g45_18:=kP ha45 g41_18;have g45_19:=kP ha45 g41_19;refine hK43 a45 w44 ?_;refine Z2 ?_;refine wC (wMv (v:=.int .i64 ((i+(k+1):Nat):Int)) (eK g45_10) ?_);refine wC (Z1P (k1:=.i64) (i:=((i+(k+1):Nat):Int)) (j:=1) (eS hz45) rfl ?_);rw[show (IntKind.i64.wrap ((((i+(k+1):Nat):Int):Int) - (1:Int)):Int)=(((i+k:Nat):Int):Int) from by simp only[IntKind.wrap,IntKind.bits,IntKind.signed];simp;omega];refine wC (wAs (v:=.int .i64 ((i+k:Nat):Int)) (eS hz45) ?_);refine wEk hz45 hd45 fun a46 ha46 hz46 hd46=>?_;have g46_5:=kP ha46 g45_5;have g46_6:=kP ha46 g45_6;have g46_8:=kP ha46 g45_8;have g46_9:=kP ha46 g45_9;have g46_10:get a46 10 = .int .i64 ((i+k:Nat):Int):=kG ha46 hz45;have g46_17:=kP ha46 g45_17;have g46_18:=kP ha46 g45_18;have g46_19:=kP ha46 g45_19;exact ⟨k,by omega,c,hz46,hd46,g46_5,g46_6,g46_8,g46_9,g46_10,g46_17,g46_18,g46_19,by omega,hc2,hoN.upTo (Fr.refl [] w44) (From.mono (Fr.refl [] w44).size),htN.kept (Fr.refl [] w44) (by simp),(Fr.refl [] w44).range hbN .nil,hxN.kept (Fr.refl [] w44) (by simp) (fun _ h=>h),hF44,Nat.lt_of_lt_of_le hsN (Fr.refl [] w44).size⟩
        have hk0:k=0:=by simp at hc42;omega
        subst hk0;simp only[Nat.add_zero] at ho9 hik g41_10;refine wp_exit ?_;show K35 a41 w38
        refine hK35 a41 w38 ?_;refine Z2 ?_;refine wC (wMv (v:=.slice (some ⟨g7,o7,none⟩) (acc.length+1) c7) (eK g41_6) ?_);refine wC (wMv (v:=.int .i64 (i:Int)) (eK g41_9) ?_);refine wC (Z7 (cs:=[.int .u32 ((kk:Nat):Int),xv]) (b:=w12.heap.size) (o:=0) hFlT60 rfl (eK g41_8) hbx9 ?_);refine wC (Z10 (b:=g7) (o:=o7) (i:=i) hs_T24 (eS hz41) (eS hz41) (by have:=Z31 acc kk;omega) ?_);rw[wCo];have hnl:=htl9.len;have hilA:=Z31 acc kk;obtain ⟨g2,o2,c2,hv2,hg2,hb2,-,ht2⟩:=ho9.elt (k:=i) (c:=h) (Z2g htl9.all hh9) (by rw[Z1d (by omega),hnl]) (by rw[List.getElem?_append_right (by rw[List.length_take];omega),List.length_take];simp[show i - min i cs.length=0 from by omega]);rw[hv7] at hv2;cases hv2;refine Z0f (cs:=[.int .u32 ((kk:Nat):Int),xv]) (b:=g7) (o:=o7+i * 2) hFlT60 rfl (eS hz41) (eS hz41) (by intro u hu;simp at hu;rcases hu with rfl | rfl <;> first | rfl | exact hox.one) ((Fr.refl [] w38).there ht2) ?_;rintro w47 f47 sz47 r47 th47;have hgw:w.heap.size≤g7:=hg7.1;have hF47:Fr [] w w47:=hfw9.trans f47 (fun r hr=>.inl (by simp at hr;subst hr;exact hgw));have hoN:Own w47 (From w.heap.size w47) 2 v7 (acc.length+1) (cs.take i++[.int .u32 ((kk:Nat):Int),xv]::cs.drop i).flatten:=by
          have h1:=(ho9.upTo (Fr.refl [] w38) (From.mono (Fr.refl [] w38).size)).setElt (k:=i) (c:=[.int .u32 ((kk:Nat):Int),xv]) hv7 (Z2g htl9.all hh9) (by rw[Z1d (by omega),hnl]) (by omega) f47 r47 rfl;rw[hole_set (by omega)] at h1;exact h1.imp_A (From.mono f47.size)
        have htN:TgL w47 B (cs.take i++[.int .u32 ((kk:Nat):Int),xv]::cs.drop i) (acc.take i++(kk,x)::acc.drop i):=by
          have hnB:∀ r ∈ ([⟨g7,o7+i * 2,o7+i * 2+zTag.length⟩]:List Rng),¬ B r.b:=by intro r hr hb;simp at hr;subst hr;have:=hB _ hb;simp only at this;omega
          exact ((htl9.kept (Fr.refl [] w38) (by simp)).kept f47 hnB).ins (p:=(kk,x)) ⟨xv,rfl,hkk,((hox9.kept (Fr.refl [] w38) (by simp) (fun _ h=>h):OctE _ B xv x).kept f47 hnB (fun _ h=>h))⟩ i
        refine wEk hz41 hd41 fun a48 ha48 hz48 hd48=>?_;have g48_5:=kP ha48 g41_5;have g48_6:=kP ha48 g41_6;have g48_17:=kP ha48 g41_17;have g48_18:=kP ha48 g41_18;have g48_19:=kP ha48 g41_19;rw[← hv7] at g48_6;refine hK17 a48 w47 ?_;refine Z2 ?_;refine wC (ZF (k1:=.i64) (i:=(j:Int)) (j:=1) (eK g48_19) rfl ?_);rw[show (IntKind.i64.wrap (((j:Int):Int)+(1:Int)):Int)=(((j+1:Nat):Int):Int) from by simp only[IntKind.wrap,IntKind.bits,IntKind.signed];simp;omega];refine wC (wMv (v:=.int .i64 ((j+1:Nat):Int)) (eS hz48) ?_);refine wEk hz48 hd48 fun a49 ha49 hz49 hd49=>?_;have g49_5:=kP ha49 g48_5;have g49_6:=kP ha49 g48_6;have g49_17:=kP ha49 g48_17;have g49_18:=kP ha49 g48_18;have g49_19:get a49 19 = .int .i64 ((j+1:Nat):Int):=kG ha49 hz48;refine ⟨m - 1,by omega,j+1,_,_,(acc.take i++(kk,x)::acc.drop i),hz49,hd49,g49_5,g49_6,g49_17,g49_18,g49_19,by omega,?_,?_,htN.kept (Fr.refl [] w47) (by simp),by have:=hoN.upTo (Fr.refl [] w47) (From.mono (Fr.refl [] w47).size);rw[show (acc.take i++(kk,x)::acc.drop i).length=acc.length+1 from by rw[List.length_append,List.length_take,List.length_cons,List.length_drop];have:=Z31 acc kk;omega];exact this,hF47⟩
        · rw[← hacc,hins]
        have:=Z2f (Z5 fs) acc (kk,x);rw[hins] at this;omega
      refine wp_seq_k fun K50 hK50=>?_
      by_cases h3:kk < Z5 fs
      · refine Z0k [spC [] (.pointer (some ⟨w12.heap.size, 0, none⟩)), spC [0] (.int .u32 ((kk : Nat) : Int)), spC [] (.int .u32 ((Z5 fs : Nat) : Int)), spC [1, 2] (.bool true), spC [3] (.bool true), spC [4] (undef), spC [4] (undef), spC [4, 6] (undef), spC [4, 5, 7] (undef), spC [4, 8] (undef), spC [9] (undef), spC [9] (undef), spC [9, 10, 11] (undef), spC [9, 12] (undef), spC [9, 13] (undef), spC [9] (undef), spC [9, 15] (undef), spC [9, 14, 16] (undef), spC [4, 9, 17] (undef), spC [4, 18] (.bool true)] 39 [] hmx he9 (by simp [Z0R]) (by simp [spC, spR]) (by simp; omega) ⟨lCc _ _ _, lCc _ _ _, lCc _ _ _, lCc _ _ _, lCc _ _ _, lCc _ _ _, lCc _ _ _, lCc _ _ _, lCc _ _ _, lCc _ _ _, lCc _ _ _, lCc _ _ _, lCc _ _ _, lCc _ _ _, lCc _ _ _, lCc _ _ _, lCc _ _ _, lCc _ _ _, lCc _ _ _, lCc _ _ _, trivial⟩ ?_ ?_
        · refine oCs ?_ ?_
          · refine op_c fun a' w' hk' hf' hd' K' hK'=>?_;refine wFa (b:=w12.heap.size) (i:=0) (hFlT60.fld (by decide)) (by rw[eTm,hk'.get 8 (by omega),g26_8]) ?_;rw[show (0+0:Nat)=0 from rfl];exact hK'
          refine oCs ?_ ?_
          · refine op_c fun a' w' hk' hf' hd' K' hK'=>?_;refine wL0 (j:=0) (v:=.int .u32 ((kk:Nat):Int)) hcT58 (by rw[eTm];exact hd'.c (nd':=[]) 0 (by simp) rfl) (hf'.range hbx3 .nil) rfl ?_;exact hK'
          refine oCs ?_ ?_
          · refine op_c fun a' w' hk' hf' hd' K' hK'=>?_;refine wMv (v:=.int .u32 ((Z5 fs:Nat):Int)) (by rw[eTm,hk'.get 5 (by omega),g26_5]) ?_;exact hK'
          refine oCs ?_ ?_
          · refine op_c fun a' w' hk' hf' hd' K' hK'=>?_;refine Z1g (k1:=.u32) (i:=((kk:Nat):Int)) (j:=((Z5 fs:Nat):Int)) (by omega) (by rw[eTm];exact hd'.c (nd':=[0]) 1 (by simp) rfl) (by rw[eTm];exact hd'.c (nd':=[]) 2 (by simp) rfl) ?_;exact hK'
          refine oCs ?_ ?_
          · refine op_c fun a' w' hk' hf' hd' K' hK'=>?_;refine wMv (v:=.bool true) (by rw[eTm];exact hd'.c (nd':=[1,2]) 3 (by simp) rfl) ?_;exact hK'
          refine oCs ?_ ?_
          · exact Z0F rfl (by decide) (fun a w h=>h.c (nd':=[3]) 4 (by simp) rfl)
          refine oCs ?_ ?_
          · exact Z0F rfl (by decide) (fun a w h=>h.c (nd':=[3]) 4 (by simp) rfl)
          refine oCs ?_ ?_
          · exact Z0F rfl (by decide) (fun a w h=>h.c (nd':=[3]) 4 (by simp) rfl)
          refine oCs ?_ ?_
          · exact Z0F rfl (by decide) (fun a w h=>h.c (nd':=[3]) 4 (by simp) rfl)
          refine oCs ?_ ?_
          · exact Z0F rfl (by decide) (fun a w h=>h.c (nd':=[3]) 4 (by simp) rfl)
          refine oCs ?_ ?_
          · exact Z5n rfl (by decide) (fun a w h=>h.c (nd':=[4,8]) 9 (by simp) rfl)
          refine oCs ?_ ?_
          · exact Z5n rfl (by decide) (fun a w h=>h.c (nd':=[4,8]) 9 (by simp) rfl)
          refine oCs ?_ ?_
          · exact Z5n rfl (by decide) (fun a w h=>h.c (nd':=[4,8]) 9 (by simp) rfl)
          refine oCs ?_ ?_
          · exact Z5n rfl (by decide) (fun a w h=>h.c (nd':=[4,8]) 9 (by simp) rfl)
          refine oCs ?_ ?_
          · exact Z5n rfl (by decide) (fun a w h=>h.c (nd':=[4,8]) 9 (by simp) rfl)
          refine oCs ?_ ?_
          · exact Z5n rfl (by decide) (fun a w h=>h.c (nd':=[4,8]) 9 (by simp) rfl)
          refine oCs ?_ ?_
          · exact Z5n rfl (by decide) (fun a w h=>h.c (nd':=[4,8]) 9 (by simp) rfl)
          refine oCs ?_ ?_
          · exact Z5n rfl (by decide) (fun a w h=>h.c (nd':=[4,8]) 9 (by simp) rfl)
          refine oCs ?_ ?_
          · exact Z0F rfl (by decide) (fun a w h=>h.c (nd':=[3]) 4 (by simp) rfl)
          refine oCs ?_ ?_
          · refine op_c fun a' w' hk' hf' hd' K' hK'=>?_;refine Zq (v:=.bool true) (by rw[eTm];exact hd'.c (nd':=[3]) 4 (by simp) rfl) rfl ?_;exact hK'
          exact ZX
        intro a51 w51 k51 f51 hd_51;have g51_5:get a51 5 = .int .u32 ((Z5 fs:Nat):Int):=by rw[k51.get 5 (by omega),g26_5]
        have g51_6:get a51 6=v6:=by rw[k51.get 6 (by omega),g26_6]
        have g51_17:get a51 17 = .slice qu (min us.length 32767) capu:=by rw[k51.get 17 (by omega),g26_17]
        have g51_18:get a51 18 = .int .i64 ((min us.length 32767:Nat):Int):=by rw[k51.get 18 (by omega),g26_18]
        have g51_19:get a51 19 = .int .i64 (j:Int):=by rw[k51.get 19 (by omega),g26_19]
        have hz51:a51.tmps.size=85:=k51.size.trans hz26;have hd51:a51.defers=[]:=k51.defers.trans hd26;have g51_58:get a51 58 = .bool true:=hd_51.c (nd':=[4,18]) 19 (by simp) rfl;have hF52:Fr [] w w51:=hfw3.tr f51;have hL52_w26:Fr [] w26 w51:=(Fr.refl [] w26).tr f51;have rb53:=f51.range hbx3 .nil;refine hK50 a51 w51 ?_;refine wp_cond_split (t:=true) (eK g51_58) (fun _=>?_) (fun h=>by cases h);refine wp_exit ?_;show K17 a51 w51
        refine hK17 a51 w51 ?_;refine Z2 ?_;refine wC (ZF (k1:=.i64) (i:=(j:Int)) (j:=1) (eK g51_19) rfl ?_);rw[show (IntKind.i64.wrap (((j:Int):Int)+(1:Int)):Int)=(((j+1:Nat):Int):Int) from by simp only[IntKind.wrap,IntKind.bits,IntKind.signed];simp;omega];refine wC (wMv (v:=.int .i64 ((j+1:Nat):Int)) (eS hz51) ?_);refine wEk hz51 hd51 fun a55 ha55 hz55 hd55=>?_;have g55_5:=kP ha55 g51_5;have g55_6:=kP ha55 g51_6;have g55_17:=kP ha55 g51_17;have g55_18:=kP ha55 g51_18;have g55_19:get a55 19 = .int .i64 ((j+1:Nat):Int):=kG ha55 hz51;refine ⟨m - 1,by omega,j+1,_,_,acc,hz55,hd55,g55_5,g55_6,g55_17,g55_18,g55_19,by omega,?_,?_,htl3.kept hL52_w26 (by simp),ho3.upTo hL52_w26 (From.mono hL52_w26.size),hF52⟩
        · rw[← hacc,show ZT (Z5 fs) acc (kk,x)=acc from by unfold ZT;rw[if_pos h3]]
        have:=Z2f (Z5 fs) acc (kk,x);rw[show ZT (Z5 fs) acc (kk,x)=acc from by unfold ZT;rw[if_pos h3]] at this;omega
      by_cases h4:i < acc.length;rotate_left
      · refine Z0k [spC [] (.pointer (some ⟨w12.heap.size, 0, none⟩)), spC [0] (.int .u32 ((kk : Nat) : Int)), spC [] (.int .u32 ((Z5 fs : Nat) : Int)), spC [1, 2] (.bool false), spC [3] (.bool false), spC [4] (.int .i64 (i : Int)), spC [4] (v6), spC [4, 6] (.int .i64 (acc.length : Int)), spC [4, 5, 7] (.bool false), spC [4, 8] (.bool false), spC [9] (undef), spC [9] (undef), spC [9, 10, 11] (undef), spC [9, 12] (undef), spC [9, 13] (undef), spC [9] (undef), spC [9, 15] (undef), spC [9, 14, 16] (undef), spC [4, 9, 17] (.bool false), spC [4, 18] (.bool false)] 39 [] hmx he9 (by simp [Z0R]) (by simp [spC, spR]) (by simp; omega) ⟨lCc _ _ _, lCc _ _ _, lCc _ _ _, lCc _ _ _, lCc _ _ _, lCc _ _ _, lCc _ _ _, lCc _ _ _, lCc _ _ _, lCc _ _ _, lCc _ _ _, lCc _ _ _, lCc _ _ _, lCc _ _ _, lCc _ _ _, lCc _ _ _, lCc _ _ _, lCc _ _ _, lCc _ _ _, lCc _ _ _, trivial⟩ ?_ ?_
        · refine oCs ?_ ?_
          · refine op_c fun a' w' hk' hf' hd' K' hK'=>?_;refine wFa (b:=w12.heap.size) (i:=0) (hFlT60.fld (by decide)) (by rw[eTm,hk'.get 8 (by omega),g26_8]) ?_;rw[show (0+0:Nat)=0 from rfl];exact hK'
          refine oCs ?_ ?_
          · refine op_c fun a' w' hk' hf' hd' K' hK'=>?_;refine wL0 (j:=0) (v:=.int .u32 ((kk:Nat):Int)) hcT58 (by rw[eTm];exact hd'.c (nd':=[]) 0 (by simp) rfl) (hf'.range hbx3 .nil) rfl ?_;exact hK'
          refine oCs ?_ ?_
          · refine op_c fun a' w' hk' hf' hd' K' hK'=>?_;refine wMv (v:=.int .u32 ((Z5 fs:Nat):Int)) (by rw[eTm,hk'.get 5 (by omega),g26_5]) ?_;exact hK'
          refine oCs ?_ ?_
          · refine op_c fun a' w' hk' hf' hd' K' hK'=>?_;refine Z1h (k1:=.u32) (i:=((kk:Nat):Int)) (j:=((Z5 fs:Nat):Int)) (by omega) (by rw[eTm];exact hd'.c (nd':=[0]) 1 (by simp) rfl) (by rw[eTm];exact hd'.c (nd':=[]) 2 (by simp) rfl) ?_;exact hK'
          refine oCs ?_ ?_
          · refine op_c fun a' w' hk' hf' hd' K' hK'=>?_;refine wMv (v:=.bool false) (by rw[eTm];exact hd'.c (nd':=[1,2]) 3 (by simp) rfl) ?_;exact hK'
          refine oCs ?_ ?_
          · refine ZK rfl (by decide) (fun a w h=>h.c (nd':=[3]) 4 (by simp[spC,spR]) rfl) ?_;refine op_c fun a' w' hk' hf' hd' K' hK'=>?_;refine wMv (v:=.int .i64 (i:Int)) (by rw[eTm,hk'.get 9 (by omega),g26_9]) ?_;exact hK'
          refine oCs ?_ ?_
          · refine ZK rfl (by decide) (fun a w h=>h.c (nd':=[3]) 4 (by simp[spC,spR]) rfl) ?_;refine op_c fun a' w' hk' hf' hd' K' hK'=>?_;refine wMv (v:=v6) (by rw[eTm,hk'.get 6 (by omega),g26_6]) ?_;exact hK'
          refine oCs ?_ ?_
          · refine ZK rfl (by decide) (fun a w h=>h.c (nd':=[3]) 4 (by simp[spC,spR]) rfl) ?_;refine op_c fun a' w' hk' hf' hd' K' hK'=>?_;obtain ⟨q6,c6,hv6⟩:=ho3.sl;refine Zs (n:=acc.length) hsT24 (Eq.trans (b:=v6) (by rw[eTm];exact hd'.c (nd':=[4]) 6 (by simp) rfl) hv6) ?_;exact hK'
          refine oCs ?_ ?_
          · refine ZK rfl (by decide) (fun a w h=>h.c (nd':=[3]) 4 (by simp[spC,spR]) rfl) ?_;refine op_c fun a' w' hk' hf' hd' K' hK'=>?_;refine Z1h (k1:=.i64) (i:=(i:Int)) (j:=(acc.length:Int)) (by omega) (by rw[eTm];exact hd'.c (nd':=[4]) 5 (by simp) rfl) (by rw[eTm];exact hd'.c (nd':=[4,6]) 7 (by simp) rfl) ?_;exact hK'
          refine oCs ?_ ?_
          · refine ZK rfl (by decide) (fun a w h=>h.c (nd':=[3]) 4 (by simp[spC,spR]) rfl) ?_;refine op_c fun a' w' hk' hf' hd' K' hK'=>?_;refine wMv (v:=.bool false) (by rw[eTm];exact hd'.c (nd':=[4,5,7]) 8 (by simp) rfl) ?_;exact hK'
          refine oCs ?_ ?_
          · exact Z0F rfl (by decide) (fun a w h=>h.c (nd':=[4,8]) 9 (by simp) rfl)
          refine oCs ?_ ?_
          · exact Z0F rfl (by decide) (fun a w h=>h.c (nd':=[4,8]) 9 (by simp) rfl)
          refine oCs ?_ ?_
          · exact Z0F rfl (by decide) (fun a w h=>h.c (nd':=[4,8]) 9 (by simp) rfl)
          refine oCs ?_ ?_
          · exact Z0F rfl (by decide) (fun a w h=>h.c (nd':=[4,8]) 9 (by simp) rfl)
          refine oCs ?_ ?_
          · exact Z0F rfl (by decide) (fun a w h=>h.c (nd':=[4,8]) 9 (by simp) rfl)
          refine oCs ?_ ?_
          · exact Z0F rfl (by decide) (fun a w h=>h.c (nd':=[4,8]) 9 (by simp) rfl)
          refine oCs ?_ ?_
          · exact Z0F rfl (by decide) (fun a w h=>h.c (nd':=[4,8]) 9 (by simp) rfl)
          refine oCs ?_ ?_
          · exact Z0F rfl (by decide) (fun a w h=>h.c (nd':=[4,8]) 9 (by simp) rfl)
          refine oCs ?_ ?_
          · refine ZK rfl (by decide) (fun a w h=>h.c (nd':=[3]) 4 (by simp[spC,spR]) rfl) ?_;refine op_c fun a' w' hk' hf' hd' K' hK'=>?_;refine ZJ (v:=.bool false) (by rw[eTm];exact hd'.c (nd':=[4,8]) 9 (by simp) rfl) rfl ?_;exact hK'
          refine oCs ?_ ?_
          · refine op_c fun a' w' hk' hf' hd' K' hK'=>?_;refine ZJ (v:=.bool false) (by rw[eTm];exact hd'.c (nd':=[3]) 4 (by simp) rfl) (by rw[eTm];exact hd'.c (nd':=[4,9,17]) 18 (by simp) rfl) ?_;exact hK'
          exact ZX
        intro a56 w56 k56 f56 hd_56;have g56_5:get a56 5 = .int .u32 ((Z5 fs:Nat):Int):=by rw[k56.get 5 (by omega),g26_5]
        have g56_6:get a56 6=v6:=by rw[k56.get 6 (by omega),g26_6]
        have g56_8:get a56 8 = .pointer (some ⟨w12.heap.size,0,none⟩):=by rw[k56.get 8 (by omega),g26_8]
        have g56_9:get a56 9 = .int .i64 (i:Int):=by rw[k56.get 9 (by omega),g26_9]
        have g56_17:get a56 17 = .slice qu (min us.length 32767) capu:=by rw[k56.get 17 (by omega),g26_17]
        have g56_18:get a56 18 = .int .i64 ((min us.length 32767:Nat):Int):=by rw[k56.get 18 (by omega),g26_18]
        have g56_19:get a56 19 = .int .i64 (j:Int):=by rw[k56.get 19 (by omega),g26_19]
        have hz56:a56.tmps.size=85:=k56.size.trans hz26;have hd56:a56.defers=[]:=k56.defers.trans hd26;have g56_58:get a56 58 = .bool false:=hd_56.c (nd':=[4,18]) 19 (by simp) rfl;have hF57:Fr [] w w56:=hfw3.tr f56;have hL57_w26:Fr [] w26 w56:=(Fr.refl [] w26).tr f56;have rb58:=f56.range hbx3 .nil;have hins:ZT (Z5 fs) acc (kk,x)=acc.take i++(kk,x)::acc.drop i:=by unfold ZT;rw[if_neg h3,if_neg (by rw[← hia,List.getElem?_eq_none (by omega)];simp),← hia]
        refine hK50 a56 w56 ?_;refine wp_cond_split (t:=false) (eK g56_58) (fun h=>by cases h) (fun _=>?_);refine wp_skip ?_;exact hJ28 a56 w56 ⟨hz56,hd56,g56_5,g56_6,g56_8,g56_9,g56_17,g56_18,g56_19,hins,htl3.kept hL57_w26 (by simp),ho3.upTo hL57_w26 (From.mono hL57_w26.size),hL57_w26.range hbx3 .nil,hox3.kept hL57_w26 (by simp) (fun _ h=>h),hF57,Nat.lt_of_lt_of_le hbs3 hL57_w26.size⟩
      obtain ⟨⟨kj,xj⟩,hpj⟩:∃ p,acc[i]?=some p:=⟨acc[i],by simp[h4]⟩;obtain ⟨cj,hcj,yj,hcyj,hkj,_⟩:=htl3.at hpj;subst hcyj;obtain ⟨g8,o8,c8,hv8,hg8,hb8,hr8,_⟩:=ho3.elt htl3.all htl3.len hcj;rw[hv8] at g26_6
      by_cases h5:kj=kk
      · refine Z0k [spC [] (.pointer (some ⟨w12.heap.size, 0, none⟩)), spC [0] (.int .u32 ((kk : Nat) : Int)), spC [] (.int .u32 ((Z5 fs : Nat) : Int)), spC [1, 2] (.bool false), spC [3] (.bool false), spC [4] (.int .i64 (i : Int)), spC [4] (.slice (some ⟨g8, o8, none⟩) acc.length c8), spC [4, 6] (.int .i64 ((acc.length : Nat) : Int)), spC [4, 5, 7] (.bool true), spC [4, 8] (.bool true), spC [9] (.slice (some ⟨g8, o8, none⟩) acc.length c8), spC [9] (.int .i64 (i : Int)), spC [9, 10, 11] (.pointer (some ⟨g8, o8 + i * 2, none⟩)), spC [9, 12] (.pointer (some ⟨g8, o8 + i * 2, none⟩)), spC [9, 13] (.int .u32 ((kj : Nat) : Int)), spC [9] (.pointer (some ⟨w12.heap.size, 0, none⟩)), spC [9, 15] (.int .u32 ((kk : Nat) : Int)), spC [9, 14, 16] (.bool true), spC [4, 9, 17] (.bool true), spC [4, 18] (.bool true)] 39 [] hmx he9 (by simp [Z0R]) (by simp [spC, spR]) (by simp; omega) ⟨lCc _ _ _, lCc _ _ _, lCc _ _ _, lCc _ _ _, lCc _ _ _, lCc _ _ _, lCc _ _ _, lCc _ _ _, lCc _ _ _, lCc _ _ _, lCc _ _ _, lCc _ _ _, lCc _ _ _, lCc _ _ _, lCc _ _ _, lCc _ _ _, lCc _ _ _, lCc _ _ _, lCc _ _ _, lCc _ _ _, trivial⟩ ?_ ?_
        · refine oCs ?_ ?_
          · refine op_c fun a' w' hk' hf' hd' K' hK'=>?_;refine wFa (b:=w12.heap.size) (i:=0) (hFlT60.fld (by decide)) (by rw[eTm,hk'.get 8 (by omega),g26_8]) ?_;rw[show (0+0:Nat)=0 from rfl];exact hK'
          refine oCs ?_ ?_
          · refine op_c fun a' w' hk' hf' hd' K' hK'=>?_;refine wL0 (j:=0) (v:=.int .u32 ((kk:Nat):Int)) hcT58 (by rw[eTm];exact hd'.c (nd':=[]) 0 (by simp) rfl) (hf'.range hbx3 .nil) rfl ?_;exact hK'
          refine oCs ?_ ?_
          · refine op_c fun a' w' hk' hf' hd' K' hK'=>?_;refine wMv (v:=.int .u32 ((Z5 fs:Nat):Int)) (by rw[eTm,hk'.get 5 (by omega),g26_5]) ?_;exact hK'
          refine oCs ?_ ?_
          · refine op_c fun a' w' hk' hf' hd' K' hK'=>?_;refine Z1h (k1:=.u32) (i:=((kk:Nat):Int)) (j:=((Z5 fs:Nat):Int)) (by omega) (by rw[eTm];exact hd'.c (nd':=[0]) 1 (by simp) rfl) (by rw[eTm];exact hd'.c (nd':=[]) 2 (by simp) rfl) ?_;exact hK'
          refine oCs ?_ ?_
          · refine op_c fun a' w' hk' hf' hd' K' hK'=>?_;refine wMv (v:=.bool false) (by rw[eTm];exact hd'.c (nd':=[1,2]) 3 (by simp) rfl) ?_;exact hK'
          refine oCs ?_ ?_
          · refine ZK rfl (by decide) (fun a w h=>h.c (nd':=[3]) 4 (by simp[spC,spR]) rfl) ?_;refine op_c fun a' w' hk' hf' hd' K' hK'=>?_;refine wMv (v:=.int .i64 (i:Int)) (by rw[eTm,hk'.get 9 (by omega),g26_9]) ?_;exact hK'
          refine oCs ?_ ?_
          · refine ZK rfl (by decide) (fun a w h=>h.c (nd':=[3]) 4 (by simp[spC,spR]) rfl) ?_;refine op_c fun a' w' hk' hf' hd' K' hK'=>?_;refine wMv (v:=.slice (some ⟨g8,o8,none⟩) acc.length c8) (by rw[eTm,hk'.get 6 (by omega),g26_6]) ?_;exact hK'
          refine oCs ?_ ?_
          · refine ZK rfl (by decide) (fun a w h=>h.c (nd':=[3]) 4 (by simp[spC,spR]) rfl) ?_;refine op_c fun a' w' hk' hf' hd' K' hK'=>?_;refine Zs (n:=acc.length) hsT24 (by rw[eTm];exact hd'.c (nd':=[4]) 6 (by simp) rfl) ?_;exact hK'
          refine oCs ?_ ?_
          · refine ZK rfl (by decide) (fun a w h=>h.c (nd':=[3]) 4 (by simp[spC,spR]) rfl) ?_;refine op_c fun a' w' hk' hf' hd' K' hK'=>?_;refine Z1g (k1:=.i64) (i:=(i:Int)) (j:=((acc.length:Nat):Int)) (by omega) (by rw[eTm];exact hd'.c (nd':=[4]) 5 (by simp) rfl) (by rw[eTm];exact hd'.c (nd':=[4,6]) 7 (by simp) rfl) ?_;exact hK'
          refine oCs ?_ ?_
          · refine ZK rfl (by decide) (fun a w h=>h.c (nd':=[3]) 4 (by simp[spC,spR]) rfl) ?_;refine op_c fun a' w' hk' hf' hd' K' hK'=>?_;refine wMv (v:=.bool true) (by rw[eTm];exact hd'.c (nd':=[4,5,7]) 8 (by simp) rfl) ?_;exact hK'
          refine oCs ?_ ?_
          · refine ZK rfl (by decide) (fun a w h=>h.c (nd':=[4,8]) 9 (by simp[spC,spR]) rfl) ?_;refine op_c fun a' w' hk' hf' hd' K' hK'=>?_;refine wMv (v:=.slice (some ⟨g8,o8,none⟩) acc.length c8) (by rw[eTm,hk'.get 6 (by omega),g26_6]) ?_;exact hK'
          refine oCs ?_ ?_
          · refine ZK rfl (by decide) (fun a w h=>h.c (nd':=[4,8]) 9 (by simp[spC,spR]) rfl) ?_;refine op_c fun a' w' hk' hf' hd' K' hK'=>?_;refine wMv (v:=.int .i64 (i:Int)) (by rw[eTm,hk'.get 9 (by omega),g26_9]) ?_;exact hK'
          refine oCs ?_ ?_
          · refine ZK rfl (by decide) (fun a w h=>h.c (nd':=[4,8]) 9 (by simp[spC,spR]) rfl) ?_;refine op_c fun a' w' hk' hf' hd' K' hK'=>?_;refine Z10 (b:=g8) (o:=o8) (i:=i) hs_T24 (by rw[eTm];exact hd'.c (nd':=[9]) 10 (by simp) rfl) (by rw[eTm];exact hd'.c (nd':=[9]) 11 (by simp) rfl) h4 ?_;exact hK'
          refine oCs ?_ ?_
          · refine ZK rfl (by decide) (fun a w h=>h.c (nd':=[4,8]) 9 (by simp[spC,spR]) rfl) ?_;refine op_c fun a' w' hk' hf' hd' K' hK'=>?_;refine wFa (b:=g8) (i:=o8+i * 2) (hFlT60.fld (by decide)) (by rw[eTm];exact hd'.c (nd':=[9,10,11]) 12 (by simp) rfl) ?_;rw[Nat.add_zero];exact hK'
          refine oCs ?_ ?_
          · refine ZK rfl (by decide) (fun a w h=>h.c (nd':=[4,8]) 9 (by simp[spC,spR]) rfl) ?_;refine op_c fun a' w' hk' hf' hd' K' hK'=>?_;refine Zn (b:=g8) (o:=o8+i * 2) (v:=.int .u32 ((kj:Nat):Int)) hcT58 (by rw[eTm];exact hd'.c (nd':=[9,12]) 13 (by simp) rfl) (Zv.1 (hf'.range hr8 .nil)).1 ?_;exact hK'
          refine oCs ?_ ?_
          · refine ZK rfl (by decide) (fun a w h=>h.c (nd':=[4,8]) 9 (by simp[spC,spR]) rfl) ?_;refine op_c fun a' w' hk' hf' hd' K' hK'=>?_;refine wFa (b:=w12.heap.size) (i:=0) (hFlT60.fld (by decide)) (by rw[eTm,hk'.get 8 (by omega),g26_8]) ?_;rw[show (0+0:Nat)=0 from rfl];exact hK'
          refine oCs ?_ ?_
          · refine ZK rfl (by decide) (fun a w h=>h.c (nd':=[4,8]) 9 (by simp[spC,spR]) rfl) ?_;refine op_c fun a' w' hk' hf' hd' K' hK'=>?_;refine wL0 (j:=0) (v:=.int .u32 ((kk:Nat):Int)) hcT58 (by rw[eTm];exact hd'.c (nd':=[9]) 15 (by simp) rfl) (hf'.range hbx3 .nil) rfl ?_;exact hK'
          refine oCs ?_ ?_
          · refine ZK rfl (by decide) (fun a w h=>h.c (nd':=[4,8]) 9 (by simp[spC,spR]) rfl) ?_;refine op_c fun a' w' hk' hf' hd' K' hK'=>?_;refine Z11 (k1:=.u32) (i:=((kj:Nat):Int)) (j:=((kk:Nat):Int)) (by omega) (by rw[eTm];exact hd'.c (nd':=[9,13]) 14 (by simp) rfl) (by rw[eTm];exact hd'.c (nd':=[9,15]) 16 (by simp) rfl) ?_;exact hK'
          refine oCs ?_ ?_
          · refine ZK rfl (by decide) (fun a w h=>h.c (nd':=[3]) 4 (by simp[spC,spR]) rfl) ?_;refine op_c fun a' w' hk' hf' hd' K' hK'=>?_;refine Zq (v:=.bool true) (by rw[eTm];exact hd'.c (nd':=[4,8]) 9 (by simp) rfl) (by rw[eTm];exact hd'.c (nd':=[9,14,16]) 17 (by simp) rfl) ?_;exact hK'
          refine oCs ?_ ?_
          · refine op_c fun a' w' hk' hf' hd' K' hK'=>?_;refine ZJ (v:=.bool true) (by rw[eTm];exact hd'.c (nd':=[3]) 4 (by simp) rfl) (by rw[eTm];exact hd'.c (nd':=[4,9,17]) 18 (by simp) rfl) ?_;exact hK'
          exact ZX
        intro a60 w60 k60 f60 hd_60;have g60_5:get a60 5 = .int .u32 ((Z5 fs:Nat):Int):=by rw[k60.get 5 (by omega),g26_5]
        have g60_6:get a60 6 = .slice (some ⟨g8,o8,none⟩) acc.length c8:=by rw[k60.get 6 (by omega),g26_6]
        have g60_17:get a60 17 = .slice qu (min us.length 32767) capu:=by rw[k60.get 17 (by omega),g26_17]
        have g60_18:get a60 18 = .int .i64 ((min us.length 32767:Nat):Int):=by rw[k60.get 18 (by omega),g26_18]
        have g60_19:get a60 19 = .int .i64 (j:Int):=by rw[k60.get 19 (by omega),g26_19]
        have hz60:a60.tmps.size=85:=k60.size.trans hz26;have hd60:a60.defers=[]:=k60.defers.trans hd26;have g60_58:get a60 58 = .bool true:=hd_60.c (nd':=[4,18]) 19 (by simp) rfl;have hF61:Fr [] w w60:=hfw3.tr f60;have hL61_w26:Fr [] w26 w60:=(Fr.refl [] w26).tr f60;have rb62:=f60.range hbx3 .nil;rw[← hv8] at g60_6;refine hK50 a60 w60 ?_;refine wp_cond_split (t:=true) (eK g60_58) (fun _=>?_) (fun h=>by cases h);refine wp_exit ?_;show K17 a60 w60
        refine hK17 a60 w60 ?_;refine Z2 ?_;refine wC (ZF (k1:=.i64) (i:=(j:Int)) (j:=1) (eK g60_19) rfl ?_);rw[show (IntKind.i64.wrap (((j:Int):Int)+(1:Int)):Int)=(((j+1:Nat):Int):Int) from by simp only[IntKind.wrap,IntKind.bits,IntKind.signed];simp;omega];refine wC (wMv (v:=.int .i64 ((j+1:Nat):Int)) (eS hz60) ?_);refine wEk hz60 hd60 fun a64 ha64 hz64 hd64=>?_;have g64_5:=kP ha64 g60_5;have g64_6:=kP ha64 g60_6;have g64_17:=kP ha64 g60_17;have g64_18:=kP ha64 g60_18;have g64_19:get a64 19 = .int .i64 ((j+1:Nat):Int):=kG ha64 hz60;refine ⟨m - 1,by omega,j+1,_,_,acc,hz64,hd64,g64_5,g64_6,g64_17,g64_18,g64_19,by omega,?_,?_,htl3.kept hL61_w26 (by simp),ho3.upTo hL61_w26 (From.mono hL61_w26.size),hF61⟩
        · rw[← hacc,show ZT (Z5 fs) acc (kk,x)=acc from by unfold ZT;rw[if_neg h3,if_pos (by rw[← hia,hpj];simp[h5])]]
        have:=Z2f (Z5 fs) acc (kk,x);rw[show ZT (Z5 fs) acc (kk,x)=acc from by unfold ZT;rw[if_neg h3,if_pos (by rw[← hia,hpj];simp[h5])]] at this;omega
      refine Z0k [spC [] (.pointer (some ⟨w12.heap.size,0,none⟩)),spC [0] (.int .u32 ((kk:Nat):Int)),spC [] (.int .u32 ((Z5 fs:Nat):Int)),spC [1,2] (.bool false),spC [3] (.bool false),spC [4] (.int .i64 (i:Int)),spC [4] (.slice (some ⟨g8,o8,none⟩) acc.length c8),spC [4,6] (.int .i64 ((acc.length:Nat):Int)),spC [4,5,7] (.bool true),spC [4,8] (.bool true),spC [9] (.slice (some ⟨g8,o8,none⟩) acc.length c8),spC [9] (.int .i64 (i:Int)),spC [9,10,11] (.pointer (some ⟨g8,o8+i * 2,none⟩)),spC [9,12] (.pointer (some ⟨g8,o8+i * 2,none⟩)),spC [9,13] (.int .u32 ((kj:Nat):Int)),spC [9] (.pointer (some ⟨w12.heap.size,0,none⟩)),spC [9,15] (.int .u32 ((kk:Nat):Int)),spC [9,14,16] (.bool false),spC [4,9,17] (.bool false),spC [4,18] (.bool false)] 39 [] hmx he9 (by simp[Z0R]) (by simp[spC,spR]) (by simp;omega) ⟨lCc _ _ _,lCc _ _ _,lCc _ _ _,lCc _ _ _,lCc _ _ _,lCc _ _ _,lCc _ _ _,lCc _ _ _,lCc _ _ _,lCc _ _ _,lCc _ _ _,lCc _ _ _,lCc _ _ _,lCc _ _ _,lCc _ _ _,lCc _ _ _,lCc _ _ _,lCc _ _ _,lCc _ _ _,lCc _ _ _,trivial⟩ ?_ ?_
      · refine oCs ?_ ?_
        · refine op_c fun a' w' hk' hf' hd' K' hK'=>?_;refine wFa (b:=w12.heap.size) (i:=0) (hFlT60.fld (by decide)) (by rw[eTm,hk'.get 8 (by omega),g26_8]) ?_;rw[show (0+0:Nat)=0 from rfl];exact hK'
        refine oCs ?_ ?_
        · refine op_c fun a' w' hk' hf' hd' K' hK'=>?_;refine wL0 (j:=0) (v:=.int .u32 ((kk:Nat):Int)) hcT58 (by rw[eTm];exact hd'.c (nd':=[]) 0 (by simp) rfl) (hf'.range hbx3 .nil) rfl ?_;exact hK'
        refine oCs ?_ ?_
        · refine op_c fun a' w' hk' hf' hd' K' hK'=>?_;refine wMv (v:=.int .u32 ((Z5 fs:Nat):Int)) (by rw[eTm,hk'.get 5 (by omega),g26_5]) ?_;exact hK'
        refine oCs ?_ ?_
        · refine op_c fun a' w' hk' hf' hd' K' hK'=>?_;refine Z1h (k1:=.u32) (i:=((kk:Nat):Int)) (j:=((Z5 fs:Nat):Int)) (by omega) (by rw[eTm];exact hd'.c (nd':=[0]) 1 (by simp) rfl) (by rw[eTm];exact hd'.c (nd':=[]) 2 (by simp) rfl) ?_;exact hK'
        refine oCs ?_ ?_
        · refine op_c fun a' w' hk' hf' hd' K' hK'=>?_;refine wMv (v:=.bool false) (by rw[eTm];exact hd'.c (nd':=[1,2]) 3 (by simp) rfl) ?_;exact hK'
        refine oCs ?_ ?_
        · refine ZK rfl (by decide) (fun a w h=>h.c (nd':=[3]) 4 (by simp[spC,spR]) rfl) ?_;refine op_c fun a' w' hk' hf' hd' K' hK'=>?_;refine wMv (v:=.int .i64 (i:Int)) (by rw[eTm,hk'.get 9 (by omega),g26_9]) ?_;exact hK'
        refine oCs ?_ ?_
        · refine ZK rfl (by decide) (fun a w h=>h.c (nd':=[3]) 4 (by simp[spC,spR]) rfl) ?_;refine op_c fun a' w' hk' hf' hd' K' hK'=>?_;refine wMv (v:=.slice (some ⟨g8,o8,none⟩) acc.length c8) (by rw[eTm,hk'.get 6 (by omega),g26_6]) ?_;exact hK'
        refine oCs ?_ ?_
        · refine ZK rfl (by decide) (fun a w h=>h.c (nd':=[3]) 4 (by simp[spC,spR]) rfl) ?_;refine op_c fun a' w' hk' hf' hd' K' hK'=>?_;refine Zs (n:=acc.length) hsT24 (by rw[eTm];exact hd'.c (nd':=[4]) 6 (by simp) rfl) ?_;exact hK'
        refine oCs ?_ ?_
        · refine ZK rfl (by decide) (fun a w h=>h.c (nd':=[3]) 4 (by simp[spC,spR]) rfl) ?_;refine op_c fun a' w' hk' hf' hd' K' hK'=>?_;refine Z1g (k1:=.i64) (i:=(i:Int)) (j:=((acc.length:Nat):Int)) (by omega) (by rw[eTm];exact hd'.c (nd':=[4]) 5 (by simp) rfl) (by rw[eTm];exact hd'.c (nd':=[4,6]) 7 (by simp) rfl) ?_;exact hK'
        refine oCs ?_ ?_
        · refine ZK rfl (by decide) (fun a w h=>h.c (nd':=[3]) 4 (by simp[spC,spR]) rfl) ?_;refine op_c fun a' w' hk' hf' hd' K' hK'=>?_;refine wMv (v:=.bool true) (by rw[eTm];exact hd'.c (nd':=[4,5,7]) 8 (by simp) rfl) ?_;exact hK'
        refine oCs ?_ ?_
        · refine ZK rfl (by decide) (fun a w h=>h.c (nd':=[4,8]) 9 (by simp[spC,spR]) rfl) ?_;refine op_c fun a' w' hk' hf' hd' K' hK'=>?_;refine wMv (v:=.slice (some ⟨g8,o8,none⟩) acc.length c8) (by rw[eTm,hk'.get 6 (by omega),g26_6]) ?_;exact hK'
        refine oCs ?_ ?_
        · refine ZK rfl (by decide) (fun a w h=>h.c (nd':=[4,8]) 9 (by simp[spC,spR]) rfl) ?_;refine op_c fun a' w' hk' hf' hd' K' hK'=>?_;refine wMv (v:=.int .i64 (i:Int)) (by rw[eTm,hk'.get 9 (by omega),g26_9]) ?_;exact hK'
        refine oCs ?_ ?_
        · refine ZK rfl (by decide) (fun a w h=>h.c (nd':=[4,8]) 9 (by simp[spC,spR]) rfl) ?_;refine op_c fun a' w' hk' hf' hd' K' hK'=>?_;refine Z10 (b:=g8) (o:=o8) (i:=i) hs_T24 (by rw[eTm];exact hd'.c (nd':=[9]) 10 (by simp) rfl) (by rw[eTm];exact hd'.c (nd':=[9]) 11 (by simp) rfl) h4 ?_;exact hK'
        refine oCs ?_ ?_
        · refine ZK rfl (by decide) (fun a w h=>h.c (nd':=[4,8]) 9 (by simp[spC,spR]) rfl) ?_;refine op_c fun a' w' hk' hf' hd' K' hK'=>?_;refine wFa (b:=g8) (i:=o8+i * 2) (hFlT60.fld (by decide)) (by rw[eTm];exact hd'.c (nd':=[9,10,11]) 12 (by simp) rfl) ?_;rw[Nat.add_zero];exact hK'
        refine oCs ?_ ?_
        · refine ZK rfl (by decide) (fun a w h=>h.c (nd':=[4,8]) 9 (by simp[spC,spR]) rfl) ?_;refine op_c fun a' w' hk' hf' hd' K' hK'=>?_;refine Zn (b:=g8) (o:=o8+i * 2) (v:=.int .u32 ((kj:Nat):Int)) hcT58 (by rw[eTm];exact hd'.c (nd':=[9,12]) 13 (by simp) rfl) (Zv.1 (hf'.range hr8 .nil)).1 ?_;exact hK'
        refine oCs ?_ ?_
        · refine ZK rfl (by decide) (fun a w h=>h.c (nd':=[4,8]) 9 (by simp[spC,spR]) rfl) ?_;refine op_c fun a' w' hk' hf' hd' K' hK'=>?_;refine wFa (b:=w12.heap.size) (i:=0) (hFlT60.fld (by decide)) (by rw[eTm,hk'.get 8 (by omega),g26_8]) ?_;rw[show (0+0:Nat)=0 from rfl];exact hK'
        refine oCs ?_ ?_
        · refine ZK rfl (by decide) (fun a w h=>h.c (nd':=[4,8]) 9 (by simp[spC,spR]) rfl) ?_;refine op_c fun a' w' hk' hf' hd' K' hK'=>?_;refine wL0 (j:=0) (v:=.int .u32 ((kk:Nat):Int)) hcT58 (by rw[eTm];exact hd'.c (nd':=[9]) 15 (by simp) rfl) (hf'.range hbx3 .nil) rfl ?_;exact hK'
        refine oCs ?_ ?_
        · refine ZK rfl (by decide) (fun a w h=>h.c (nd':=[4,8]) 9 (by simp[spC,spR]) rfl) ?_;refine op_c fun a' w' hk' hf' hd' K' hK'=>?_;refine ZQ (k1:=.u32) (i:=((kj:Nat):Int)) (j:=((kk:Nat):Int)) (by omega) (by rw[eTm];exact hd'.c (nd':=[9,13]) 14 (by simp) rfl) (by rw[eTm];exact hd'.c (nd':=[9,15]) 16 (by simp) rfl) ?_;exact hK'
        refine oCs ?_ ?_
        · refine ZK rfl (by decide) (fun a w h=>h.c (nd':=[3]) 4 (by simp[spC,spR]) rfl) ?_;refine op_c fun a' w' hk' hf' hd' K' hK'=>?_;refine Zq (v:=.bool false) (by rw[eTm];exact hd'.c (nd':=[4,8]) 9 (by simp) rfl) (by rw[eTm];exact hd'.c (nd':=[9,14,16]) 17 (by simp) rfl) ?_;exact hK'
        refine oCs ?_ ?_
        · refine op_c fun a' w' hk' hf' hd' K' hK'=>?_;refine ZJ (v:=.bool false) (by rw[eTm];exact hd'.c (nd':=[3]) 4 (by simp) rfl) (by rw[eTm];exact hd'.c (nd':=[4,9,17]) 18 (by simp) rfl) ?_;exact hK'
        exact ZX
      intro a65 w65 k65 f65 hd_65;have g65_5:get a65 5 = .int .u32 ((Z5 fs:Nat):Int):=by rw[k65.get 5 (by omega),g26_5]
      have g65_6:get a65 6 = .slice (some ⟨g8,o8,none⟩) acc.length c8:=by rw[k65.get 6 (by omega),g26_6]
      have g65_8:get a65 8 = .pointer (some ⟨w12.heap.size,0,none⟩):=by rw[k65.get 8 (by omega),g26_8]
      have g65_9:get a65 9 = .int .i64 (i:Int):=by rw[k65.get 9 (by omega),g26_9]
      have g65_17:get a65 17 = .slice qu (min us.length 32767) capu:=by rw[k65.get 17 (by omega),g26_17]
      have g65_18:get a65 18 = .int .i64 ((min us.length 32767:Nat):Int):=by rw[k65.get 18 (by omega),g26_18]
      have g65_19:get a65 19 = .int .i64 (j:Int):=by rw[k65.get 19 (by omega),g26_19]
      have hz65:a65.tmps.size=85:=k65.size.trans hz26;have hd65:a65.defers=[]:=k65.defers.trans hd26;have g65_58:get a65 58 = .bool false:=hd_65.c (nd':=[4,18]) 19 (by simp) rfl;have hF66:Fr [] w w65:=hfw3.tr f65;have hL66_w26:Fr [] w26 w65:=(Fr.refl [] w26).tr f65;have rb67:=f65.range hbx3 .nil;rw[← hv8] at g65_6;have hins:ZT (Z5 fs) acc (kk,x)=acc.take i++(kk,x)::acc.drop i:=by unfold ZT;rw[if_neg h3,if_neg (by rw[← hia,hpj];simp[h5]),← hia]
      refine hK50 a65 w65 ?_;refine wp_cond_split (t:=false) (eK g65_58) (fun h=>by cases h) (fun _=>?_);refine wp_skip ?_;exact hJ28 a65 w65 ⟨hz65,hd65,g65_5,g65_6,g65_8,g65_9,g65_17,g65_18,g65_19,hins,htl3.kept hL66_w26 (by simp),ho3.upTo hL66_w26 (From.mono hL66_w26.size),hL66_w26.range hbx3 .nil,hox3.kept hL66_w26 (by simp) (fun _ h=>h),hF66,Nat.lt_of_lt_of_le hbs3 hL66_w26.size⟩
    refine wp_block (wp_loop_ghost (fun (m2:Nat) a' w'=>∃ (i:Nat),a'.tmps.size=85∧a'.defers=[]∧get a' 5 = .int .u32 ((Z5 fs:Nat):Int)∧get a' 6=v6∧get a' 8 = .pointer (some ⟨w12.heap.size,0,none⟩)∧get a' 9 = .int .i64 (i:Int)∧get a' 17 = .slice qu (min us.length 32767) capu∧get a' 18 = .int .i64 ((min us.length 32767:Nat):Int)∧get a' 19 = .int .i64 (j:Int)∧i+m2=acc.length∧i≤Z0h acc kk∧TgL w' B cs acc∧Own w' (From w.heap.size w') 2 v6 acc.length cs.flatten∧w'.rangeAt w12.heap.size 0 [.int .u32 ((kk:Nat):Int),xv]∧OctE w' B xv x∧Fr [] w w'∧w12.heap.size < w'.heap.size) acc.length ?_ ?_)
    · exact ⟨0,hz24,hd24,g24_5,g24_6,g24_8,g24_9,g24_17,g24_18,g24_19,by omega,Nat.zero_le _,htl.kept hL21_w12 (by simp),ho.upTo hL21_w12 (From.mono hL21_w12.size),r21,hox.kept hF21 (by simp) (fun _ h=>h),hF21,Z0s (n:=2) th21 (by decide)⟩
    rintro m2 a69 w69 ⟨i,hz69,hd69,g69_5,g69_6,g69_8,g69_9,g69_17,g69_18,g69_19,him,hia0,htl2,ho2,hbx,hox2,hfw2,hbs⟩;refine wp_seq_k fun K70 hK70=>?_;refine wp_seq_k fun K71 hK71=>?_
    by_cases h1:i < acc.length;rotate_left
    · have hia : i = Z0h acc kk := Z3g (fun p hp => by rw [List.getElem?_eq_none (by omega)] at hp; cases hp) hia0;refine Z0k [spC [] (.int .i64 (i : Int)), spC [] (v6), spC [1] (.int .i64 (acc.length : Int)), spC [0, 2] (.bool false), spC [3] (.bool false), spC [4] (undef), spC [4] (undef), spC [4, 5, 6] (undef), spC [4, 7] (undef), spC [4, 8] (undef), spC [4] (undef), spC [4, 10] (undef), spC [4, 9, 11] (undef), spC [4, 12] (.bool false)] 23 [] hmx he7 (by simp [Z0R]) (by simp [spC, spR]) (by simp; omega) ⟨lCc _ _ _, lCc _ _ _, lCc _ _ _, lCc _ _ _, lCc _ _ _, lCc _ _ _, lCc _ _ _, lCc _ _ _, lCc _ _ _, lCc _ _ _, lCc _ _ _, lCc _ _ _, lCc _ _ _, lCc _ _ _, trivial⟩ ?_ ?_
      · refine oCs ?_ ?_
        · refine op_c fun a' w' hk' hf' hd' K' hK'=>?_;refine wMv (v:=.int .i64 (i:Int)) (by rw[eTm,hk'.get 9 (by omega),g69_9]) ?_;exact hK'
        refine oCs ?_ ?_
        · refine op_c fun a' w' hk' hf' hd' K' hK'=>?_;refine wMv (v:=v6) (by rw[eTm,hk'.get 6 (by omega),g69_6]) ?_;exact hK'
        refine oCs ?_ ?_
        · refine op_c fun a' w' hk' hf' hd' K' hK'=>?_;obtain ⟨q6,c6,hv6⟩:=ho2.sl;refine Zs (n:=acc.length) hsT24 (Eq.trans (b:=v6) (by rw[eTm];exact hd'.c (nd':=[]) 1 (by simp) rfl) hv6) ?_;exact hK'
        refine oCs ?_ ?_
        · refine op_c fun a' w' hk' hf' hd' K' hK'=>?_;refine Z1h (k1:=.i64) (i:=(i:Int)) (j:=(acc.length:Int)) (by omega) (by rw[eTm];exact hd'.c (nd':=[]) 0 (by simp) rfl) (by rw[eTm];exact hd'.c (nd':=[1]) 2 (by simp) rfl) ?_;exact hK'
        refine oCs ?_ ?_
        · refine op_c fun a' w' hk' hf' hd' K' hK'=>?_;refine wMv (v:=.bool false) (by rw[eTm];exact hd'.c (nd':=[0,2]) 3 (by simp) rfl) ?_;exact hK'
        refine oCs ?_ ?_
        · exact Z0F rfl (by decide) (fun a w h=>h.c (nd':=[3]) 4 (by simp) rfl)
        refine oCs ?_ ?_
        · exact Z0F rfl (by decide) (fun a w h=>h.c (nd':=[3]) 4 (by simp) rfl)
        refine oCs ?_ ?_
        · exact Z0F rfl (by decide) (fun a w h=>h.c (nd':=[3]) 4 (by simp) rfl)
        refine oCs ?_ ?_
        · exact Z0F rfl (by decide) (fun a w h=>h.c (nd':=[3]) 4 (by simp) rfl)
        refine oCs ?_ ?_
        · exact Z0F rfl (by decide) (fun a w h=>h.c (nd':=[3]) 4 (by simp) rfl)
        refine oCs ?_ ?_
        · exact Z0F rfl (by decide) (fun a w h=>h.c (nd':=[3]) 4 (by simp) rfl)
        refine oCs ?_ ?_
        · exact Z0F rfl (by decide) (fun a w h=>h.c (nd':=[3]) 4 (by simp) rfl)
        refine oCs ?_ ?_
        · exact Z0F rfl (by decide) (fun a w h=>h.c (nd':=[3]) 4 (by simp) rfl)
        refine oCs ?_ ?_
        · refine op_c fun a' w' hk' hf' hd' K' hK'=>?_;refine ZJ (v:=.bool false) (by rw[eTm];exact hd'.c (nd':=[3]) 4 (by simp) rfl) rfl ?_;exact hK'
        exact ZX
      intro a72 w72 k72 f72 hd_72;have g72_5:get a72 5 = .int .u32 ((Z5 fs:Nat):Int):=by rw[k72.get 5 (by omega),g69_5]
      have g72_6:get a72 6=v6:=by rw[k72.get 6 (by omega),g69_6]
      have g72_8:get a72 8 = .pointer (some ⟨w12.heap.size,0,none⟩):=by rw[k72.get 8 (by omega),g69_8]
      have g72_9:get a72 9 = .int .i64 (i:Int):=by rw[k72.get 9 (by omega),g69_9]
      have g72_17:get a72 17 = .slice qu (min us.length 32767) capu:=by rw[k72.get 17 (by omega),g69_17]
      have g72_18:get a72 18 = .int .i64 ((min us.length 32767:Nat):Int):=by rw[k72.get 18 (by omega),g69_18]
      have g72_19:get a72 19 = .int .i64 (j:Int):=by rw[k72.get 19 (by omega),g69_19]
      have hz72:a72.tmps.size=85:=k72.size.trans hz69;have hd72:a72.defers=[]:=k72.defers.trans hd69;have g72_36:get a72 36 = .bool false:=hd_72.c (nd':=[4,12]) 13 (by simp) rfl;have hF73:Fr [] w w72:=hfw2.tr f72;have hL73_w69:Fr [] w69 w72:=(Fr.refl [] w69).tr f72;have rb74:=f72.range hbx .nil;refine hK71 a72 w72 ?_;refine wp_cond_split (t:=false) (eK g72_36) (fun h=>by cases h) (fun _=>?_);refine wp_exit ?_;show K25 a72 w72
      exact hJ26 a72 w72 ⟨i,hz72,hd72,g72_5,g72_6,g72_8,g72_9,g72_17,g72_18,g72_19,hia,htl2.kept hL73_w69 (by simp),ho2.upTo hL73_w69 (From.mono hL73_w69.size),hL73_w69.range hbx .nil,hox2.kept hL73_w69 (by simp) (fun _ h=>h),hF73,Nat.lt_of_lt_of_le hbs hL73_w69.size⟩
    obtain ⟨⟨ki,xi⟩,hpi⟩:∃ p,acc[i]?=some p:=⟨acc[i],by simp[h1]⟩;obtain ⟨ci,hci,yv,hcy,hki,_⟩:=htl2.at hpi;subst hcy;obtain ⟨g6,o6,c6,hv6,hg6,hb6,hr6,_⟩:=ho2.elt htl2.all htl2.len hci;rw[hv6] at g69_6
    by_cases h2:ki < kk
    · have hia1 : i + 1 ≤ Z0h acc kk := Z6w hpi h2 hia0;refine Z0k [spC [] (.int .i64 (i : Int)), spC [] (.slice (some ⟨g6, o6, none⟩) acc.length c6), spC [1] (.int .i64 ((acc.length : Nat) : Int)), spC [0, 2] (.bool true), spC [3] (.bool true), spC [4] (.slice (some ⟨g6, o6, none⟩) acc.length c6), spC [4] (.int .i64 (i : Int)), spC [4, 5, 6] (.pointer (some ⟨g6, o6 + i * 2, none⟩)), spC [4, 7] (.pointer (some ⟨g6, o6 + i * 2, none⟩)), spC [4, 8] (.int .u32 ((ki : Nat) : Int)), spC [4] (.pointer (some ⟨w12.heap.size, 0, none⟩)), spC [4, 10] (.int .u32 ((kk : Nat) : Int)), spC [4, 9, 11] (.bool true), spC [4, 12] (.bool true)] 23 [] hmx he7 (by simp [Z0R]) (by simp [spC, spR]) (by simp; omega) ⟨lCc _ _ _, lCc _ _ _, lCc _ _ _, lCc _ _ _, lCc _ _ _, lCc _ _ _, lCc _ _ _, lCc _ _ _, lCc _ _ _, lCc _ _ _, lCc _ _ _, lCc _ _ _, lCc _ _ _, lCc _ _ _, trivial⟩ ?_ ?_
      · refine oCs ?_ ?_
        · refine op_c fun a' w' hk' hf' hd' K' hK'=>?_;refine wMv (v:=.int .i64 (i:Int)) (by rw[eTm,hk'.get 9 (by omega),g69_9]) ?_;exact hK'
        refine oCs ?_ ?_
        · refine op_c fun a' w' hk' hf' hd' K' hK'=>?_;refine wMv (v:=.slice (some ⟨g6,o6,none⟩) acc.length c6) (by rw[eTm,hk'.get 6 (by omega),g69_6]) ?_;exact hK'
        refine oCs ?_ ?_
        · refine op_c fun a' w' hk' hf' hd' K' hK'=>?_;refine Zs (n:=acc.length) hsT24 (by rw[eTm];exact hd'.c (nd':=[]) 1 (by simp) rfl) ?_;exact hK'
        refine oCs ?_ ?_
        · refine op_c fun a' w' hk' hf' hd' K' hK'=>?_;refine Z1g (k1:=.i64) (i:=(i:Int)) (j:=((acc.length:Nat):Int)) (by omega) (by rw[eTm];exact hd'.c (nd':=[]) 0 (by simp) rfl) (by rw[eTm];exact hd'.c (nd':=[1]) 2 (by simp) rfl) ?_;exact hK'
        refine oCs ?_ ?_
        · refine op_c fun a' w' hk' hf' hd' K' hK'=>?_;refine wMv (v:=.bool true) (by rw[eTm];exact hd'.c (nd':=[0,2]) 3 (by simp) rfl) ?_;exact hK'
        refine oCs ?_ ?_
        · refine ZK rfl (by decide) (fun a w h=>h.c (nd':=[3]) 4 (by simp[spC,spR]) rfl) ?_;refine op_c fun a' w' hk' hf' hd' K' hK'=>?_;refine wMv (v:=.slice (some ⟨g6,o6,none⟩) acc.length c6) (by rw[eTm,hk'.get 6 (by omega),g69_6]) ?_;exact hK'
        refine oCs ?_ ?_
        · refine ZK rfl (by decide) (fun a w h=>h.c (nd':=[3]) 4 (by simp[spC,spR]) rfl) ?_;refine op_c fun a' w' hk' hf' hd' K' hK'=>?_;refine wMv (v:=.int .i64 (i:Int)) (by rw[eTm,hk'.get 9 (by omega),g69_9]) ?_;exact hK'
        refine oCs ?_ ?_
        · refine ZK rfl (by decide) (fun a w h=>h.c (nd':=[3]) 4 (by simp[spC,spR]) rfl) ?_;refine op_c fun a' w' hk' hf' hd' K' hK'=>?_;refine Z10 (b:=g6) (o:=o6) (i:=i) hs_T24 (by rw[eTm];exact hd'.c (nd':=[4]) 5 (by simp) rfl) (by rw[eTm];exact hd'.c (nd':=[4]) 6 (by simp) rfl) h1 ?_;exact hK'
        refine oCs ?_ ?_
        · refine ZK rfl (by decide) (fun a w h=>h.c (nd':=[3]) 4 (by simp[spC,spR]) rfl) ?_;refine op_c fun a' w' hk' hf' hd' K' hK'=>?_;refine wFa (b:=g6) (i:=o6+i * 2) (hFlT60.fld (by decide)) (by rw[eTm];exact hd'.c (nd':=[4,5,6]) 7 (by simp) rfl) ?_;rw[Nat.add_zero];exact hK'
        refine oCs ?_ ?_
        · refine ZK rfl (by decide) (fun a w h=>h.c (nd':=[3]) 4 (by simp[spC,spR]) rfl) ?_;refine op_c fun a' w' hk' hf' hd' K' hK'=>?_;refine Zn (b:=g6) (o:=o6+i * 2) (v:=.int .u32 ((ki:Nat):Int)) hcT58 (by rw[eTm];exact hd'.c (nd':=[4,7]) 8 (by simp) rfl) (Zv.1 (hf'.range hr6 .nil)).1 ?_;exact hK'
        refine oCs ?_ ?_
        · refine ZK rfl (by decide) (fun a w h=>h.c (nd':=[3]) 4 (by simp[spC,spR]) rfl) ?_;refine op_c fun a' w' hk' hf' hd' K' hK'=>?_;refine wFa (b:=w12.heap.size) (i:=0) (hFlT60.fld (by decide)) (by rw[eTm,hk'.get 8 (by omega),g69_8]) ?_;rw[show (0+0:Nat)=0 from rfl];exact hK'
        refine oCs ?_ ?_
        · refine ZK rfl (by decide) (fun a w h=>h.c (nd':=[3]) 4 (by simp[spC,spR]) rfl) ?_;refine op_c fun a' w' hk' hf' hd' K' hK'=>?_;refine wL0 (j:=0) (v:=.int .u32 ((kk:Nat):Int)) hcT58 (by rw[eTm];exact hd'.c (nd':=[4]) 10 (by simp) rfl) (hf'.range hbx .nil) rfl ?_;exact hK'
        refine oCs ?_ ?_
        · refine ZK rfl (by decide) (fun a w h=>h.c (nd':=[3]) 4 (by simp[spC,spR]) rfl) ?_;refine op_c fun a' w' hk' hf' hd' K' hK'=>?_;refine Z1g (k1:=.u32) (i:=((ki:Nat):Int)) (j:=((kk:Nat):Int)) (by omega) (by rw[eTm];exact hd'.c (nd':=[4,8]) 9 (by simp) rfl) (by rw[eTm];exact hd'.c (nd':=[4,10]) 11 (by simp) rfl) ?_;exact hK'
        refine oCs ?_ ?_
        · refine op_c fun a' w' hk' hf' hd' K' hK'=>?_;refine Zq (v:=.bool true) (by rw[eTm];exact hd'.c (nd':=[3]) 4 (by simp) rfl) (by rw[eTm];exact hd'.c (nd':=[4,9,11]) 12 (by simp) rfl) ?_;exact hK'
        exact ZX
      intro a76 w76 k76 f76 hd_76;have g76_5:get a76 5 = .int .u32 ((Z5 fs:Nat):Int):=by rw[k76.get 5 (by omega),g69_5]
      have g76_6:get a76 6 = .slice (some ⟨g6,o6,none⟩) acc.length c6:=by rw[k76.get 6 (by omega),g69_6]
      have g76_8:get a76 8 = .pointer (some ⟨w12.heap.size,0,none⟩):=by rw[k76.get 8 (by omega),g69_8]
      have g76_9:get a76 9 = .int .i64 (i:Int):=by rw[k76.get 9 (by omega),g69_9]
      have g76_17:get a76 17 = .slice qu (min us.length 32767) capu:=by rw[k76.get 17 (by omega),g69_17]
      have g76_18:get a76 18 = .int .i64 ((min us.length 32767:Nat):Int):=by rw[k76.get 18 (by omega),g69_18]
      have g76_19:get a76 19 = .int .i64 (j:Int):=by rw[k76.get 19 (by omega),g69_19]
      have hz76:a76.tmps.size=85:=k76.size.trans hz69;have hd76:a76.defers=[]:=k76.defers.trans hd69;have g76_36:get a76 36 = .bool true:=hd_76.c (nd':=[4,12]) 13 (by simp) rfl;have hF77:Fr [] w w76:=hfw2.tr f76;have hL77_w69:Fr [] w69 w76:=(Fr.refl [] w69).tr f76;have rb78:=f76.range hbx .nil;rw[← hv6] at g76_6;refine hK71 a76 w76 ?_;refine wp_cond_split (t:=true) (eK g76_36) (fun _=>?_) (fun h=>by cases h);refine wp_skip ?_;refine hK70 a76 w76 ?_;refine Zj ?_;refine Z2 ?_;refine wC (wMv (v:=.int .i64 (i:Int)) (eK g76_9) ?_);refine wC (ZF (k1:=.i64) (i:=(i:Int)) (j:=1) (eS hz76) rfl ?_);rw[show (IntKind.i64.wrap (((i:Int):Int)+(1:Int)):Int)=(((i+1:Nat):Int):Int) from by simp only[IntKind.wrap,IntKind.bits,IntKind.signed];simp;omega];refine wC (wAs (v:=.int .i64 ((i+1:Nat):Int)) (eS hz76) ?_);refine wEk hz76 hd76 fun a80 ha80 hz80 hd80=>?_;have g80_5:=kP ha80 g76_5;have g80_6:=kP ha80 g76_6;have g80_8:=kP ha80 g76_8;have g80_9:get a80 9 = .int .i64 ((i+1:Nat):Int):=kG ha80 hz76;have g80_17:=kP ha80 g76_17;have g80_18:=kP ha80 g76_18;have g80_19:=kP ha80 g76_19;exact ⟨m2 - 1,by omega,i+1,hz80,hd80,g80_5,g80_6,g80_8,g80_9,g80_17,g80_18,g80_19,by omega,hia1,htl2.kept hL77_w69 (by simp),ho2.upTo hL77_w69 (From.mono hL77_w69.size),hL77_w69.range hbx .nil,hox2.kept hL77_w69 (by simp) (fun _ h=>h),hF77,Nat.lt_of_lt_of_le hbs hL77_w69.size⟩
    have hia:i=Z0h acc kk:=Z3g (fun p hp=>by rw[hpi] at hp;obtain rfl:=Option.some.inj hp;exact h2) hia0;refine Z0k [spC [] (.int .i64 (i:Int)),spC [] (.slice (some ⟨g6,o6,none⟩) acc.length c6),spC [1] (.int .i64 ((acc.length:Nat):Int)),spC [0,2] (.bool true),spC [3] (.bool true),spC [4] (.slice (some ⟨g6,o6,none⟩) acc.length c6),spC [4] (.int .i64 (i:Int)),spC [4,5,6] (.pointer (some ⟨g6,o6+i * 2,none⟩)),spC [4,7] (.pointer (some ⟨g6,o6+i * 2,none⟩)),spC [4,8] (.int .u32 ((ki:Nat):Int)),spC [4] (.pointer (some ⟨w12.heap.size,0,none⟩)),spC [4,10] (.int .u32 ((kk:Nat):Int)),spC [4,9,11] (.bool false),spC [4,12] (.bool false)] 23 [] hmx he7 (by simp[Z0R]) (by simp[spC,spR]) (by simp;omega) ⟨lCc _ _ _,lCc _ _ _,lCc _ _ _,lCc _ _ _,lCc _ _ _,lCc _ _ _,lCc _ _ _,lCc _ _ _,lCc _ _ _,lCc _ _ _,lCc _ _ _,lCc _ _ _,lCc _ _ _,lCc _ _ _,trivial⟩ ?_ ?_
    · refine oCs ?_ ?_
      · refine op_c fun a' w' hk' hf' hd' K' hK'=>?_;refine wMv (v:=.int .i64 (i:Int)) (by rw[eTm,hk'.get 9 (by omega),g69_9]) ?_;exact hK'
      refine oCs ?_ ?_
      · refine op_c fun a' w' hk' hf' hd' K' hK'=>?_;refine wMv (v:=.slice (some ⟨g6,o6,none⟩) acc.length c6) (by rw[eTm,hk'.get 6 (by omega),g69_6]) ?_;exact hK'
      refine oCs ?_ ?_
      · refine op_c fun a' w' hk' hf' hd' K' hK'=>?_;refine Zs (n:=acc.length) hsT24 (by rw[eTm];exact hd'.c (nd':=[]) 1 (by simp) rfl) ?_;exact hK'
      refine oCs ?_ ?_
      · refine op_c fun a' w' hk' hf' hd' K' hK'=>?_;refine Z1g (k1:=.i64) (i:=(i:Int)) (j:=((acc.length:Nat):Int)) (by omega) (by rw[eTm];exact hd'.c (nd':=[]) 0 (by simp) rfl) (by rw[eTm];exact hd'.c (nd':=[1]) 2 (by simp) rfl) ?_;exact hK'
      refine oCs ?_ ?_
      · refine op_c fun a' w' hk' hf' hd' K' hK'=>?_;refine wMv (v:=.bool true) (by rw[eTm];exact hd'.c (nd':=[0,2]) 3 (by simp) rfl) ?_;exact hK'
      refine oCs ?_ ?_
      · refine ZK rfl (by decide) (fun a w h=>h.c (nd':=[3]) 4 (by simp[spC,spR]) rfl) ?_;refine op_c fun a' w' hk' hf' hd' K' hK'=>?_;refine wMv (v:=.slice (some ⟨g6,o6,none⟩) acc.length c6) (by rw[eTm,hk'.get 6 (by omega),g69_6]) ?_;exact hK'
      refine oCs ?_ ?_
      · refine ZK rfl (by decide) (fun a w h=>h.c (nd':=[3]) 4 (by simp[spC,spR]) rfl) ?_;refine op_c fun a' w' hk' hf' hd' K' hK'=>?_;refine wMv (v:=.int .i64 (i:Int)) (by rw[eTm,hk'.get 9 (by omega),g69_9]) ?_;exact hK'
      refine oCs ?_ ?_
      · refine ZK rfl (by decide) (fun a w h=>h.c (nd':=[3]) 4 (by simp[spC,spR]) rfl) ?_;refine op_c fun a' w' hk' hf' hd' K' hK'=>?_;refine Z10 (b:=g6) (o:=o6) (i:=i) hs_T24 (by rw[eTm];exact hd'.c (nd':=[4]) 5 (by simp) rfl) (by rw[eTm];exact hd'.c (nd':=[4]) 6 (by simp) rfl) h1 ?_;exact hK'
      refine oCs ?_ ?_
      · refine ZK rfl (by decide) (fun a w h=>h.c (nd':=[3]) 4 (by simp[spC,spR]) rfl) ?_;refine op_c fun a' w' hk' hf' hd' K' hK'=>?_;refine wFa (b:=g6) (i:=o6+i * 2) (hFlT60.fld (by decide)) (by rw[eTm];exact hd'.c (nd':=[4,5,6]) 7 (by simp) rfl) ?_;rw[Nat.add_zero];exact hK'
      refine oCs ?_ ?_
      · refine ZK rfl (by decide) (fun a w h=>h.c (nd':=[3]) 4 (by simp[spC,spR]) rfl) ?_;refine op_c fun a' w' hk' hf' hd' K' hK'=>?_;refine Zn (b:=g6) (o:=o6+i * 2) (v:=.int .u32 ((ki:Nat):Int)) hcT58 (by rw[eTm];exact hd'.c (nd':=[4,7]) 8 (by simp) rfl) (Zv.1 (hf'.range hr6 .nil)).1 ?_;exact hK'
      refine oCs ?_ ?_
      · refine ZK rfl (by decide) (fun a w h=>h.c (nd':=[3]) 4 (by simp[spC,spR]) rfl) ?_;refine op_c fun a' w' hk' hf' hd' K' hK'=>?_;refine wFa (b:=w12.heap.size) (i:=0) (hFlT60.fld (by decide)) (by rw[eTm,hk'.get 8 (by omega),g69_8]) ?_;rw[show (0+0:Nat)=0 from rfl];exact hK'
      refine oCs ?_ ?_
      · refine ZK rfl (by decide) (fun a w h=>h.c (nd':=[3]) 4 (by simp[spC,spR]) rfl) ?_;refine op_c fun a' w' hk' hf' hd' K' hK'=>?_;refine wL0 (j:=0) (v:=.int .u32 ((kk:Nat):Int)) hcT58 (by rw[eTm];exact hd'.c (nd':=[4]) 10 (by simp) rfl) (hf'.range hbx .nil) rfl ?_;exact hK'
      refine oCs ?_ ?_
      · refine ZK rfl (by decide) (fun a w h=>h.c (nd':=[3]) 4 (by simp[spC,spR]) rfl) ?_;refine op_c fun a' w' hk' hf' hd' K' hK'=>?_;refine Z1h (k1:=.u32) (i:=((ki:Nat):Int)) (j:=((kk:Nat):Int)) (by omega) (by rw[eTm];exact hd'.c (nd':=[4,8]) 9 (by simp) rfl) (by rw[eTm];exact hd'.c (nd':=[4,10]) 11 (by simp) rfl) ?_;exact hK'
      refine oCs ?_ ?_
      · refine op_c fun a' w' hk' hf' hd' K' hK'=>?_;refine Zq (v:=.bool false) (by rw[eTm];exact hd'.c (nd':=[3]) 4 (by simp) rfl) (by rw[eTm];exact hd'.c (nd':=[4,9,11]) 12 (by simp) rfl) ?_;exact hK'
      exact ZX
    intro a81 w81 k81 f81 hd_81;have g81_5:get a81 5 = .int .u32 ((Z5 fs:Nat):Int):=by rw[k81.get 5 (by omega),g69_5]
    have g81_6:get a81 6 = .slice (some ⟨g6,o6,none⟩) acc.length c6:=by rw[k81.get 6 (by omega),g69_6]
    have g81_8:get a81 8 = .pointer (some ⟨w12.heap.size,0,none⟩):=by rw[k81.get 8 (by omega),g69_8]
    have g81_9:get a81 9 = .int .i64 (i:Int):=by rw[k81.get 9 (by omega),g69_9]
    have g81_17:get a81 17 = .slice qu (min us.length 32767) capu:=by rw[k81.get 17 (by omega),g69_17]
    have g81_18:get a81 18 = .int .i64 ((min us.length 32767:Nat):Int):=by rw[k81.get 18 (by omega),g69_18]
    have g81_19:get a81 19 = .int .i64 (j:Int):=by rw[k81.get 19 (by omega),g69_19]
    have hz81:a81.tmps.size=85:=k81.size.trans hz69;have hd81:a81.defers=[]:=k81.defers.trans hd69;have g81_36:get a81 36 = .bool false:=hd_81.c (nd':=[4,12]) 13 (by simp) rfl;have hF82:Fr [] w w81:=hfw2.tr f81;have hL82_w69:Fr [] w69 w81:=(Fr.refl [] w69).tr f81;have rb83:=f81.range hbx .nil;rw[← hv6] at g81_6;refine hK71 a81 w81 ?_;refine wp_cond_split (t:=false) (eK g81_36) (fun h=>by cases h) (fun _=>?_);refine wp_exit ?_;show K25 a81 w81
    exact hJ26 a81 w81 ⟨i,hz81,hd81,g81_5,g81_6,g81_8,g81_9,g81_17,g81_18,g81_19,hia,htl2.kept hL82_w69 (by simp),ho2.upTo hL82_w69 (From.mono hL82_w69.size),hL82_w69.range hbx .nil,hox2.kept hL82_w69 (by simp) (fun _ h=>h),hF82,Nat.lt_of_lt_of_le hbs hL82_w69.size⟩
  have hj0:j=(min us.length 32767):=by simp at hc16;omega
  rw[hj0,List.drop_of_length_le (by rw[List.length_take];omega),List.foldl_nil] at hacc;refine wp_exit ?_;show K9 a14 w12
  refine hK9 a14 w12 (tUp ?_);refine wT fun K85 hK85=>?_;refine wC (wMv (v:=v6) (eK g14_6) ?_);refine wC (wAs (v:=v6) (eS hz14) ?_);refine wEk hz14 hd14 fun a86 ha86 hz86 hd86=>?_;have g86_4:get a86 4=v6:=kG ha86 hz14;refine hK85 a86 w12 (tUp ?_);refine wp_ret ?_;exact ⟨hd86,v6,rIs hres g86_4,v6,rfl,hfw,by rw[← hacc];exact htl.tags ho (by omega) (fun b h=>.inr h) (fun b h=>.inl h)⟩
end Go.Kq

namespace Go.Kq
open Go Go.Proofs
theorem band1 (n:Int):bits .and .i64 n 1=n % 2:=by
  simp only[bits,BitVec.toNat_and,BitVec.toNat_ofInt];have h1:((1:Int) % ((2 ^ IntKind.i64.bits:Nat):Int)).toNat=1:=by decide
  rw[h1,Nat.and_one_is_mod,IntKind.wrap_i64];simp only[IntKind.bits];omega
theorem Z7f (n:Int):IntKind.u8.wrap (n % 2)=((UInt8.ofNat (n % 2).toNat).toNat:Int):=by
  rw[IntKind.wrap_u8];simp;omega
theorem Own.from {w:World} {s0 s sz n:Nat} {v:Value} {xs:List Value} (h:Own w (From s w) sz v n xs) (hs:s0≤s):Own w (From s0 w) sz v n xs:=h.imp_A fun b hb=>⟨by have:=hb.1;omega,hb.2⟩
theorem Z3p (s:List UInt8):(Z2K s).length=16:=by unfold Z2K;simp;omega
theorem wp_copyU {P:Program} {a:Act} {w:World} {K:Act→World→Prop} {Q:Exit→Act→World→Prop} {d:Option Tmp} {t:TypeId} {p:String} {af:Array Edge} {g:Option (Nat × Bool)} {T te:TypeId} {b:Nat} {B:Nat→Prop} {x y:Operand} {v:Value} {xs:List UInt8}
    (hT:Z4 P T te 1 1=true) (hx:a.eval x = .slice (some ⟨b,0,none⟩) 16 16) (hy:a.eval y=v) (hs:OctE w B v xs) (hr:w.rangeAt b 0 (Z0 (List.replicate 16 0))) (ht:w.there b 0 16)
    (k:∀ w' u,Fr [⟨b,0,16⟩] w w'→w'.rangeAt b 0 (Z0 (Z2K xs))→K (a.put d u) w') :
    OW P ⟨d,.call ⟨.builtin .copy,#[x,y],#[T,T]⟩,t,p,af,g⟩ a w K Q:=by
  obtain ⟨hu,i,z0,hi,hsz,hby,hzz,hsz0⟩:=Zu hT;have hs1:(P.info? te).map (·.size)=some 1:=by simp[hi,hsz]
  obtain ⟨q,cap,rfl,hq⟩:=hs.slice
  by_cases h0:xs=[]
  · subst h0;have hrun:=run_copy_none (P:=P) w T T t te (some ⟨b,0,none⟩) q 16 16 0 cap hu hs1 rfl;refine Zf (v:=goInt 0) (w':=w) ?_ (k w _ (Fr.refl _ _) (by simpa [Z2K] using hr));simp only[List.length_nil] at hy;simp only[execOp,resolve,invoke,builtin,List.map_toArray,List.map_cons,List.map_nil,hx,hy,hrun,Sem.run_bind,Result.andThen_ok,Sem.run_pure]
  obtain ⟨bo,o,rfl,hro⟩:=hq (List.length_pos_iff.2 h0);have hln:(Z0 (xs.take 16)).length=Nat.min xs.length 16:=by rw[lOc,List.length_take,Nat.min_comm]
  have hle:(Z0 (xs.take 16)).length≤16:=by rw[hln];exact Nat.min_le_right _ _
  have hsrc:w.rangeAt bo o (Z0 (xs.take 16)):=by have:=Z0o hro 0 16;simpa using this
  have hrun:=run_copy_cells (P:=P) w T T t te b 0 16 16 ⟨bo,o,none⟩ xs.length cap (Z0 (xs.take 16)) hu hs1 hln (fun j v hj=>by rw[Addr.add_mid];exact hsrc j v hj)
    (fun j hj=>(ht j (by omega)).1) (fun j hj=>(ht j (by omega)).2) (Z5p _)
  have fs:=Fr.sets b (Z0 (xs.take 16)) w 0;have th0:w.there b 0 (Z0 (xs.take 16)).length:=Z8 ht (Nat.le_refl _) (by omega);have rs:=World.rangeAt_setCells_same w b 0 (Z0 (xs.take 16)) th0;refine Zf (v:=goInt (Z0 (xs.take 16)).length) (w':=w.setCells b 0 (Z0 (xs.take 16))) ?_ (k _ _ (fs.mono (by intro r hr;simp at hr;subst hr;exact .inr ⟨_,List.mem_singleton.2 rfl,rfl,Nat.le_refl _,by simp only;omega⟩)) ?_)
  · simp only[execOp,resolve,invoke,builtin,List.map_toArray,List.map_cons,List.map_nil,hx,hy,hrun,Sem.run_bind,Result.andThen_ok,Sem.run_pure]
  unfold Z2K;rw[Z0z,Z3];refine ⟨rs,?_⟩;have hpart:=Z2d hr (xs.take 16).length (16 - (xs.take 16).length);rw[Z2w,Z2v] at hpart;have e:((List.replicate 16 (0:UInt8)).drop (xs.take 16).length).take (16 - (xs.take 16).length)=List.replicate (16 - xs.length) 0:=by
    rw[List.drop_replicate,List.take_replicate];congr 1;simp;omega
  rw[e] at hpart;rw[lOc];exact fs.range hpart (.cons (.inr (.inr (by simp[lOc]))) .nil)
end Go.Kq

namespace Go.Kq
open Go Go.Proofs
theorem Z4Q {s:Nat} {w1 w2 w3:World} (h0:s≤w1.heap.size) (h1:w1.heap.size≤w2.heap.size) (h2:w2.heap.size≤w3.heap.size) (b:Nat) (hb:From w1.heap.size w2 b∨(w2.heap.size≤b∧b < w3.heap.size)):From s w3 b:=by
  rcases hb with hb | hb
  · exact ⟨by have:=hb.1;omega,by have:=hb.2;omega⟩
  exact ⟨by omega,hb.2⟩
theorem made16:madeCells ([.int .u8 0]:List Value).toArray (16 * 1)=(Z0 (List.replicate 16 0)).toArray:=by
  apply Array.ext'
  simp[madeCells,Z0]
  rfl
theorem wp_litO {P:Program} {a:Act} {w:World} {K:Act→World→Prop} {Q:Exit→Act→World→Prop} {d:Option Tmp} {t:TypeId} {p:String} {af:Array Edge} {g:Option (Nat × Bool)} {T e:TypeId} {x:Operand} {c:UInt8} (hT:Z4 P T e 1 1=true) (hx:a.eval x = .int .u8 (c.toNat:Int))
    (k:∀ u w',Fr [] w w'→Own w' (From w.heap.size w') 1 u [c].length (Z0 [c])→K (a.put d u) w'):OW P ⟨d,.buildSlice T 1 #[(0,x)],t,p,af,g⟩ a w K Q:=by
  have hr:=ZD w #[.int .u8 (c.toNat:Int)] e (0,0);have ht:=Zx w #[.int .u8 (c.toNat:Int)] e;refine Z1o (xs:=[x]) (css:=[[.int .u8 (c.toNat:Int)]]) hT rfl (by decide) (by decide) (by simp[hx,Value.cells]) (by simp) (k _ _ (Fr.alloc _ _ _) ?_);exact ⟨rfl,.inr ⟨w.heap.size,0,1,⟨Nat.le_refl _,by rw[Zd];omega⟩,rfl,Nat.le_refl _,by decide,hr,ht⟩⟩
structure Z1W (P:Program) (f:FuncId) (fs:List Fd) (sub:Int→Bool→T→List UInt8):Prop where
  enters:Enters P f
  call:∀ (w:World) (A B:Nat→Prop) (v:Value) (ver:Int) (flex:Bool) (ct:List Value) (t:T),FdsR w A v fs→RepT w B ct t→(∀ b,A b→b < w.heap.size)→(∀ b,B b→b < w.heap.size)→(sub ver flex t).length≤4294967296 →
    Calls P f #[v,.int .i64 ver,.bool flex,.agg ct.toArray] w (Z5F w (sub ver flex t))
structure Z2p (P:Program) (f:FuncId) (fs:List Fd) (sub:Int→Bool→T→List UInt8):Prop where
  enters:Enters P f
  call:∀ (w:World) (A B:Nat→Prop) (v:Value) (ver:Int) (flex null:Bool) (kind:Int) (ct:List Value) (t:T),FdsR w A v fs→RepT w B ct t→(∀ b,A b→b < w.heap.size)→(∀ b,B b→b < w.heap.size)→(Zi kind (sub ver flex) null flex t).length≤4294967296 →
    Calls P f #[.int .i64 kind,v,.bool null,.int .i64 ver,.bool flex,.agg ct.toArray] w (Z5F w (Zi kind (sub ver flex) null flex t))
set_option maxHeartbeats 4000000 in
theorem value_m {P:Program} {f:FuncId} {fn:Func} {T2 T3 T5 T22 T26:TypeId} {f26 f54 f74 f76 f77:FuncId} {a0:Array TypeId} {a1:Array TypeId} {a2:Array TypeId} {a3:Array TypeId} {a4:Array TypeId} {a5:Array TypeId} {a6:Array TypeId} {i0 i1 i2 i3 i4 i5 i6 i7 i8 i9 i10 i11 i12 i13 i14 i15 i16 i17 i18 i19 i20:Nat} {t0 t1 t2 t3 t4 t5 t6 t7 t8 t9 t10 t11 t12 t13 t14 t15 t16 t17 t18 t19 t20 t21 t22 t23 t24 t25 t26 t27 t28 t29 t30 t31 t32 t33 t34 t35 t36 t37 t38 t39 t40 t41 t42 t43 t44 t45 t46 t47 t48 t49 t50 t51 t52 t53 t54 t55 t56 t57 t58 t59 t60 t61 t62 t63 t64 t65 t66:TypeId} {p0 p1 p2 p3 p4 p5 p6 p7 p8 p9 p10 p11 p12 p13 p14 p15 p16 p17 p18 p19 p20 p21 p22 p23 p24 p25 p26 p27 p28 p29 p30 p31 p32 p33 p34 p35 p36 p37 p38 p39 p40 p41 p42 p43 p44 p45 p46 p47 p48 p49 p50 p51 p52 p53 p54 p55 p56 p57 p58 p59 p60 p61 p62 p63 p64 p65 p66:String} {e0 e1 e2 e3 e4 e5 e6 e7 e8 e9 e10 e11 e12 e13 e14 e15 e16 e17 e18 e19 e20 e21 e22 e23 e24 e25 e26 e27 e28 e29 e30 e31 e32 e33 e34 e35 e36 e37 e38 e39 e40 e41 e42 e43 e44 e45 e46 e47 e48 e49 e50 e51 e52 e53 e54 e55 e56 e57 e58 e59 e60 e61 e62 e63 e64 e65 e66:Array Edge} {te:TypeId} {fs:List Fd} {sub:Int→Bool→T→List UInt8}
    (hf:P.funcs[f]?=some fn) (hname:nG fn=false) (hres:fn.results = #[.tmp 12]) (hN:fn.ntmps=70)
    (hbody:fn.body=some (.seq (Code.region i0 ⟨[⟨some 11,.box T26 (.tmp 5),t0,p0,e0,none⟩,
    oA 12 (.const (.slice none 0 0)) t1 p1 e1]⟩ false) (.seq (.seq (Code.region i1 ⟨[oM 16 0 t2 p2 e2]⟩ false) (.block 0 (.seq (Code.region i2 ⟨[⟨some 18,.binOp .eql T3 (.tmp 16) (.const (.int .i64 0)) T3,t3,p3,e3,none⟩,
    oT 17 18 t4 p4 e4]⟩ false) (.cond (.tmp 17) (.seq (Code.region i3 ⟨[oF 19 T26 11 0 t5 p5 e5,
    oL 20 T2 19 t6 p6 e6,⟨some 21,.binOp .and T2 (.tmp 20) (.const (.int .i64 1)) T2,t7,p7,e7,none⟩,⟨some 22,.convert T2 T5 (.tmp 21),t8,p8,e8,none⟩,⟨some 23,.buildSlice T22 1 #[(0,.tmp 22)],t9,p9,e9,none⟩,
    oT 12 23 t10 p10 e10]⟩ false) .ret) (.seq (Code.region i4 ⟨[⟨some 25,.binOp .eql T3 (.tmp 16) (.const (.int .i64 7)) T3,t11,p11,e11,none⟩,
    oT 24 25 t12 p12 e12]⟩ false) (.cond (.tmp 24) (.seq (Code.region i5 ⟨[⟨some 26,.makeSlice T22 (.const (.int .i64 16)) (.const (.int .i64 16)),t13,p13,e13,none⟩,
    oT 13 26 t14 p14 e14]⟩ false) (.seq (Code.region i6 ⟨[oM 27 13 t15 p15 e15,
    oF 28 T26 11 1 t16 p16 e16,
    oL 29 T22 28 t17 p17 e17,⟨some 30,.call ⟨.builtin .copy,#[(.tmp 27),(.tmp 29)],#[T22,T22]⟩,t18,p18,e18,none⟩]⟩ false) (.seq (Code.region i7 ⟨[oM 31 13 t19 p19 e19,
    oT 12 31 t20 p20 e20]⟩ false) .ret))) (.seq (Code.region i8 ⟨[⟨some 33,.binOp .eql T3 (.tmp 16) (.const (.int .i64 8)) T3,t21,p21,e21,none⟩,
    oT 32 33 t22 p22 e22]⟩ false) (.cond (.tmp 32) (.seq (Code.region i9 ⟨[oF 34 T26 11 1 t23 p23 e23,
    oL 35 T22 34 t24 p24 e24,
    oC 36 f54 #[(.tmp 35)] a0 t25 p25 e25,
    oT 14 36 t26 p26 e26]⟩ false) (.seq (.seq (Code.region i10 ⟨[oM 37 2 t27 p27 e27]⟩ false) (.cond (.tmp 37) (Code.region i11 ⟨[oA 14 (.const (.slice none 0 0)) t28 p28 e28]⟩ false) .skip)) (.seq (Code.region i12 ⟨[oM 38 4 t29 p29 e29,
    oM 39 2 t30 p30 e30,
    oM 40 14 t31 p31 e31,⟨some 41,.call ⟨.builtin .len,#[(.tmp 40)],#[T22]⟩,t32,p32,e32,none⟩,
    oC 42 f74 #[(.tmp 38),(.tmp 39),(.tmp 41),(.const (.int .i64 2))] a1 t33 p33 e33,
    oM 43 14 t34 p34 e34,⟨some 44,.call ⟨.builtin .append,#[(.tmp 42),(.tmp 43)],#[T22,T22]⟩,t35,p35,e35,none⟩,
    oT 12 44 t36 p36 e36]⟩ false) .ret))) (.seq (Code.region i13 ⟨[⟨some 46,.binOp .eql T3 (.tmp 16) (.const (.int .i64 9)) T3,t37,p37,e37,none⟩,
    oT 45 46 t38 p38 e38]⟩ false) (.cond (.tmp 45) (.seq (Code.region i14 ⟨[oF 47 T26 11 1 t39 p39 e39,
    oL 48 T22 47 t40 p40 e40,
    oC 49 f54 #[(.tmp 48)] a2 t41 p41 e41,
    oT 15 49 t42 p42 e42]⟩ false) (.seq (.seq (Code.region i15 ⟨[oM 50 2 t43 p43 e43]⟩ false) (.cond (.tmp 50) (Code.region i16 ⟨[oA 15 (.const (.slice none 0 0)) t44 p44 e44]⟩ false) .skip)) (.seq (Code.region i17 ⟨[oM 51 4 t45 p45 e45,
    oM 52 2 t46 p46 e46,
    oM 53 15 t47 p47 e47,⟨some 54,.call ⟨.builtin .len,#[(.tmp 53)],#[T22]⟩,t48,p48,e48,none⟩,
    oC 55 f74 #[(.tmp 51),(.tmp 52),(.tmp 54),(.const (.int .i64 4))] a3 t49 p49 e49,
    oM 56 15 t50 p50 e50,⟨some 57,.call ⟨.builtin .append,#[(.tmp 55),(.tmp 56)],#[T22,T22]⟩,t51,p51,e51,none⟩,
    oT 12 57 t52 p52 e52]⟩ false) .ret))) (.seq (Code.region i18 ⟨[⟨some 59,.binOp .eql T3 (.tmp 16) (.const (.int .i64 10)) T3,t53,p53,e53,none⟩,
    oT 58 59 t54 p54 e54]⟩ false) (.cond (.tmp 58) (.seq (Code.region i19 ⟨[oM 60 1 t55 p55 e55,
    oM 61 3 t56 p56 e56,
    oM 62 4 t57 p57 e57,
    oL 63 T26 11 t58 p58 e58,
    oC 64 f26 #[(.tmp 60),(.tmp 61),(.tmp 62),(.tmp 63)] a4 t59 p59 e59,
    oT 12 64 t60 p60 e60]⟩ false) .ret) .skip)))))))))))) (.seq (Code.region i20 ⟨[oF 65 T26 11 0 t61 p61 e61,
    oL 66 T2 65 t62 p62 e62,
    oM 67 0 t63 p63 e63,
    oC 68 f77 #[(.tmp 67)] a5 t64 p64 e64,
    oC 69 f76 #[(.tmp 66),(.tmp 68)] a6 t65 p65 e65,
    oT 12 69 t66 p66 e66]⟩ true) .ret))))
    (hs_T22:Z4 P T22 te 1 1=true) (hz_T22:ZI P te [.int .u8 0]) (hFlT26:Flat P T26 zT) (hcT2:scal P T2=true) (hT2_i64:Zh P T2 .i64=true) (hT5_u8:Zh P T5 .u8=true) (hcT22:scal P T22=true) (hsT22:slTy P T22=true) (he20:Z0q 0 [e61,e62,e63,e64,e65,e66] [[],[0],[],[2],[0,1,2,3],[0,1,2,3,4]]=true) (hmx:P.follows .mixedOrders=true) (hWh:Z6L P f54) (hCo:Z6N P f74) (hPa:Z1W P f26 fs sub) (hWi:Z6K P f77) (hFx:FixM P f76):Z2p P f fs sub:=by
  refine ⟨enters_of hf hname hbody,?_⟩;intro w A B v ver flex null kind ct t hfs ht hA hB hlen
  cases t with
  | mk n s nl l u =>
  have ht0:=ht;obtain ⟨sv,lv,uv,rfl,hn,hs,hl,hu⟩:=Z0x.1 ht;refine calls_of_wp hf hbody ?_;generalize ha0:({ tmps:=#[Value.int .i64 kind,v,Value.bool null,Value.int .i64 ver,Value.bool flex,Value.agg ([.int .i64 n,sv,.bool nl,lv,uv]:List Value).toArray]++Array.replicate (fn.ntmps - (#[Value.int .i64 kind,v,Value.bool null,Value.int .i64 ver,Value.bool flex,Value.agg ([.int .i64 n,sv,.bool nl,lv,uv]:List Value).toArray]:Array Value).size) undef,defers:=[] }:Act)=a0;have hz0:a0.tmps.size=70:=by subst ha0;simp[hN]
  have hd0:a0.defers=[]:=by subst ha0;rfl
  have g0_0:get a0 0 = .int .i64 kind:=by subst ha0;exact gAr rfl
  have g0_1:get a0 1=v:=by subst ha0;exact gAr rfl
  have g0_2:get a0 2 = .bool null:=by subst ha0;exact gAr rfl
  have g0_3:get a0 3 = .int .i64 ver:=by subst ha0;exact gAr rfl
  have g0_4:get a0 4 = .bool flex:=by subst ha0;exact gAr rfl
  have g0_5:get a0 5 = .agg ([.int .i64 n,sv,.bool nl,lv,uv]:List Value).toArray:=by subst ha0;exact gAr rfl
  refine wT fun K1 hK1=>?_;refine wC (ZL (cs:=[.int .i64 n,sv,.bool nl,lv,uv]) (eK g0_5) ?_);rintro w2 f2 sz2 r2 th2;have hF3:Fr [] w w2:=f2;refine wC (wAs (v:=.slice none 0 0) rfl ?_);refine wEk hz0 hd0 fun a4 ha4 hz4 hd4=>?_;have g4_0:=kP ha4 g0_0;have g4_1:=kP ha4 g0_1;have g4_2:=kP ha4 g0_2;have g4_3:=kP ha4 g0_3;have g4_4:=kP ha4 g0_4;have g4_11:get a4 11 = .pointer (some ⟨w.heap.size,0,none⟩):=kG ha4 hz0;refine hK1 a4 w2 (tUp ?_);refine tId (wp_seq_k fun K5 hK5=>?_);refine wS fun K6 hK6=>?_;refine wC (wMv (v:=.int .i64 kind) (eK g4_0) ?_);refine wEk hz4 hd4 fun a7 ha7 hz7 hd7=>?_;have g7_0:=kP ha7 g4_0;have g7_1:=kP ha7 g4_1;have g7_2:=kP ha7 g4_2;have g7_3:=kP ha7 g4_3;have g7_4:=kP ha7 g4_4;have g7_11:=kP ha7 g4_11;have g7_16:get a7 16 = .int .i64 kind:=kG ha7 hz4;refine hK6 a7 w2 ?_;refine Zj ?_;refine wS fun K8 hK8=>?_;refine wC (Z0i (k1:=.i64) (i:=kind) (j:=0) (eK g7_16) rfl ?_);refine wC (wAs (v:=.bool ((kind:Int)==(0:Int))) (eS hz7) ?_);refine wEk hz7 hd7 fun a9 ha9 hz9 hd9=>?_;have g9_0:=kP ha9 g7_0;have g9_1:=kP ha9 g7_1;have g9_2:=kP ha9 g7_2;have g9_3:=kP ha9 g7_3;have g9_4:=kP ha9 g7_4;have g9_11:=kP ha9 g7_11;have g9_16:=kP ha9 g7_16;have g9_17:get a9 17 = .bool ((kind:Int)==(0:Int)):=kG ha9 hz7;refine hK8 a9 w2 ?_;refine wp_cond_split (t:=((kind:Int)==(0:Int))) (eK g9_17) (fun hc10=>?_) (fun hc10=>?_)
  · have hk0 : kind = 0 := by simpa using hc10
    refine wp_seq_k fun K11 hK11=>?_;have hW:Zi kind (sub ver flex) null flex (.mk n s nl l u)=[UInt8.ofNat (n % 2).toNat]:=by simp[Zi,hk0,T.n]
    rw[hW] at hlen;refine Z2 ?_;refine wC (wFa (b:=w.heap.size) (i:=0) (hFlT26.fld (by decide)) (eK g9_11) ?_);rw[show (0+0:Nat)=0 from rfl];refine wC (wL0 (j:=0) (v:=.int .i64 n) hcT2 (eS hz9) r2 rfl ?_);refine wC (Z0U (k1:=.i64) (i:=n) (j:=1) (eS hz9) rfl ?_);rw[band1];refine wC (wCv (k1:=.i64) (i:=n % 2) hT2_i64 hT5_u8 (eS hz9) ?_);rw[show (IntKind.u8.wrap (n % 2:Int))=(((UInt8.ofNat (n % 2).toNat).toNat:Int):Int) from Z7f n];refine wC (wp_litO (c:=UInt8.ofNat (n % 2).toNat) hs_T22 (eS hz9) ?_);rintro x12 w12 fr12 ow12;have hF13:Fr [] w w12:=hF3.tr fr12;have rb14:=fr12.range r2 .nil;refine wC (wAs (v:=x12) (eS hz9) ?_);refine wEk hz9 hd9 fun a15 ha15 hz15 hd15=>?_;have g15_12:get a15 12=x12:=kG ha15 hz9;refine hK11 a15 w12 ?_;refine wp_ret ?_;rw[hW];exact ⟨hd15,_,rIs hres g15_12,_,rfl,hF13,ow12.from hF3.size⟩
  have hn0:kind ≠ 0:=by simpa using hc10
  refine wS fun K16 hK16=>?_;refine wC (Z0i (k1:=.i64) (i:=kind) (j:=7) (eK g9_16) rfl ?_);refine wC (wAs (v:=.bool ((kind:Int)==(7:Int))) (eS hz9) ?_);refine wEk hz9 hd9 fun a17 ha17 hz17 hd17=>?_;have g17_0:=kP ha17 g9_0;have g17_1:=kP ha17 g9_1;have g17_2:=kP ha17 g9_2;have g17_3:=kP ha17 g9_3;have g17_4:=kP ha17 g9_4;have g17_11:=kP ha17 g9_11;have g17_16:=kP ha17 g9_16;have g17_24:get a17 24 = .bool ((kind:Int)==(7:Int)):=kG ha17 hz9;refine hK16 a17 w2 ?_;refine wp_cond_split (t:=((kind:Int)==(7:Int))) (eK g17_24) (fun hc18=>?_) (fun hc18=>?_)
  · have hk7 : kind = 7 := by simpa using hc18
    refine wp_seq_k fun K19 hK19=>?_;have hW:Zi kind (sub ver flex) null flex (.mk n s nl l u)=Z2K s:=by simp[Zi,hk7,T.s]
    rw[hW] at hlen;refine Z2 ?_;refine wC (wp_make (n:=16) hs_T22 hz_T22 (by decide) (by decide) ?_);have fr20:=Fr.alloc [] w2 (.cells (madeCells ([.int .u8 0]:List Value).toArray (16 * 1)) te);have rg20:(w2.alloc (.cells (madeCells ([.int .u8 0]:List Value).toArray (16 * 1)) te)).rangeAt w2.heap.size 0 (Z0 (List.replicate 16 0)):=by rw[made16];simpa using ZD w2 (Z0 (List.replicate 16 0)).toArray te (0,0)
    have th20:(w2.alloc (.cells (madeCells ([.int .u8 0]:List Value).toArray (16 * 1)) te)).there w2.heap.size 0 16:=by rw[made16];simpa [lOc] using Zx w2 (Z0 (List.replicate 16 0)).toArray te
    have sz20:=Zd w2 (.cells (madeCells ([.int .u8 0]:List Value).toArray (16 * 1)) te);generalize w2.alloc (.cells (madeCells ([.int .u8 0]:List Value).toArray (16 * 1)) te)=w20 at fr20 rg20 th20 sz20 ⊢;have hF21:Fr [] w w20:=hF3.tr fr20;have rb22:=fr20.range r2 .nil;refine wC (wAs (v:=.slice (some ⟨w2.heap.size,0,none⟩) 16 16) (eS hz17) ?_);refine wEk hz17 hd17 fun a23 ha23 hz23 hd23=>?_;have g23_11:=kP ha23 g17_11;have g23_13:get a23 13 = .slice (some ⟨w2.heap.size,0,none⟩) 16 16:=kG ha23 hz17;refine hK19 a23 w20 ?_;refine wS fun K24 hK24=>?_;refine wC (wMv (v:=.slice (some ⟨w2.heap.size,0,none⟩) 16 16) (eK g23_13) ?_);refine wC (wFa (b:=w.heap.size) (i:=0) (hFlT26.fld (by decide)) (eK g23_11) ?_);rw[show (0+1:Nat)=1 from rfl];refine wC (wL0 (j:=1) (v:=sv) hcT22 (eS hz23) rb22 rfl ?_);refine wC (wp_copyU (xs:=s) (b:=w2.heap.size) hs_T22 (eS hz23) (eS hz23) (hs.kept hF21 (by simp) (fun _ h=>h)) rg20 th20 ?_);rintro w25 u25 f25 r25;have hF25:Fr [] w w25:=hF21.trans f25 (fun r hr=>.inl (by simp at hr;subst hr;exact hF3.size));refine wEk hz23 hd23 fun a26 ha26 hz26 hd26=>?_;have g26_13:=kP ha26 g23_13;refine hK24 a26 w25 ?_;refine wS fun K27 hK27=>?_;refine wC (wMv (v:=.slice (some ⟨w2.heap.size,0,none⟩) 16 16) (eK g26_13) ?_);refine wC (wAs (v:=.slice (some ⟨w2.heap.size,0,none⟩) 16 16) (eS hz26) ?_);refine wEk hz26 hd26 fun a28 ha28 hz28 hd28=>?_;have g28_12:get a28 12 = .slice (some ⟨w2.heap.size,0,none⟩) 16 16:=kG ha28 hz26;refine hK27 a28 w25 ?_;refine wp_ret ?_;rw[hW];refine ⟨hd28,_,rIs hres g28_12,_,rfl,hF25,by rw[lOc,Nat.mul_one],.inr ⟨w2.heap.size,0,16,⟨hF3.size,by have:=f25.size;omega⟩,by rw[Z3p],by rw[Z3p];exact Nat.le_refl _,by decide,r25,f25.there th20⟩⟩
  have hn7:kind ≠ 7:=by simpa using hc18
  refine wS fun K29 hK29=>?_;refine wC (Z0i (k1:=.i64) (i:=kind) (j:=8) (eK g17_16) rfl ?_);refine wC (wAs (v:=.bool ((kind:Int)==(8:Int))) (eS hz17) ?_);refine wEk hz17 hd17 fun a30 ha30 hz30 hd30=>?_;have g30_0:=kP ha30 g17_0;have g30_1:=kP ha30 g17_1;have g30_2:=kP ha30 g17_2;have g30_3:=kP ha30 g17_3;have g30_4:=kP ha30 g17_4;have g30_11:=kP ha30 g17_11;have g30_16:=kP ha30 g17_16;have g30_32:get a30 32 = .bool ((kind:Int)==(8:Int)):=kG ha30 hz17;refine hK29 a30 w2 ?_;refine wp_cond_split (t:=((kind:Int)==(8:Int))) (eK g30_32) (fun hc31=>?_) (fun hc31=>?_)
  · have hk8 : kind = 8 := by simpa using hc31
    refine wS fun K32 hK32=>?_;refine wC (wFa (b:=w.heap.size) (i:=0) (hFlT26.fld (by decide)) (eK g30_11) ?_);rw[show (0+1:Nat)=1 from rfl];refine wC (wL0 (j:=1) (v:=sv) hcT22 (eS hz30) r2 rfl ?_);refine wC (wCr (R:=fun x w'=>OctE w' B x (Zb s)∧w2=w') (vs:=#[sv]) hWh.enters (mX1 (eS hz30)) ((hWh.call w2 B sv s (hs.kept hF3 (by simp) (fun _ h=>h))).mono (by rintro e w' ⟨x,rfl,h1,rfl⟩;exact ⟨x,rfl,h1,rfl⟩)) ?_);rintro x33 _ ⟨hx33,rfl⟩;obtain ⟨q33,c33,rfl,hcc33,-,-⟩:=hx33.slice2;refine wC (wAs (v:=.slice q33 ((Zb s).length) c33) (eS hz30) ?_);refine wEk hz30 hd30 fun a34 ha34 hz34 hd34=>?_;have g34_2:=kP ha34 g30_2;have g34_4:=kP ha34 g30_4;have g34_14:get a34 14 = .slice q33 ((Zb s).length) c33:=kG ha34 hz30;refine hK32 a34 w2 ?_;refine wp_seq_k fun K35 hK35=>?_;refine wS fun K36 hK36=>?_;refine wC (wMv (v:=.bool null) (eK g34_2) ?_);refine wEk hz34 hd34 fun a37 ha37 hz37 hd37=>?_;have g37_2:=kP ha37 g34_2;have g37_4:=kP ha37 g34_4;have g37_14:=kP ha37 g34_14;have g37_37:get a37 37 = .bool null:=kG ha37 hz34;refine hK36 a37 w2 ?_;refine wp_cond_split (t:=null) (eK g37_37) (fun hc38=>?_) (fun hc38=>?_)
    · have hnu : null = true := hc38;refine Z2 ?_;refine wC (wAs (v := .slice none 0 0) rfl ?_);refine wEk hz37 hd37 fun a39 ha39 hz39 hd39 => ?_;have g39_2 := kP ha39 g37_2;have g39_4 := kP ha39 g37_4;have g39_14 : get a39 14 = .slice none 0 0 := kG ha39 hz37;refine hK35 a39 w2 ?_;refine wp_seq_k fun K40 hK40 => ?_;have hW : Zi kind (sub ver flex) null flex (.mk n s nl l u) = Zk flex null ([] : List UInt8).length 2 ++ [] := by simp only [Zi, hk8, hnu, T.s]; simp
      rw[hW] at hlen;refine Z2 ?_;refine wC (wMv (v:=.bool flex) (eK g39_4) ?_);refine wC (wMv (v:=.bool null) (eK g39_2) ?_);refine wC (wMv (v:=.slice none 0 0) (eK g39_14) ?_);refine wC (Zs (n:=0) hsT22 (eS hz39) ?_);refine wC (wCr (R:=fun x w'=>Fr [] w2 w'∧Own w' (From w2.heap.size w') 1 x (Zk flex null 0 2).length (Z0 (Zk flex null 0 2))) (vs:=#[.bool flex,.bool null,.int .i64 ((0:Nat):Int),.int .i64 2]) hCo.enters (by simp only[List.map_toArray,List.map_cons,List.map_nil];rw[eTm,nZ (by decide),nZ (by decide),nZ (by decide),sZ hz39 (by decide),eTm,nZ (by decide),nZ (by decide),sZ (zZ hz39) (by decide),eTm,sZ (zZ (zZ (zZ hz39))) (by decide),show ((((a39.put (some 38) (.bool flex)).put (some 39) (.bool null)).put (some 40) (.slice none 0 0)).put (some 41) (.int .i64 ((0:Nat):Int))).eval (.const (.int .i64 2))=Value.int .i64 2 from rfl]) (Za (hCo.call w2 flex null 0 2 (by decide) (by decide))) ?_);rintro x41 w41 ⟨fr41,ow41⟩;have hF42:Fr [] w w41:=hF3.tr fr41;have rb43:=fr41.range r2 .nil;refine wC (wMv (v:=.slice none 0 0) (eK g39_14) ?_);refine wC (Z0c hs_T22 hz_T22 (eS hz39) (eS hz39) ow41 (OctE.nil (A:=B)) (by rw[← List.length_append];exact hlen) ?_);rintro v44 w44 fa44 oa44 sp44 -;refine wC (wAs (v:=v44) (eS hz39) ?_);refine wEk hz39 hd39 fun a45 ha45 hz45 hd45=>?_;have g45_12:get a45 12=v44:=kG ha45 hz39;refine hK40 a45 w44 ?_;refine wp_ret ?_;rw[hW];exact ⟨hd45,_,rIs hres g45_12,_,rfl,Z0C hF42 fa44 (ow41.from hF3.size) (fun b hb=>hb.1),oa44.imp_A (Z4Q hF3.size fr41.size fa44.size)⟩
    have hnu:null=false:=hc38;refine wp_skip ?_;refine hK35 a37 w2 ?_;refine wp_seq_k fun K46 hK46=>?_;have hW:Zi kind (sub ver flex) null flex (.mk n s nl l u)=Zk flex null (Zb s:List UInt8).length 2++Zb s:=by simp only[Zi,hk8,hnu,T.s];simp
    rw[hW] at hlen;refine Z2 ?_;refine wC (wMv (v:=.bool flex) (eK g37_4) ?_);refine wC (wMv (v:=.bool null) (eK g37_2) ?_);refine wC (wMv (v:=.slice q33 ((Zb s).length) c33) (eK g37_14) ?_);refine wC (Zs (n:=(Zb s).length) hsT22 (eS hz37) ?_);refine wC (wCr (R:=fun x w'=>Fr [] w2 w'∧Own w' (From w2.heap.size w') 1 x (Zk flex null (Zb s).length 2).length (Z0 (Zk flex null (Zb s).length 2))) (vs:=#[.bool flex,.bool null,.int .i64 (((Zb s).length:Nat):Int),.int .i64 2]) hCo.enters (by simp only[List.map_toArray,List.map_cons,List.map_nil];rw[eTm,nZ (by decide),nZ (by decide),nZ (by decide),sZ hz37 (by decide),eTm,nZ (by decide),nZ (by decide),sZ (zZ hz37) (by decide),eTm,sZ (zZ (zZ (zZ hz37))) (by decide),show ((((a37.put (some 38) (.bool flex)).put (some 39) (.bool null)).put (some 40) (.slice q33 ((Zb s).length) c33)).put (some 41) (.int .i64 (((Zb s).length:Nat):Int))).eval (.const (.int .i64 2))=Value.int .i64 2 from rfl]) (Za (hCo.call w2 flex null (Zb s).length 2 (by simp[Zb];omega) (by decide))) ?_);rintro x47 w47 ⟨fr47,ow47⟩;have hF48:Fr [] w w47:=hF3.tr fr47;have rb49:=fr47.range r2 .nil;refine wC (wMv (v:=.slice q33 ((Zb s).length) c33) (eK g37_14) ?_);refine wC (Z0c hs_T22 hz_T22 (eS hz37) (eS hz37) ow47 (hx33.kept fr47 (by simp) (fun _ h=>h):OctE _ B _ _) (by rw[← List.length_append];exact hlen) ?_);rintro v50 w50 fa50 oa50 sp50 -;refine wC (wAs (v:=v50) (eS hz37) ?_);refine wEk hz37 hd37 fun a51 ha51 hz51 hd51=>?_;have g51_12:get a51 12=v50:=kG ha51 hz37;refine hK46 a51 w50 ?_;refine wp_ret ?_;rw[hW];exact ⟨hd51,_,rIs hres g51_12,_,rfl,Z0C hF48 fa50 (ow47.from hF3.size) (fun b hb=>hb.1),oa50.imp_A (Z4Q hF3.size fr47.size fa50.size)⟩
  have hn8:kind ≠ 8:=by simpa using hc31
  refine wS fun K52 hK52=>?_;refine wC (Z0i (k1:=.i64) (i:=kind) (j:=9) (eK g30_16) rfl ?_);refine wC (wAs (v:=.bool ((kind:Int)==(9:Int))) (eS hz30) ?_);refine wEk hz30 hd30 fun a53 ha53 hz53 hd53=>?_;have g53_0:=kP ha53 g30_0;have g53_1:=kP ha53 g30_1;have g53_2:=kP ha53 g30_2;have g53_3:=kP ha53 g30_3;have g53_4:=kP ha53 g30_4;have g53_11:=kP ha53 g30_11;have g53_16:=kP ha53 g30_16;have g53_45:get a53 45 = .bool ((kind:Int)==(9:Int)):=kG ha53 hz30;refine hK52 a53 w2 ?_;refine wp_cond_split (t:=((kind:Int)==(9:Int))) (eK g53_45) (fun hc54=>?_) (fun hc54=>?_)
  · have hk9 : kind = 9 := by simpa using hc54
    refine wS fun K55 hK55=>?_;refine wC (wFa (b:=w.heap.size) (i:=0) (hFlT26.fld (by decide)) (eK g53_11) ?_);rw[show (0+1:Nat)=1 from rfl];refine wC (wL0 (j:=1) (v:=sv) hcT22 (eS hz53) r2 rfl ?_);refine wC (wCr (R:=fun x w'=>OctE w' B x (Zb s)∧w2=w') (vs:=#[sv]) hWh.enters (mX1 (eS hz53)) ((hWh.call w2 B sv s (hs.kept hF3 (by simp) (fun _ h=>h))).mono (by rintro e w' ⟨x,rfl,h1,rfl⟩;exact ⟨x,rfl,h1,rfl⟩)) ?_);rintro x56 _ ⟨hx56,rfl⟩;obtain ⟨q56,c56,rfl,hcc56,-,-⟩:=hx56.slice2;refine wC (wAs (v:=.slice q56 ((Zb s).length) c56) (eS hz53) ?_);refine wEk hz53 hd53 fun a57 ha57 hz57 hd57=>?_;have g57_2:=kP ha57 g53_2;have g57_4:=kP ha57 g53_4;have g57_15:get a57 15 = .slice q56 ((Zb s).length) c56:=kG ha57 hz53;refine hK55 a57 w2 ?_;refine wp_seq_k fun K58 hK58=>?_;refine wS fun K59 hK59=>?_;refine wC (wMv (v:=.bool null) (eK g57_2) ?_);refine wEk hz57 hd57 fun a60 ha60 hz60 hd60=>?_;have g60_2:=kP ha60 g57_2;have g60_4:=kP ha60 g57_4;have g60_15:=kP ha60 g57_15;have g60_50:get a60 50 = .bool null:=kG ha60 hz57;refine hK59 a60 w2 ?_;refine wp_cond_split (t:=null) (eK g60_50) (fun hc61=>?_) (fun hc61=>?_)
    · have hnu : null = true := hc61;refine Z2 ?_;refine wC (wAs (v := .slice none 0 0) rfl ?_);refine wEk hz60 hd60 fun a62 ha62 hz62 hd62 => ?_;have g62_2 := kP ha62 g60_2;have g62_4 := kP ha62 g60_4;have g62_15 : get a62 15 = .slice none 0 0 := kG ha62 hz60;refine hK58 a62 w2 ?_;refine wp_seq_k fun K63 hK63 => ?_;have hW : Zi kind (sub ver flex) null flex (.mk n s nl l u) = Zk flex null ([] : List UInt8).length 4 ++ [] := by simp only [Zi, hk9, hnu, T.s]; simp
      rw[hW] at hlen;refine Z2 ?_;refine wC (wMv (v:=.bool flex) (eK g62_4) ?_);refine wC (wMv (v:=.bool null) (eK g62_2) ?_);refine wC (wMv (v:=.slice none 0 0) (eK g62_15) ?_);refine wC (Zs (n:=0) hsT22 (eS hz62) ?_);refine wC (wCr (R:=fun x w'=>Fr [] w2 w'∧Own w' (From w2.heap.size w') 1 x (Zk flex null 0 4).length (Z0 (Zk flex null 0 4))) (vs:=#[.bool flex,.bool null,.int .i64 ((0:Nat):Int),.int .i64 4]) hCo.enters (by simp only[List.map_toArray,List.map_cons,List.map_nil];rw[eTm,nZ (by decide),nZ (by decide),nZ (by decide),sZ hz62 (by decide),eTm,nZ (by decide),nZ (by decide),sZ (zZ hz62) (by decide),eTm,sZ (zZ (zZ (zZ hz62))) (by decide),show ((((a62.put (some 51) (.bool flex)).put (some 52) (.bool null)).put (some 53) (.slice none 0 0)).put (some 54) (.int .i64 ((0:Nat):Int))).eval (.const (.int .i64 4))=Value.int .i64 4 from rfl]) (Za (hCo.call w2 flex null 0 4 (by decide) (by decide))) ?_);rintro x64 w64 ⟨fr64,ow64⟩;have hF65:Fr [] w w64:=hF3.tr fr64;have rb66:=fr64.range r2 .nil;refine wC (wMv (v:=.slice none 0 0) (eK g62_15) ?_);refine wC (Z0c hs_T22 hz_T22 (eS hz62) (eS hz62) ow64 (OctE.nil (A:=B)) (by rw[← List.length_append];exact hlen) ?_);rintro v67 w67 fa67 oa67 sp67 -;refine wC (wAs (v:=v67) (eS hz62) ?_);refine wEk hz62 hd62 fun a68 ha68 hz68 hd68=>?_;have g68_12:get a68 12=v67:=kG ha68 hz62;refine hK63 a68 w67 ?_;refine wp_ret ?_;rw[hW];exact ⟨hd68,_,rIs hres g68_12,_,rfl,Z0C hF65 fa67 (ow64.from hF3.size) (fun b hb=>hb.1),oa67.imp_A (Z4Q hF3.size fr64.size fa67.size)⟩
    have hnu:null=false:=hc61;refine wp_skip ?_;refine hK58 a60 w2 ?_;refine wp_seq_k fun K69 hK69=>?_;have hW:Zi kind (sub ver flex) null flex (.mk n s nl l u)=Zk flex null (Zb s:List UInt8).length 4++Zb s:=by simp only[Zi,hk9,hnu,T.s];simp
    rw[hW] at hlen;refine Z2 ?_;refine wC (wMv (v:=.bool flex) (eK g60_4) ?_);refine wC (wMv (v:=.bool null) (eK g60_2) ?_);refine wC (wMv (v:=.slice q56 ((Zb s).length) c56) (eK g60_15) ?_);refine wC (Zs (n:=(Zb s).length) hsT22 (eS hz60) ?_);refine wC (wCr (R:=fun x w'=>Fr [] w2 w'∧Own w' (From w2.heap.size w') 1 x (Zk flex null (Zb s).length 4).length (Z0 (Zk flex null (Zb s).length 4))) (vs:=#[.bool flex,.bool null,.int .i64 (((Zb s).length:Nat):Int),.int .i64 4]) hCo.enters (by simp only[List.map_toArray,List.map_cons,List.map_nil];rw[eTm,nZ (by decide),nZ (by decide),nZ (by decide),sZ hz60 (by decide),eTm,nZ (by decide),nZ (by decide),sZ (zZ hz60) (by decide),eTm,sZ (zZ (zZ (zZ hz60))) (by decide),show ((((a60.put (some 51) (.bool flex)).put (some 52) (.bool null)).put (some 53) (.slice q56 ((Zb s).length) c56)).put (some 54) (.int .i64 (((Zb s).length:Nat):Int))).eval (.const (.int .i64 4))=Value.int .i64 4 from rfl]) (Za (hCo.call w2 flex null (Zb s).length 4 (by simp[Zb];omega) (by decide))) ?_);rintro x70 w70 ⟨fr70,ow70⟩;have hF71:Fr [] w w70:=hF3.tr fr70;have rb72:=fr70.range r2 .nil;refine wC (wMv (v:=.slice q56 ((Zb s).length) c56) (eK g60_15) ?_);refine wC (Z0c hs_T22 hz_T22 (eS hz60) (eS hz60) ow70 (hx56.kept fr70 (by simp) (fun _ h=>h):OctE _ B _ _) (by rw[← List.length_append];exact hlen) ?_);rintro v73 w73 fa73 oa73 sp73 -;refine wC (wAs (v:=v73) (eS hz60) ?_);refine wEk hz60 hd60 fun a74 ha74 hz74 hd74=>?_;have g74_12:get a74 12=v73:=kG ha74 hz60;refine hK69 a74 w73 ?_;refine wp_ret ?_;rw[hW];exact ⟨hd74,_,rIs hres g74_12,_,rfl,Z0C hF71 fa73 (ow70.from hF3.size) (fun b hb=>hb.1),oa73.imp_A (Z4Q hF3.size fr70.size fa73.size)⟩
  have hn9:kind ≠ 9:=by simpa using hc54
  refine wS fun K75 hK75=>?_;refine wC (Z0i (k1:=.i64) (i:=kind) (j:=10) (eK g53_16) rfl ?_);refine wC (wAs (v:=.bool ((kind:Int)==(10:Int))) (eS hz53) ?_);refine wEk hz53 hd53 fun a76 ha76 hz76 hd76=>?_;have g76_0:=kP ha76 g53_0;have g76_1:=kP ha76 g53_1;have g76_3:=kP ha76 g53_3;have g76_4:=kP ha76 g53_4;have g76_11:=kP ha76 g53_11;have g76_58:get a76 58 = .bool ((kind:Int)==(10:Int)):=kG ha76 hz53;refine hK75 a76 w2 ?_;refine wp_cond_split (t:=((kind:Int)==(10:Int))) (eK g76_58) (fun hc77=>?_) (fun hc77=>?_)
  · have hk10 : kind = 10 := by simpa using hc77
    refine wp_seq_k fun K78 hK78=>?_;have hW:Zi kind (sub ver flex) null flex (.mk n s nl l u)=sub ver flex (.mk n s nl l u):=by simp[Zi,hk10]
    rw[hW] at hlen;refine Z2 ?_;refine wC (wMv (v:=v) (eK g76_1) ?_);refine wC (wMv (v:=.int .i64 ver) (eK g76_3) ?_);refine wC (wMv (v:=.bool flex) (eK g76_4) ?_);refine wC (Z7 (cs:=[.int .i64 n,sv,.bool nl,lv,uv]) (b:=w.heap.size) (o:=0) hFlT26 rfl (eK g76_11) r2 ?_);refine wC (wCr (R:=fun x w'=>Fr [] w2 w'∧Own w' (From w2.heap.size w') 1 x (sub ver flex (.mk n s nl l u)).length (Z0 (sub ver flex (.mk n s nl l u)))) (vs:=#[v,.int .i64 ver,.bool flex,.agg ([.int .i64 n,sv,.bool nl,lv,uv]:List Value).toArray]) hPa.enters (mX4 (eS hz76) (eS hz76) (eS hz76) (eS hz76)) (Za (hPa.call w2 A B v ver flex _ _ (hfs.kept hF3 (by simp) (fun _ h=>h)) (ht0.kept hF3 (by simp) (fun _ h=>h)) (fun b hb=>Nat.lt_of_lt_of_le (hA b hb) hF3.size) (fun b hb=>Nat.lt_of_lt_of_le (hB b hb) hF3.size) hlen)) ?_);rintro x79 w79 ⟨fr79,ow79⟩;have hF80:Fr [] w w79:=hF3.tr fr79;have rb81:=fr79.range r2 .nil;refine wC (wAs (v:=x79) (eS hz76) ?_);refine wEk hz76 hd76 fun a82 ha82 hz82 hd82=>?_;have g82_12:get a82 12=x79:=kG ha82 hz76;refine hK78 a82 w79 ?_;refine wp_ret ?_;rw[hW];exact ⟨hd82,_,rIs hres g82_12,_,rfl,hF80,ow79.from hF3.size⟩
  have hn10:kind ≠ 10:=by simpa using hc77
  refine wp_skip ?_;refine hK5 a76 w2 (tUp ?_);refine tId (wp_seq_k fun K83 hK83=>?_);have hW:Zi kind (sub ver flex) null flex (.mk n s nl l u)=fxW n (Zg kind):=by simp[Zi,hn0,hn7,hn8,hn9,hn10,T.n]
  rw[hW] at hlen;have hwk:Zg kind≤8:=by unfold Zg;split;omega;split;omega;split <;> omega
  refine Z0V (os:=[oF 65 T26 11 0 t61 p61 e61,oL 66 T2 65 t62 p62 e62,oM 67 0 t63 p63 e63,oC 68 f77 #[(.tmp 67)] a5 t64 p64 e64]) (rest:=[oC 69 f76 #[(.tmp 66),(.tmp 68)] a6 t65 p65 e65,oT 12 69 t66 p66 e66]) [spC [] (.pointer (some ⟨w.heap.size,0,none⟩)),spC [0] (.int .i64 n),spC [] (.int .i64 kind),spC [2] (.int .i64 ((Zg kind:Nat):Int))] 65 [] hmx he20 (by simp[Z0R]) (by simp[Z13]) (by simp[spC,spR]) (by simp;omega) ⟨lCc _ _ _,lCc _ _ _,lCc _ _ _,lCc _ _ _,trivial⟩ ?_ ?_
  · refine oCs ?_ ?_
    · refine op_c fun a' w' hk' hf' hd' K' hK'=>?_;refine wFa (b:=w.heap.size) (i:=0) (hFlT26.fld (by decide)) (by rw[eTm,hk'.get 11 (by omega),g76_11]) ?_;rw[show (0+0:Nat)=0 from rfl];exact hK'
    refine oCs ?_ ?_
    · refine op_c fun a' w' hk' hf' hd' K' hK'=>?_;refine wL0 (j:=0) (v:=.int .i64 n) hcT2 (by rw[eTm];exact hd'.c (nd':=[]) 0 (by simp) rfl) (hf'.range r2 .nil) rfl ?_;exact hK'
    refine oCs ?_ ?_
    · refine op_c fun a' w' hk' hf' hd' K' hK'=>?_;refine wMv (v:=.int .i64 kind) (by rw[eTm,hk'.get 0 (by omega),g76_0]) ?_;exact hK'
    refine oCs ?_ ?_
    · refine op_c fun a' w' hk' hf' hd' K' hK'=>?_;refine wCr (R:=fun x w2=>x = .int .i64 (Zg kind:Nat)∧w2=w') (vs:=#[.int .i64 kind]) hWi.enters (by simp only[List.map_toArray,List.map_cons,List.map_nil];rw[show a'.eval (.tmp 67)=Value.int .i64 kind from (by rw[eTm];exact hd'.c (nd':=[]) 2 (by simp) rfl)]) ((hWi.call w' kind).mono (by rintro e w2 ⟨rfl,rfl⟩;exact ⟨_,rfl,rfl,rfl⟩)) ?_;rintro _ _ ⟨rfl,rfl⟩;exact hK'
    exact ZX
  intro a84 w84 k84 f84 hd_84;have hz84:a84.tmps.size=70:=k84.size.trans hz76;have hd84:a84.defers=[]:=k84.defers.trans hd76;have g84_66:get a84 66 = .int .i64 n:=hd_84.c (nd':=[0]) 1 (by simp) rfl;have g84_68:get a84 68 = .int .i64 ((Zg kind:Nat):Int):=hd_84.c (nd':=[2]) 3 (by simp) rfl;have hF85:Fr [] w w84:=hF3.tr f84;have rb86:=f84.range r2 .nil;refine wC (wCr (R:=fun x w'=>Fr [] w84 w'∧Own w' (From w84.heap.size w') 1 x (fxW n (Zg kind)).length (Z0 (fxW n (Zg kind)))) (vs:=#[.int .i64 n,.int .i64 ((Zg kind:Nat):Int)]) hFx.enters (by simp only[List.map_toArray,List.map_cons,List.map_nil];rw[show a84.eval (.tmp 66)=Value.int .i64 n from (eK g84_66),show a84.eval (.tmp 68)=Value.int .i64 ((Zg kind:Nat):Int) from (eK g84_68)]) (Za (hFx.call w84 n (Zg kind) hwk)) ?_);rintro x87 w87 ⟨fr87,ow87⟩;have hF88:Fr [] w w87:=hF85.tr fr87;have rb89:=fr87.range rb86 .nil;refine wC (wAs (v:=x87) (eS hz84) ?_);refine wEk hz84 hd84 fun a90 ha90 hz90 hd90=>?_;have g90_12:get a90 12=x87:=kG ha90 hz84;refine hK83 a90 w87 (tUp ?_);refine wp_ret ?_;rw[hW];exact ⟨hd90,_,rIs hres g90_12,_,rfl,hF88,ow87.from hF85.size⟩
end Go.Kq

namespace Go.Kq
open Go Go.Proofs
theorem Z24 {f:T→List UInt8}:∀ {l:List T} {j:Nat} {t:T},l[j]?=some t→(l.take (j+1)).flatMap f=(l.take j).flatMap f++f t
  | [],_,_,h=>by simp at h
  | x::l,0,t,h=>by simp at h;subst h;simp
  | x :: l, j + 1, t, h => by
    have:=Z24 (f:=f) (l:=l) (j:=j) (t:=t) (by simpa using h);simp only[List.take_succ_cons,List.flatMap_cons,this,List.append_assoc]
theorem Z12 {f:T→List UInt8}:∀ {l:List T} (j:Nat),((l.take j).flatMap f).length≤(l.flatMap f).length
  | [],_=>by simp
  | x::l,0=>by simp
  | x :: l, j + 1 => by
    have:=Z12 (f:=f) (l:=l) j;simp only[List.take_succ_cons,List.flatMap_cons,List.length_append];omega
theorem Z5B {f:T→List UInt8} {l:List T} {j:Nat} {t:T} (h:l[j]?=some t):(f t).length≤(l.flatMap f).length:=by
  have h1:=Z24 (f:=f) h;have h2:=Z12 (f:=f) (l:=l) (j+1);rw[h1,List.length_append] at h2;omega
structure Z17 (P:Program) (f:FuncId) (fd:Fd) (enc:Int→Bool→T→List UInt8):Prop where
  enters:Enters P f
  call:∀ (w:World) (A B:Nat→Prop) (ver:Int) (flex:Bool) (cs ct:List Value) (t:T),RepF w A cs fd→RepT w B ct t→(∀ b,A b→b < w.heap.size)→(∀ b,B b→b < w.heap.size)→(enc ver flex t).length≤4294967296 →
    Calls P f #[.agg cs.toArray,.int .i64 ver,.bool flex,.agg ct.toArray] w (Z5F w (enc ver flex t))
set_option maxHeartbeats 4000000 in
theorem field_m {P:Program} {f:FuncId} {fn:Func} {T3 T22 T23 T26 T29 T45:TypeId} {f26 f72 f73 f74 f75 f76:FuncId} {a0:Array TypeId} {a1:Array TypeId} {a2:Array TypeId} {a3:Array TypeId} {a4:Array TypeId} {a5:Array TypeId} {a6:Array TypeId} {a7:Array TypeId} {i0 i1 i2 i3 i4 i5 i6 i7 i8 i9 i10 i11 i12 i13 i14 i15 i16 i17:Nat} {t0 t1 t2 t3 t4 t5 t6 t7 t8 t9 t10 t11 t12 t13 t14 t15 t16 t17 t18 t19 t20 t21 t22 t23 t24 t25 t26 t27 t28 t29 t30 t31 t32 t33 t34 t35 t36 t37 t38 t39 t40 t41 t42 t43 t44 t45 t46 t47 t48 t49 t50 t51 t52 t53 t54 t55 t56 t57 t58 t59 t60 t61 t62 t63 t64 t65 t66 t67 t68 t69 t70 t71 t72 t73 t74 t75 t76:TypeId} {p0 p1 p2 p3 p4 p5 p6 p7 p8 p9 p10 p11 p12 p13 p14 p15 p16 p17 p18 p19 p20 p21 p22 p23 p24 p25 p26 p27 p28 p29 p30 p31 p32 p33 p34 p35 p36 p37 p38 p39 p40 p41 p42 p43 p44 p45 p46 p47 p48 p49 p50 p51 p52 p53 p54 p55 p56 p57 p58 p59 p60 p61 p62 p63 p64 p65 p66 p67 p68 p69 p70 p71 p72 p73 p74 p75 p76:String} {e0 e1 e2 e3 e4 e5 e6 e7 e8 e9 e10 e11 e12 e13 e14 e15 e16 e17 e18 e19 e20 e21 e22 e23 e24 e25 e26 e27 e28 e29 e30 e31 e32 e33 e34 e35 e36 e37 e38 e39 e40 e41 e42 e43 e44 e45 e46 e47 e48 e49 e50 e51 e52 e53 e54 e55 e56 e57 e58 e59 e60 e61 e62 e63 e64 e65 e66 e67 e68 e69 e70 e71 e72 e73 e74 e75 e76:Array Edge} {te te5:TypeId} {tb:Nat} {fd:Fd} {sub:Int→Bool→T→List UInt8}
    (hf:P.funcs[f]?=some fn) (hname:nG fn=false) (hres:fn.results = #[.tmp 8]) (hN:fn.ntmps=76)
    (hbody:fn.body=some (.seq (Code.region i0 ⟨[⟨some 4,.box T45 (.tmp 0),t0,p0,e0,none⟩,⟨some 7,.box T26 (.tmp 3),t1,p1,e1,none⟩,
    oA 8 (.const (.slice none 0 0)) t2 p2 e2]⟩ false) (.seq (Code.region i1 ⟨[oL 13 T45 4 t3 p3 e3,
    oM 14 1 t4 p4 e4,
    oL 15 T26 7 t5 p5 e5,
    oC 16 f72 #[(.tmp 13),(.tmp 14),(.tmp 15)] a0 t6 p6 e6,
    oT 9 16 t7 p7 e7]⟩ false) (.seq (.seq (Code.region i2 ⟨[oF 17 T45 4 0 t8 p8 e8,
    oL 18 T3 17 t9 p9 e9,⟨some 19,.binOp .eql T3 (.tmp 18) (.const (.int .i64 11)) T3,t10,p10,e10,none⟩]⟩ false) (.cond (.tmp 19) (.seq (Code.region i3 ⟨[oF 20 T26 7 3 t11 p11 e11,
    oL 21 T23 20 t12 p12 e12,
    oC 22 f73 #[(.tmp 21)] a1 t13 p13 e13,
    oT 10 22 t14 p14 e14]⟩ false) (.seq (.seq (Code.region i4 ⟨[oM 23 9 t15 p15 e15]⟩ false) (.cond (.tmp 23) (Code.region i5 ⟨[oA 10 (.const (.slice none 0 0)) t16 p16 e16]⟩ false) .skip)) (.seq (Code.region i6 ⟨[oM 24 2 t17 p17 e17,
    oM 25 9 t18 p18 e18,
    oM 26 10 t19 p19 e19,⟨some 27,.call ⟨.builtin .len,#[(.tmp 26)],#[T23]⟩,t20,p20,e20,none⟩,
    oC 28 f74 #[(.tmp 24),(.tmp 25),(.tmp 27),(.const (.int .i64 4))] a2 t21 p21 e21,
    oT 11 28 t22 p22 e22]⟩ false) (.seq (.seq (Code.region i7 ⟨[oM 29 10 t23 p23 e23,⟨some 30,.call ⟨.builtin .len,#[(.tmp 29)],#[T23]⟩,t24,p24,e24,none⟩,⟨some 31,.move (.const (.int .i64 0)),t25,p25,e25,none⟩]⟩ false) (.block 0 (.loop (.seq (Code.region i8 ⟨[⟨some 32,.binOp .lss T3 (.tmp 31) (.tmp 30) T3,t26,p26,e26,none⟩]⟩ false) (.seq (.cond (.tmp 32) .skip
  (.exit 0)) (.seq (.block 1 (.seq (Code.region i9 ⟨[oM 33 31 t27 p27 e27,
    oT 12 33 t28 p28 e28]⟩ false)
  (Code.region i10 ⟨[oM 34 11 t29 p29 e29,
    oF 35 T45 4 6 t30 p30 e30,
    oL 36 T3 35 t31 p31 e31,
    oF 37 T45 4 7 t32 p32 e32,
    oL 38 T29 37 t33 p33 e33,
    oM 39 1 t34 p34 e34,
    oM 40 2 t35 p35 e35,
    oM 41 10 t36 p36 e36,
    oM 42 12 t37 p37 e37,⟨some 43,.indexAddr T23 (.tmp 41) (.tmp 42),t38,p38,e38,none⟩,
    oL 44 T26 43 t39 p39 e39,
    oC 45 f75 #[(.tmp 36),(.tmp 38),(.const (.bool false)),(.tmp 39),(.tmp 40),(.tmp 44)] a3 t40 p40 e40,⟨some 46,.call ⟨.builtin .append,#[(.tmp 34),(.tmp 45)],#[T22,T22]⟩,t41,p41,e41,none⟩,
    oT 11 46 t42 p42 e42]⟩ true)))
  (Code.region i11 ⟨[⟨some 47,.binOp .add T3 (.tmp 31) (.const (.int .i64 1)) T3,t43,p43,e43,none⟩,
    oM 31 47 t44 p44 e44]⟩ false))))))) (.seq (Code.region i12 ⟨[oM 48 11 t45 p45 e45,
    oT 8 48 t46 p46 e46]⟩ false) .ret))))) .skip)) (.seq (.seq (Code.region i13 ⟨[oF 49 T45 4 0 t47 p47 e47,
    oL 50 T3 49 t48 p48 e48,⟨some 51,.binOp .eql T3 (.tmp 50) (.const (.int .i64 10)) T3,t49,p49,e49,none⟩,
    oM 52 51 t50 p50 e50,⟨some 53,.fieldAddr T45 (.tmp 4) 3,t51,p51,e51,some (3,true)⟩,⟨some 54,.load T3 (.tmp 53),t52,p52,e52,some (3,true)⟩,⟨some 55,.binOp .geq T3 (.tmp 54) (.const (.int .i64 0)) T3,t53,p53,e53,some (3,true)⟩,⟨some 56,.pick (.tmp 52) (.tmp 55) (.const (.bool false)),t54,p54,e54,none⟩]⟩ false) (.cond (.tmp 56) (.seq (.seq (Code.region i14 ⟨[oM 57 9 t55 p55 e55]⟩ false) (.cond (.tmp 57) (.seq (Code.region i15 ⟨[oC 58 f76 #[(.const (.int .i64 (-1))),(.const (.int .i64 1))] a4 t56 p56 e56,
    oT 8 58 t57 p57 e57]⟩ false) .ret) .skip)) (.seq (Code.region i16 ⟨[oC 59 f76 #[(.const (.int .i64 1)),(.const (.int .i64 1))] a5 t58 p58 e58,
    oF 60 T45 4 7 t59 p59 e59,
    oL 61 T29 60 t60 p60 e60,
    oM 62 1 t61 p61 e61,
    oM 63 2 t62 p62 e62,
    oL 64 T26 7 t63 p63 e63,
    oC 65 f26 #[(.tmp 61),(.tmp 62),(.tmp 63),(.tmp 64)] a6 t64 p64 e64,⟨some 66,.call ⟨.builtin .append,#[(.tmp 59),(.tmp 65)],#[T22,T22]⟩,t65,p65,e65,none⟩,
    oT 8 66 t66 p66 e66]⟩ true) .ret)) .skip)) (.seq (Code.region i17 ⟨[oF 67 T45 4 0 t67 p67 e67,
    oL 68 T3 67 t68 p68 e68,
    oF 69 T45 4 7 t69 p69 e69,
    oL 70 T29 69 t70 p70 e70,
    oM 71 9 t71 p71 e71,
    oM 72 1 t72 p72 e72,
    oM 73 2 t73 p73 e73,
    oL 74 T26 7 t74 p74 e74,
    oC 75 f75 #[(.tmp 68),(.tmp 70),(.tmp 71),(.tmp 72),(.tmp 73),(.tmp 74)] a7 t75 p75 e75,
    oT 8 75 t76 p76 e76]⟩ false) .ret))))))
    (hs_T22:Z4 P T22 te 1 1=true) (hz_T22:ZI P te [.int .u8 0]) (hFlT45:Flat P T45 zF) (hFlT26:Flat P T26 zT) (hcT3:scal P T3=true) (hcT23:scal P T23=true) (hsT23:slTy P T23=true) (hcT29:scal P T29=true) (hs_T23:Z4 P T23 te5 5 tb=true) (he10:Z0q 0 [e29,e30,e31,e32,e33,e34,e35,e36,e37,e38,e39,e40,e41,e42] [[],[],[1],[],[3],[],[],[],[],[7,8],[9],[2,4,5,6,10],[0,1,2,3,4,5,6,7,8,9,10,11],[0,1,2,3,4,5,6,7,8,9,10,11,12]]=true) (hmx:P.follows .mixedOrders=true) (he16:Z0q 0 [e58,e59,e60,e61,e62,e63,e64,e65,e66] [[],[],[1],[],[],[],[2,3,4,5],[0,1,2,3,4,5,6],[0,1,2,3,4,5,6,7]]=true) (hNu:NullM P f72) (hTh:Z6b P f73) (hCo:Z6N P f74) (hVa:Z2p P f75 fd.sub sub) (hPa:Z1W P f26 fd.sub sub) (hFx:FixM P f76):Z17 P f fd (fun ver flex t=>ZM fd.kind fd.nul fd.of (sub ver flex) ver flex t):=by
  refine ⟨enters_of hf hname hbody,?_⟩;intro w A B ver flex cs ct t hr ht hA hB hlen
  cases t with
  | mk n s nl l u =>
  have ht0:=ht;obtain ⟨sv,lv,uv,rfl,hn,hs,hl,hu⟩:=Z0x.1 ht;obtain ⟨fsv,rfl,hsub⟩:=ZO.1 hr;obtain ⟨nu,hnu⟩:∃ b,b=Z0S fd.nul ver (.mk n s nl l u):=⟨_,rfl⟩;obtain ⟨tl,htl⟩:∃ x,x=Z0K nu (.mk n s nl l u):=⟨_,rfl⟩;refine calls_of_wp hf hbody ?_;generalize ha0:({ tmps:=#[Value.agg ([.int .i64 fd.kind,.int .i64 fd.fr,.int .i64 fd.to,.int .i64 fd.nul,.int .i64 fd.tag,.int .i64 fd.df,.int .i64 fd.of,fsv]:List Value).toArray,Value.int .i64 ver,Value.bool flex,Value.agg ([.int .i64 n,sv,.bool nl,lv,uv]:List Value).toArray]++Array.replicate (fn.ntmps - (#[Value.agg ([.int .i64 fd.kind,.int .i64 fd.fr,.int .i64 fd.to,.int .i64 fd.nul,.int .i64 fd.tag,.int .i64 fd.df,.int .i64 fd.of,fsv]:List Value).toArray,Value.int .i64 ver,Value.bool flex,Value.agg ([.int .i64 n,sv,.bool nl,lv,uv]:List Value).toArray]:Array Value).size) undef,defers:=[] }:Act)=a0;have hz0:a0.tmps.size=76:=by subst ha0;simp[hN]
  have hd0:a0.defers=[]:=by subst ha0;rfl
  have g0_0:get a0 0 = .agg ([.int .i64 fd.kind,.int .i64 fd.fr,.int .i64 fd.to,.int .i64 fd.nul,.int .i64 fd.tag,.int .i64 fd.df,.int .i64 fd.of,fsv]:List Value).toArray:=by subst ha0;exact gAr rfl
  have g0_1:get a0 1 = .int .i64 ver:=by subst ha0;exact gAr rfl
  have g0_2:get a0 2 = .bool flex:=by subst ha0;exact gAr rfl
  have g0_3:get a0 3 = .agg ([.int .i64 n,sv,.bool nl,lv,uv]:List Value).toArray:=by subst ha0;exact gAr rfl
  refine wT fun K1 hK1=>?_;refine wC (ZL (cs:=[.int .i64 fd.kind,.int .i64 fd.fr,.int .i64 fd.to,.int .i64 fd.nul,.int .i64 fd.tag,.int .i64 fd.df,.int .i64 fd.of,fsv]) (eK g0_0) ?_);rintro w2 f2 sz2 r2 th2;have hF3:Fr [] w w2:=f2;refine wC (ZL (cs:=[.int .i64 n,sv,.bool nl,lv,uv]) (eK g0_3) ?_);rintro w4 f4 sz4 r4 th4;have hF5:Fr [] w w4:=hF3.tr f4;have rb6:=f4.range r2 .nil;refine wC (wAs (v:=.slice none 0 0) rfl ?_);refine wEk hz0 hd0 fun a7 ha7 hz7 hd7=>?_;have g7_0:=kP ha7 g0_0;have g7_1:=kP ha7 g0_1;have g7_2:=kP ha7 g0_2;have g7_3:=kP ha7 g0_3;have g7_4:get a7 4 = .pointer (some ⟨w.heap.size,0,none⟩):=kG ha7 hz0;have g7_7:get a7 7 = .pointer (some ⟨w2.heap.size,0,none⟩):=kG ha7 hz0;have g7_8:get a7 8 = .slice none 0 0:=kG ha7 hz0;refine hK1 a7 w4 (tUp ?_);refine tId (wp_seq_k fun K8 hK8=>?_);have hS0:w.heap.size+2≤w4.heap.size:=by omega
  refine Z2 ?_;refine wC (Z7 (cs:=[.int .i64 fd.kind,.int .i64 fd.fr,.int .i64 fd.to,.int .i64 fd.nul,.int .i64 fd.tag,.int .i64 fd.df,.int .i64 fd.of,fsv]) (b:=w.heap.size) (o:=0) hFlT45 rfl (eK g7_4) rb6 ?_);refine wC (wMv (v:=.int .i64 ver) (eK g7_1) ?_);refine wC (Z7 (cs:=[.int .i64 n,sv,.bool nl,lv,uv]) (b:=w2.heap.size) (o:=0) hFlT26 rfl (eK g7_7) r4 ?_);refine wC (wCr (R:=fun x wz=>x = .bool nu∧Fr [] w4 wz) (vs:=#[.agg ([.int .i64 fd.kind,.int .i64 fd.fr,.int .i64 fd.to,.int .i64 fd.nul,.int .i64 fd.tag,.int .i64 fd.df,.int .i64 fd.of,fsv]:List Value).toArray,.int .i64 ver,.agg ([.int .i64 n,sv,.bool nl,lv,uv]:List Value).toArray]) hNu.enters (mX3 (eS hz7) (eS hz7) (eS hz7)) ((hNu.call w4 A B _ _ fd (.mk n s nl l u) ver (hr.kept hF5 (by simp) (fun _ h=>h)) (ht0.kept hF5 (by simp) (fun _ h=>h))).mono (by rintro e w' ⟨rfl,hf⟩;exact ⟨_,rfl,by rw[hnu],hf⟩)) ?_);rintro x9 w9 ⟨rfl,fr9⟩;have hF10:Fr [] w w9:=hF5.tr fr9;have hL10_w4:Fr [] w4 w9:=(Fr.refl [] w4).tr fr9;have rb11:=fr9.range rb6 .nil;have rb12:=fr9.range r4 .nil;refine wC (wAs (v:=.bool nu) (eS hz7) ?_);refine wEk hz7 hd7 fun a13 ha13 hz13 hd13=>?_;have g13_0:=kP ha13 g7_0;have g13_1:=kP ha13 g7_1;have g13_2:=kP ha13 g7_2;have g13_3:=kP ha13 g7_3;have g13_4:=kP ha13 g7_4;have g13_7:=kP ha13 g7_7;have g13_8:=kP ha13 g7_8;have g13_9:get a13 9 = .bool nu:=kG ha13 hz7;refine hK8 a13 w9 (tUp ?_);refine tId (wp_seq_k fun K14 hK14=>?_);refine wS fun K15 hK15=>?_;refine wC (wFa (b:=w.heap.size) (i:=0) (hFlT45.fld (by decide)) (eK g13_4) ?_);rw[show (0+0:Nat)=0 from rfl];refine wC (wL0 (j:=0) (v:=.int .i64 fd.kind) hcT3 (eS hz13) rb11 rfl ?_);refine wC (Z0i (k1:=.i64) (i:=fd.kind) (j:=11) (eS hz13) rfl ?_);refine wEk hz13 hd13 fun a16 ha16 hz16 hd16=>?_;have g16_0:=kP ha16 g13_0;have g16_1:=kP ha16 g13_1;have g16_2:=kP ha16 g13_2;have g16_3:=kP ha16 g13_3;have g16_4:=kP ha16 g13_4;have g16_7:=kP ha16 g13_7;have g16_8:=kP ha16 g13_8;have g16_9:=kP ha16 g13_9;have g16_19:get a16 19 = .bool ((fd.kind:Int)==(11:Int)):=kG ha16 hz13;refine hK15 a16 w9 ?_;refine wp_cond_split (t:=((fd.kind:Int)==(11:Int))) (eK g16_19) (fun hc17=>?_) (fun hc17=>?_)
  · have h11 : fd.kind = 11 := by simpa using hc17
    refine wS fun K18 hK18=>?_;refine wC (wFa (b:=w2.heap.size) (i:=0) (hFlT26.fld (by decide)) (eK g16_7) ?_);rw[show (0+3:Nat)=3 from rfl];refine wC (wL0 (j:=3) (v:=lv) hcT23 (eS hz16) rb12 rfl ?_);refine wC (wCr (R:=fun x wz=>Z0G wz B x (l.take 32767)∧w9=wz) (vs:=#[lv]) hTh.enters (mX1 (eS hz16)) ((hTh.call w9 B lv l (hl.kept hF10 (by simp) (fun _ h=>h))).mono (by rintro e w' ⟨x,rfl,h1,rfl⟩;exact ⟨x,rfl,h1,rfl⟩)) ?_);rintro x19 _ ⟨hx19,rfl⟩;obtain ⟨q19,c19,rfl,-,-,-⟩:=hx19.sl2;have hxw19:=hx19;refine wC (wAs (v:=.slice q19 ((l.take 32767).length) c19) (eS hz16) ?_);refine wEk hz16 hd16 fun a20 ha20 hz20 hd20=>?_;have g20_0:=kP ha20 g16_0;have g20_1:=kP ha20 g16_1;have g20_2:=kP ha20 g16_2;have g20_3:=kP ha20 g16_3;have g20_4:=kP ha20 g16_4;have g20_7:=kP ha20 g16_7;have g20_8:=kP ha20 g16_8;have g20_9:=kP ha20 g16_9;have g20_10:get a20 10 = .slice q19 ((l.take 32767).length) c19:=kG ha20 hz16;refine hK18 a20 w9 ?_;refine wp_seq_k fun K21 hK21=>?_;have hJ22:∀ (a':Act) (w':World),(∃ (q:Option Addr) (c:Nat),a'.tmps.size=76∧a'.defers=[]∧get a' 0 = .agg ([.int .i64 fd.kind,.int .i64 fd.fr,.int .i64 fd.to,.int .i64 fd.nul,.int .i64 fd.tag,.int .i64 fd.df,.int .i64 fd.of,fsv]:List Value).toArray∧get a' 1 = .int .i64 ver∧get a' 2 = .bool flex∧get a' 3 = .agg ([.int .i64 n,sv,.bool nl,lv,uv]:List Value).toArray∧get a' 4 = .pointer (some ⟨w.heap.size,0,none⟩)∧get a' 7 = .pointer (some ⟨w2.heap.size,0,none⟩)∧get a' 8 = .slice none 0 0∧get a' 9 = .bool nu∧get a' 10 = .slice q tl.length c∧Z0G w' B (.slice q tl.length c) tl∧w'.rangeAt w.heap.size 0 [.int .i64 fd.kind,.int .i64 fd.fr,.int .i64 fd.to,.int .i64 fd.nul,.int .i64 fd.tag,.int .i64 fd.df,.int .i64 fd.of,fsv]∧Fr [] w w'∧w4.heap.size≤w'.heap.size)→K21 a' w':=by
      rintro a22 w22 ⟨q,c,hz22,hd22,g22_0,g22_1,g22_2,g22_3,g22_4,g22_7,g22_8,g22_9,g22_10,htj,hbj,hfj,hszj⟩;have hfS:w4.heap.size≤w22.heap.size:=by have:=hszj;omega
      refine hK21 a22 w22 ?_;refine wp_seq_k fun K23 hK23=>?_;have htlb:tl.length < 4294967296:=by rw[htl];unfold Z0K;split <;> simp;omega
      have hW:ZM fd.kind fd.nul fd.of (sub ver flex) ver flex (.mk n s nl l u)=Zk flex nu tl.length 4++tl.flatMap (Zi fd.of (sub ver flex) false flex):=by rw[ZM,if_pos h11,← hnu,← htl]
      rw[hW] at hlen;rw[List.length_append] at hlen;refine Z2 ?_;refine wC (wMv (v:=.bool flex) (eK g22_2) ?_);refine wC (wMv (v:=.bool nu) (eK g22_9) ?_);refine wC (wMv (v:=.slice q tl.length c) (eK g22_10) ?_);refine wC (Zs (n:=tl.length) hsT23 (eS hz22) ?_);refine wC (wCr (R:=fun x wz=>Fr [] w22 wz∧Own wz (From w22.heap.size wz) 1 x (Zk flex nu tl.length 4).length (Z0 (Zk flex nu tl.length 4))) (vs:=#[.bool flex,.bool nu,.int .i64 ((tl.length:Nat):Int),.int .i64 4]) hCo.enters (by simp only[List.map_toArray,List.map_cons,List.map_nil];rw[eTm,nZ (by decide),nZ (by decide),nZ (by decide),sZ hz22 (by decide),eTm,nZ (by decide),nZ (by decide),sZ (zZ hz22) (by decide),eTm,sZ (zZ (zZ (zZ hz22))) (by decide),show ((((a22.put (some 24) (.bool flex)).put (some 25) (.bool nu)).put (some 26) (.slice q tl.length c)).put (some 27) (.int .i64 ((tl.length:Nat):Int))).eval (.const (.int .i64 4))=Value.int .i64 4 from rfl]) (Za (hCo.call w22 flex nu tl.length 4 htlb (by decide))) ?_);rintro x24 w24 ⟨fr24,ow24⟩;have hF25:Fr [] w w24:=hfj.tr fr24;have hL25_w22:Fr [] w22 w24:=(Fr.refl [] w22).tr fr24;have rb26:=fr24.range hbj .nil;refine wC (wAs (v:=x24) (eS hz22) ?_);refine wEk hz22 hd22 fun a27 ha27 hz27 hd27=>?_;have g27_0:=kP ha27 g22_0;have g27_1:=kP ha27 g22_1;have g27_2:=kP ha27 g22_2;have g27_3:=kP ha27 g22_3;have g27_4:=kP ha27 g22_4;have g27_7:=kP ha27 g22_7;have g27_8:=kP ha27 g22_8;have g27_9:=kP ha27 g22_9;have g27_10:=kP ha27 g22_10;have g27_11:get a27 11=x24:=kG ha27 hz22;refine hK23 a27 w24 ?_;refine wp_seq_k fun K28 hK28=>?_;refine wS fun K29 hK29=>?_;refine wC (wMv (v:=.slice q tl.length c) (eK g27_10) ?_);refine wC (Zs (n:=tl.length) hsT23 (eS hz27) ?_);refine wC (wMv (v:=.int .i64 0) rfl ?_);refine wEk hz27 hd27 fun a30 ha30 hz30 hd30=>?_;have g30_0:=kP ha30 g27_0;have g30_1:=kP ha30 g27_1;have g30_2:=kP ha30 g27_2;have g30_3:=kP ha30 g27_3;have g30_4:=kP ha30 g27_4;have g30_7:=kP ha30 g27_7;have g30_8:=kP ha30 g27_8;have g30_9:=kP ha30 g27_9;have g30_10:=kP ha30 g27_10;have g30_11:=kP ha30 g27_11;have g30_30:get a30 30 = .int .i64 ((tl.length:Nat):Int):=kG ha30 hz27;have g30_31:get a30 31 = .int .i64 0:=kG ha30 hz27;refine hK29 a30 w24 ?_;refine wp_block (wp_loop_ghost (fun (m:Nat) a' w'=>∃ (j:Nat) (v11:Value),a'.tmps.size=76∧a'.defers=[]∧get a' 0 = .agg ([.int .i64 fd.kind,.int .i64 fd.fr,.int .i64 fd.to,.int .i64 fd.nul,.int .i64 fd.tag,.int .i64 fd.df,.int .i64 fd.of,fsv]:List Value).toArray∧get a' 1 = .int .i64 ver∧get a' 2 = .bool flex∧get a' 3 = .agg ([.int .i64 n,sv,.bool nl,lv,uv]:List Value).toArray∧get a' 4 = .pointer (some ⟨w.heap.size,0,none⟩)∧get a' 7 = .pointer (some ⟨w2.heap.size,0,none⟩)∧get a' 8 = .slice none 0 0∧get a' 9 = .bool nu∧get a' 10 = .slice q tl.length c∧get a' 11=v11∧get a' 30 = .int .i64 ((tl.length:Nat):Int)∧get a' 31 = .int .i64 (j:Int)∧j+m=tl.length∧Own w' (From w4.heap.size w') 1 v11 (Zk flex nu tl.length 4++(tl.take j).flatMap (Zi fd.of (sub ver flex) false flex)).length (Z0 (Zk flex nu tl.length 4++(tl.take j).flatMap (Zi fd.of (sub ver flex) false flex)))∧w'.rangeAt w.heap.size 0 [.int .i64 fd.kind,.int .i64 fd.fr,.int .i64 fd.to,.int .i64 fd.nul,.int .i64 fd.tag,.int .i64 fd.df,.int .i64 fd.of,fsv]∧Z0G w' B (.slice q tl.length c) tl∧Fr [] w w'∧w4.heap.size≤w'.heap.size) tl.length ?_ ?_)
      · exact ⟨0,x24,hz30,hd30,g30_0,g30_1,g30_2,g30_3,g30_4,g30_7,g30_8,g30_9,g30_10,g30_11,g30_30,g30_31,by omega,by simpa using ow24.from hfS,rb26,htj.kept hL25_w22 (by simp) (fun _ h=>h),hF25,Nat.le_trans hfS hL25_w22.size⟩
      rintro m a31 w31 ⟨j,v11,hz31,hd31,g31_0,g31_1,g31_2,g31_3,g31_4,g31_7,g31_8,g31_9,g31_10,g31_11,g31_30,g31_31,hjm,ho,hbl4,htj2,hfl,hSl⟩;refine wS fun K32 hK32=>?_;refine wC (Z0g (k1:=.i64) (i:=(j:Int)) (j:=((tl.length:Nat):Int)) (eK g31_31) (eK g31_30) ?_);refine wEk hz31 hd31 fun a33 ha33 hz33 hd33=>?_;have g33_0:=kP ha33 g31_0;have g33_1:=kP ha33 g31_1;have g33_2:=kP ha33 g31_2;have g33_3:=kP ha33 g31_3;have g33_4:=kP ha33 g31_4;have g33_7:=kP ha33 g31_7;have g33_8:=kP ha33 g31_8;have g33_9:=kP ha33 g31_9;have g33_10:=kP ha33 g31_10;have g33_11:=kP ha33 g31_11;have g33_30:=kP ha33 g31_30;have g33_31:=kP ha33 g31_31;have g33_32:get a33 32 = .bool (decide (((j:Int):Int) < (((tl.length:Nat):Int):Int))):=kG ha33 hz31;refine hK32 a33 w31 ?_;refine wp_seq_k fun K34 hK34=>?_;refine wp_cond_split (t:=decide (((j:Int):Int) < (((tl.length:Nat):Int):Int))) (eK g33_32) (fun hc35=>?_) (fun hc35=>?_)
      · have hjl : j < tl.length := by simpa using hc35
        obtain ⟨te',hte⟩:∃ t,tl[j]?=some t:=⟨tl[j],by simp[hjl]⟩;obtain ⟨q',c',hqc,-,-,hk⟩:=htj2.sl2;obtain ⟨bl,ol,cl,hq,hbl,hrl,hrt⟩:=hk j te' hte
        cases hqc
        rw[hq] at g33_10;have hel:=Z5B (f:=Zi fd.of (sub ver flex) false flex) hte;have htk:=Z24 (f:=Zi fd.of (sub ver flex) false flex) hte;have hpl:=Z12 (f:=Zi fd.of (sub ver flex) false flex) (l:=tl) (j+1);refine wp_skip ?_;refine hK34 a33 w31 ?_;refine wp_seq_k fun K36 hK36=>?_;refine Zj ?_;refine wS fun K37 hK37=>?_;refine wC (wMv (v:=.int .i64 (j:Int)) (eK g33_31) ?_);refine wC (wAs (v:=.int .i64 (j:Int)) (eS hz33) ?_);refine wEk hz33 hd33 fun a38 ha38 hz38 hd38=>?_;have g38_0:=kP ha38 g33_0;have g38_1:=kP ha38 g33_1;have g38_2:=kP ha38 g33_2;have g38_3:=kP ha38 g33_3;have g38_4:=kP ha38 g33_4;have g38_7:=kP ha38 g33_7;have g38_8:=kP ha38 g33_8;have g38_9:=kP ha38 g33_9;have g38_10:=kP ha38 g33_10;have g38_11:=kP ha38 g33_11;have g38_12:get a38 12 = .int .i64 (j:Int):=kG ha38 hz33;have g38_30:=kP ha38 g33_30;have g38_31:=kP ha38 g33_31;refine hK37 a38 w31 ?_;refine Z0V (os:=[oM 34 11 t29 p29 e29,oF 35 T45 4 6 t30 p30 e30,oL 36 T3 35 t31 p31 e31,oF 37 T45 4 7 t32 p32 e32,oL 38 T29 37 t33 p33 e33,oM 39 1 t34 p34 e34,oM 40 2 t35 p35 e35,oM 41 10 t36 p36 e36,oM 42 12 t37 p37 e37,⟨some 43,.indexAddr T23 (.tmp 41) (.tmp 42),t38,p38,e38,none⟩,oL 44 T26 43 t39 p39 e39,oC 45 f75 #[(.tmp 36),(.tmp 38),(.const (.bool false)),(.tmp 39),(.tmp 40),(.tmp 44)] a3 t40 p40 e40]) (rest:=[⟨some 46,.call ⟨.builtin .append,#[(.tmp 34),(.tmp 45)],#[T22,T22]⟩,t41,p41,e41,none⟩,oT 11 46 t42 p42 e42]) [spC [] (v11),spC [] (.pointer (some ⟨w.heap.size,6,none⟩)),spC [1] (.int .i64 fd.of),spC [] (.pointer (some ⟨w.heap.size,7,none⟩)),spC [3] (fsv),spC [] (.int .i64 ver),spC [] (.bool flex),spC [] (.slice (some ⟨bl,ol,none⟩) tl.length c),spC [] (.int .i64 (j:Int)),spC [7,8] (.pointer (some ⟨bl,ol+j * 5,none⟩)),spC [9] (.agg (cl).toArray),spR [2,4,5,6,10] (fun x w'=>Own w' (From w31.heap.size w') 1 x (Zi fd.of (sub ver flex) false flex te').length (Z0 (Zi fd.of (sub ver flex) false flex te')))] 34 [] hmx he10 (by simp[Z0R]) (by simp[Z13]) (by simp[spC,spR]) (by simp;omega) ⟨lCc _ _ _,lCc _ _ _,lCc _ _ _,lCc _ _ _,lCc _ _ _,lCc _ _ _,lCc _ _ _,lCc _ _ _,lCc _ _ _,lCc _ _ _,lCc _ _ _,(fun v w1 w2 f h=>h.upTo f (From.mono f.size)),trivial⟩ ?_ ?_
        · refine oCs ?_ ?_
          · refine op_c fun a' w' hk' hf' hd' K' hK'=>?_;refine wMv (v:=v11) (by rw[eTm,hk'.get 11 (by omega),g38_11]) ?_;exact hK'
          refine oCs ?_ ?_
          · refine op_c fun a' w' hk' hf' hd' K' hK'=>?_;refine wFa (b:=w.heap.size) (i:=0) (hFlT45.fld (by decide)) (by rw[eTm,hk'.get 4 (by omega),g38_4]) ?_;rw[show (0+6:Nat)=6 from rfl];exact hK'
          refine oCs ?_ ?_
          · refine op_c fun a' w' hk' hf' hd' K' hK'=>?_;refine wL0 (j:=6) (v:=.int .i64 fd.of) hcT3 (by rw[eTm];exact hd'.c (nd':=[]) 1 (by simp) rfl) (hf'.range hbl4 .nil) rfl ?_;exact hK'
          refine oCs ?_ ?_
          · refine op_c fun a' w' hk' hf' hd' K' hK'=>?_;refine wFa (b:=w.heap.size) (i:=0) (hFlT45.fld (by decide)) (by rw[eTm,hk'.get 4 (by omega),g38_4]) ?_;rw[show (0+7:Nat)=7 from rfl];exact hK'
          refine oCs ?_ ?_
          · refine op_c fun a' w' hk' hf' hd' K' hK'=>?_;refine wL0 (j:=7) (v:=fsv) hcT29 (by rw[eTm];exact hd'.c (nd':=[]) 3 (by simp) rfl) (hf'.range hbl4 .nil) rfl ?_;exact hK'
          refine oCs ?_ ?_
          · refine op_c fun a' w' hk' hf' hd' K' hK'=>?_;refine wMv (v:=.int .i64 ver) (by rw[eTm,hk'.get 1 (by omega),g38_1]) ?_;exact hK'
          refine oCs ?_ ?_
          · refine op_c fun a' w' hk' hf' hd' K' hK'=>?_;refine wMv (v:=.bool flex) (by rw[eTm,hk'.get 2 (by omega),g38_2]) ?_;exact hK'
          refine oCs ?_ ?_
          · refine op_c fun a' w' hk' hf' hd' K' hK'=>?_;refine wMv (v:=.slice (some ⟨bl,ol,none⟩) tl.length c) (by rw[eTm,hk'.get 10 (by omega),g38_10]) ?_;exact hK'
          refine oCs ?_ ?_
          · refine op_c fun a' w' hk' hf' hd' K' hK'=>?_;refine wMv (v:=.int .i64 (j:Int)) (by rw[eTm,hk'.get 12 (by omega),g38_12]) ?_;exact hK'
          refine oCs ?_ ?_
          · refine op_c fun a' w' hk' hf' hd' K' hK'=>?_;refine Z10 (b:=bl) (o:=ol) (i:=j) hs_T23 (by rw[eTm];exact hd'.c (nd':=[]) 7 (by simp) rfl) (by rw[eTm];exact hd'.c (nd':=[]) 8 (by simp) rfl) hjl ?_;exact hK'
          refine oCs ?_ ?_
          · refine op_c fun a' w' hk' hf' hd' K' hK'=>?_;refine Z7 (cs:=cl) (b:=bl) (o:=ol+j * 5) hFlT26 hrt.length (by rw[eTm];exact hd'.c (nd':=[7,8]) 9 (by simp) rfl) (hf'.range hrl .nil) ?_;exact hK'
          refine oCs ?_ ?_
          · refine op_r fun a' w' hk' hf' hd' K' hK'=>?_;refine wCr (R:=fun x wz=>Fr [] w' wz∧Own wz (From w'.heap.size wz) 1 x (Zi fd.of (sub ver flex) false flex te').length (Z0 (Zi fd.of (sub ver flex) false flex te'))) (vs:=#[.int .i64 fd.of,fsv,.bool false,.int .i64 ver,.bool flex,.agg (cl).toArray]) hVa.enters (by simp only[List.map_toArray,List.map_cons,List.map_nil];rw[show a'.eval (.tmp 36)=Value.int .i64 fd.of from (by rw[eTm];exact hd'.c (nd':=[1]) 2 (by simp) rfl),show a'.eval (.tmp 38)=fsv from (by rw[eTm];exact hd'.c (nd':=[3]) 4 (by simp) rfl),show a'.eval (.const (.bool false))=Value.bool false from rfl,show a'.eval (.tmp 39)=Value.int .i64 ver from (by rw[eTm];exact hd'.c (nd':=[]) 5 (by simp) rfl),show a'.eval (.tmp 40)=Value.bool flex from (by rw[eTm];exact hd'.c (nd':=[]) 6 (by simp) rfl),show a'.eval (.tmp 44)=Value.agg (cl).toArray from (by rw[eTm];exact hd'.c (nd':=[9]) 10 (by simp) rfl)]) (Za (hVa.call w' A B fsv ver flex false fd.of cl te' (hsub.kept (hfl.tr hf') (by simp) (fun _ h=>h)) (hrt.kept hf' (by simp) (fun _ h=>h)) (fun b hb=>Nat.lt_of_lt_of_le (hA b hb) (hfl.tr hf').size) (fun b hb=>Nat.lt_of_lt_of_le (hB b hb) (hfl.tr hf').size) (by omega))) ?_;rintro x39 w39 ⟨fr39,ow39⟩;exact hK' x39 w39 (ow39.from hf'.size) fr39
          exact ZX
        intro a40 w40 k40 f40 hd_40;have g40_0:get a40 0 = .agg ([.int .i64 fd.kind,.int .i64 fd.fr,.int .i64 fd.to,.int .i64 fd.nul,.int .i64 fd.tag,.int .i64 fd.df,.int .i64 fd.of,fsv]:List Value).toArray:=by rw[k40.get 0 (by omega),g38_0]
        have g40_1:get a40 1 = .int .i64 ver:=by rw[k40.get 1 (by omega),g38_1]
        have g40_2:get a40 2 = .bool flex:=by rw[k40.get 2 (by omega),g38_2]
        have g40_3:get a40 3 = .agg ([.int .i64 n,sv,.bool nl,lv,uv]:List Value).toArray:=by rw[k40.get 3 (by omega),g38_3]
        have g40_4:get a40 4 = .pointer (some ⟨w.heap.size,0,none⟩):=by rw[k40.get 4 (by omega),g38_4]
        have g40_7:get a40 7 = .pointer (some ⟨w2.heap.size,0,none⟩):=by rw[k40.get 7 (by omega),g38_7]
        have g40_8:get a40 8 = .slice none 0 0:=by rw[k40.get 8 (by omega),g38_8]
        have g40_9:get a40 9 = .bool nu:=by rw[k40.get 9 (by omega),g38_9]
        have g40_10:get a40 10 = .slice (some ⟨bl,ol,none⟩) tl.length c:=by rw[k40.get 10 (by omega),g38_10]
        have g40_30:get a40 30 = .int .i64 ((tl.length:Nat):Int):=by rw[k40.get 30 (by omega),g38_30]
        have g40_31:get a40 31 = .int .i64 (j:Int):=by rw[k40.get 31 (by omega),g38_31]
        have hz40:a40.tmps.size=76:=k40.size.trans hz38;have hd40:a40.defers=[]:=k40.defers.trans hd38;have g40_34:get a40 34=v11:=hd_40.c (nd':=[]) 0 (by simp) rfl;have hF41:Fr [] w w40:=hfl.tr f40;have hL41_w31:Fr [] w31 w40:=(Fr.refl [] w31).tr f40;have rb42:=f40.range hbl4 .nil;have hv:Own w40 (From w31.heap.size w40) 1 (get a40 45) (Zi fd.of (sub ver flex) false flex te').length (Z0 (Zi fd.of (sub ver flex) false flex te')):=hd_40.at (d:=11) (by simp) rfl;rw[wCo];have ob43:=ho.upTo hL41_w31 (From.mono hL41_w31.size);have hSl43:w4.heap.size≤w40.heap.size:=Nat.le_trans hSl hL41_w31.size;refine Z0c hs_T22 hz_T22 (eK g40_34) rfl ob43 (hv.octE (by omega)) (by rw[htk,List.length_append] at hpl;rw[List.length_append];omega) ?_;rintro v43 w43 fa43 oa43 sp43 bk43;have ho43:=oa43.imp_A (Z2W hSl43 fa43.size);have hF43:Fr [] w w43:=Z0C hF41 fa43 (ob43.from (s0:=w.heap.size) (by omega)) (fun b hb=>hb.1);have rb44:=fa43.range rb42 (fun r hr=>.inl fun e=>by have:=(ob43.spare_in r hr).1;have:=hS0;omega);have htN:=(htj2.kept hL41_w31 (by simp) (fun _ h=>h):Z0G _ B _ _).kept fa43 (A':=B) (fun r hr hb=>by have:=hB _ hb;have:=(ob43.spare_in r hr).1;omega) (fun _ h=>h);have hSN:=Nat.le_trans hSl43 fa43.size;refine wC (wAs (v:=v43) (eS hz40) ?_);refine wEk hz40 hd40 fun a45 ha45 hz45 hd45=>?_;have g45_0:=kP ha45 g40_0;have g45_1:=kP ha45 g40_1;have g45_2:=kP ha45 g40_2;have g45_3:=kP ha45 g40_3;have g45_4:=kP ha45 g40_4;have g45_7:=kP ha45 g40_7;have g45_8:=kP ha45 g40_8;have g45_9:=kP ha45 g40_9;have g45_10:=kP ha45 g40_10;have g45_11:get a45 11=v43:=kG ha45 hz40;have g45_30:=kP ha45 g40_30;have g45_31:=kP ha45 g40_31;refine hK36 a45 w43 ?_;refine Z2 ?_;refine wC (ZF (k1:=.i64) (i:=(j:Int)) (j:=1) (eK g45_31) rfl ?_);rw[show (IntKind.i64.wrap (((j:Int):Int)+(1:Int)):Int)=(((j+1:Nat):Int):Int) from by simp only[IntKind.wrap,IntKind.bits,IntKind.signed];simp;omega];refine wC (wMv (v:=.int .i64 ((j+1:Nat):Int)) (eS hz45) ?_);refine wEk hz45 hd45 fun a46 ha46 hz46 hd46=>?_;have g46_0:=kP ha46 g45_0;have g46_1:=kP ha46 g45_1;have g46_2:=kP ha46 g45_2;have g46_3:=kP ha46 g45_3;have g46_4:=kP ha46 g45_4;have g46_7:=kP ha46 g45_7;have g46_8:=kP ha46 g45_8;have g46_9:=kP ha46 g45_9;have g46_10:=kP ha46 g45_10;have g46_11:=kP ha46 g45_11;have g46_30:=kP ha46 g45_30;have g46_31:get a46 31 = .int .i64 ((j+1:Nat):Int):=kG ha46 hz45;rw[← hq] at g46_10;refine ⟨m - 1,by omega,j+1,_,hz46,hd46,g46_0,g46_1,g46_2,g46_3,g46_4,g46_7,g46_8,g46_9,g46_10,g46_11,g46_30,g46_31,by omega,?_,rb44,htN.kept (Fr.refl [] w43) (by simp) (fun _ h=>h),hF43,Nat.le_trans hSN (Fr.refl [] w43).size⟩;rw[htk,← List.append_assoc];exact ho43.upTo (Fr.refl [] w43) (From.mono (Fr.refl [] w43).size)
      have hj0:j=tl.length:=by simp at hc35;omega
      rw[hj0,List.take_length] at ho;refine wp_exit ?_;show K28 a33 w31
      refine hK28 a33 w31 ?_;refine wS fun K47 hK47=>?_;refine wC (wMv (v:=v11) (eK g33_11) ?_);refine wC (wAs (v:=v11) (eS hz33) ?_);refine wEk hz33 hd33 fun a48 ha48 hz48 hd48=>?_;have g48_8:get a48 8=v11:=kG ha48 hz33;refine hK47 a48 w31 ?_;refine wp_ret ?_;rw[hW];exact ⟨hd48,_,rIs hres g48_8,_,rfl,hfl,ho.from (by omega)⟩
    refine wS fun K49 hK49=>?_;refine wC (wMv (v:=.bool nu) (eK g20_9) ?_);refine wEk hz20 hd20 fun a50 ha50 hz50 hd50=>?_;have g50_0:=kP ha50 g20_0;have g50_1:=kP ha50 g20_1;have g50_2:=kP ha50 g20_2;have g50_3:=kP ha50 g20_3;have g50_4:=kP ha50 g20_4;have g50_7:=kP ha50 g20_7;have g50_8:=kP ha50 g20_8;have g50_9:=kP ha50 g20_9;have g50_10:=kP ha50 g20_10;have g50_23:get a50 23 = .bool nu:=kG ha50 hz20;refine hK49 a50 w9 ?_;refine wp_cond_split (t:=nu) (eK g50_23) (fun hc51=>?_) (fun hc51=>?_)
    · have hnt : nu = true := hc51;have htl0 : tl = [] := by rw [htl, hnt]; rfl
      refine Z2 ?_;refine wC (wAs (v:=.slice none 0 0) rfl ?_);refine wEk hz50 hd50 fun a52 ha52 hz52 hd52=>?_;have g52_0:=kP ha52 g50_0;have g52_1:=kP ha52 g50_1;have g52_2:=kP ha52 g50_2;have g52_3:=kP ha52 g50_3;have g52_4:=kP ha52 g50_4;have g52_7:=kP ha52 g50_7;have g52_8:=kP ha52 g50_8;have g52_9:=kP ha52 g50_9;have g52_10:get a52 10 = .slice none 0 0:=kG ha52 hz50;have hq10:=g52_10;rw[show (.slice none 0 0:Value) = .slice none tl.length 0 from by rw[htl0];rfl] at hq10;exact hJ22 a52 w9 ⟨none,0,hz52,hd52,g52_0,g52_1,g52_2,g52_3,g52_4,g52_7,g52_8,g52_9,hq10,by rw[htl0];exact .inl ⟨.inl rfl,rfl⟩,rb11,hF10,hL10_w4.size⟩
    have hnf:nu=false:=hc51;have htl0:tl=l.take 32767:=by rw[htl,hnf];rfl
    refine wp_skip ?_;have hq10:=g50_10;rw[show (.slice q19 ((l.take 32767).length) c19:Value) = .slice q19 tl.length c19 from by rw[htl0]] at hq10;exact hJ22 a50 w9 ⟨q19,c19,hz50,hd50,g50_0,g50_1,g50_2,g50_3,g50_4,g50_7,g50_8,g50_9,hq10,by rw[htl0];exact hx19.kept (Fr.refl [] w9) (by simp) (fun _ h=>h),rb11,hF10,hL10_w4.size⟩
  have n11:fd.kind ≠ 11:=by simpa using hc17
  refine wp_skip ?_;refine hK14 a16 w9 (tUp ?_);refine tId (wp_seq_k fun K53 hK53=>?_);refine wp_seq_k fun K54 hK54=>?_
  by_cases h10:fd.kind=10;rotate_left
  · refine ZV ?_;refine gCn ?_;refine wFa (b := w.heap.size) (i := 0) (hFlT45.fld (by decide)) (eK g16_4) ?_;rw [show (0 + 0 : Nat) = 0 from rfl];refine gCn ?_;refine wL0 (j := 0) (v := .int .i64 fd.kind) hcT3 (eS hz16) rb11 rfl ?_;refine gCn ?_;refine ZQ (k1 := .i64) (i := fd.kind) (j := 10) h10 (eS hz16) rfl ?_;refine gCn ?_;refine wMv (v := .bool false) (eS hz16) ?_;refine Z00 (dj := 52) rfl (lZ hz16) (gS hz16) ?_;refine Z00 (dj := 52) rfl (lZ hz16) (gS hz16) ?_;refine Z00 (dj := 52) rfl (lZ hz16) (gS hz16) ?_;refine gCn ?_;refine ZJ (v := .bool false) (eS hz16) rfl ?_;refine Z0l fun a55 ha55 => ?_;have hz55 := kS ha55 hz16;have hd55 := kD ha55 hd16;have g55_1 := kP ha55 g16_1;have g55_2 := kP ha55 g16_2;have g55_4 := kP ha55 g16_4;have g55_7 := kP ha55 g16_7;have g55_9 := kP ha55 g16_9;have g55_56 : get a55 56 = .bool false := kG ha55 hz16;refine hK54 a55 w9 ?_;refine wp_cond_split (t := false) (eK g55_56) (fun h => by cases h) (fun _ => ?_);refine wp_skip ?_;refine hK53 a55 w9 (tUp ?_);refine tId (wp_seq_k fun K57 hK57 => ?_);have hW : ZM fd.kind fd.nul fd.of (sub ver flex) ver flex (.mk n s nl l u) = Zi fd.kind (sub ver flex) nu flex (.mk n s nl l u) := by rw [ZM, if_neg n11, if_neg (fun h => h10 h.1), ← hnu]
    rw[hW] at hlen;refine Z2 ?_;refine wC (wFa (b:=w.heap.size) (i:=0) (hFlT45.fld (by decide)) (eK g55_4) ?_);rw[show (0+0:Nat)=0 from rfl];refine wC (wL0 (j:=0) (v:=.int .i64 fd.kind) hcT3 (eS hz55) rb11 rfl ?_);refine wC (wFa (b:=w.heap.size) (i:=0) (hFlT45.fld (by decide)) (eK g55_4) ?_);rw[show (0+7:Nat)=7 from rfl];refine wC (wL0 (j:=7) (v:=fsv) hcT29 (eS hz55) rb11 rfl ?_);refine wC (wMv (v:=.bool nu) (eK g55_9) ?_);refine wC (wMv (v:=.int .i64 ver) (eK g55_1) ?_);refine wC (wMv (v:=.bool flex) (eK g55_2) ?_);refine wC (Z7 (cs:=[.int .i64 n,sv,.bool nl,lv,uv]) (b:=w2.heap.size) (o:=0) hFlT26 rfl (eK g55_7) rb12 ?_);refine wC (wCr (R:=fun x wz=>Fr [] w9 wz∧Own wz (From w9.heap.size wz) 1 x (Zi fd.kind (sub ver flex) nu flex (.mk n s nl l u)).length (Z0 (Zi fd.kind (sub ver flex) nu flex (.mk n s nl l u)))) (vs:=#[.int .i64 fd.kind,fsv,.bool nu,.int .i64 ver,.bool flex,.agg ([.int .i64 n,sv,.bool nl,lv,uv]:List Value).toArray]) hVa.enters (by simp only[List.map_toArray,List.map_cons,List.map_nil];rw[eTm,nZ (by decide),nZ (by decide),nZ (by decide),nZ (by decide),nZ (by decide),nZ (by decide),sZ (zZ hz55) (by decide),eTm,nZ (by decide),nZ (by decide),nZ (by decide),nZ (by decide),sZ (zZ (zZ (zZ hz55))) (by decide),eTm,nZ (by decide),nZ (by decide),nZ (by decide),sZ (zZ (zZ (zZ (zZ hz55)))) (by decide),eTm,nZ (by decide),nZ (by decide),sZ (zZ (zZ (zZ (zZ (zZ hz55))))) (by decide),eTm,nZ (by decide),sZ (zZ (zZ (zZ (zZ (zZ (zZ hz55)))))) (by decide),eTm,sZ (zZ (zZ (zZ (zZ (zZ (zZ (zZ hz55))))))) (by decide)]) (Za (hVa.call w9 A B fsv ver flex nu fd.kind _ (.mk n s nl l u) (hsub.kept hF10 (by simp) (fun _ h=>h)) (ht0.kept hF10 (by simp) (fun _ h=>h)) (fun b hb=>Nat.lt_of_lt_of_le (hA b hb) hF10.size) (fun b hb=>Nat.lt_of_lt_of_le (hB b hb) hF10.size) hlen)) ?_);rintro x58 w58 ⟨fr58,ow58⟩;have hF59:Fr [] w w58:=hF10.tr fr58;have rb60:=fr58.range rb11 .nil;have rb61:=fr58.range rb12 .nil;refine wC (wAs (v:=x58) (eS hz55) ?_);refine wEk hz55 hd55 fun a62 ha62 hz62 hd62=>?_;have g62_8:get a62 8=x58:=kG ha62 hz55;refine hK57 a62 w58 (tUp ?_);refine wp_ret ?_;rw[hW];exact ⟨hd62,_,rIs hres g62_8,_,rfl,hF59,ow58.from (by have:=hF10.size;omega)⟩
  by_cases hnn:fd.nul≥0
  · refine ZV ?_;refine gCn ?_;refine wFa (b := w.heap.size) (i := 0) (hFlT45.fld (by decide)) (eK g16_4) ?_;rw [show (0 + 0 : Nat) = 0 from rfl];refine gCn ?_;refine wL0 (j := 0) (v := .int .i64 fd.kind) hcT3 (eS hz16) rb11 rfl ?_;refine gCn ?_;refine Z11 (k1 := .i64) (i := fd.kind) (j := 10) h10 (eS hz16) rfl ?_;refine gCn ?_;refine wMv (v := .bool true) (eS hz16) ?_;refine Zm (dj := 52) rfl (lZ hz16) (gS hz16) ?_;refine wFa (b := w.heap.size) (i := 0) (hFlT45.fld (by decide)) (eK g16_4) ?_;rw [show (0 + 3 : Nat) = 3 from rfl];refine Zm (dj := 52) rfl (lZ hz16) (gS hz16) ?_;refine wL0 (j := 3) (v := .int .i64 fd.nul) hcT3 (eS hz16) rb11 rfl ?_;refine Zm (dj := 52) rfl (lZ hz16) (gS hz16) ?_;refine Z2r (k1 := .i64) (i := fd.nul) (j := 0) hnn (eS hz16) rfl ?_;refine gCn ?_;refine Zq (v := .bool true) (eS hz16) (eS hz16) ?_;refine Z0l fun a63 ha63 => ?_;have hz63 := kS ha63 hz16;have hd63 := kD ha63 hd16;have g63_1 := kP ha63 g16_1;have g63_2 := kP ha63 g16_2;have g63_4 := kP ha63 g16_4;have g63_7 := kP ha63 g16_7;have g63_9 := kP ha63 g16_9;have g63_56 : get a63 56 = .bool true := kG ha63 hz16;refine hK54 a63 w9 ?_;refine wp_cond_split (t := true) (eK g63_56) (fun _ => ?_) (fun h => by cases h);refine wp_seq_k fun K65 hK65 => ?_;refine wS fun K66 hK66 => ?_;refine wC (wMv (v := .bool nu) (eK g63_9) ?_);refine wEk hz63 hd63 fun a67 ha67 hz67 hd67 => ?_;have g67_1 := kP ha67 g63_1;have g67_2 := kP ha67 g63_2;have g67_4 := kP ha67 g63_4;have g67_7 := kP ha67 g63_7;have g67_57 : get a67 57 = .bool nu := kG ha67 hz63;refine hK66 a67 w9 ?_;refine wp_cond_split (t := nu) (eK g67_57) (fun hc68 => ?_) (fun hc68 => ?_)
    · have hnt : nu = true := hc68;refine wp_seq_k fun K69 hK69 => ?_;have hW : ZM fd.kind fd.nul fd.of (sub ver flex) ver flex (.mk n s nl l u) = fxW (-1) 1 := by rw [ZM, if_neg n11, if_pos ⟨h10, hnn⟩, ← hnu, hnt]; rfl
      refine Z2 ?_;refine wC (wCr (R:=fun x wz=>Fr [] w9 wz∧Own wz (From w9.heap.size wz) 1 x (fxW (-1) 1).length (Z0 (fxW (-1) 1))) (vs:=#[.int .i64 (-1),.int .i64 1]) hFx.enters (by simp[eCo]) (Za (hFx.call w9 (-1) 1 (by decide))) ?_);rintro x70 w70 ⟨fr70,ow70⟩;have hF71:Fr [] w w70:=hF10.tr fr70;have rb72:=fr70.range rb11 .nil;have rb73:=fr70.range rb12 .nil;refine wC (wAs (v:=x70) (eS hz67) ?_);refine wEk hz67 hd67 fun a74 ha74 hz74 hd74=>?_;have g74_8:get a74 8=x70:=kG ha74 hz67;refine hK69 a74 w70 ?_;refine wp_ret ?_;rw[hW];exact ⟨hd74,_,rIs hres g74_8,_,rfl,hF71,ow70.from (by have:=hF10.size;omega)⟩
    have hnf:nu=false:=hc68;refine wp_skip ?_;refine hK65 a67 w9 ?_;refine wp_seq_k fun K75 hK75=>?_;have hW:ZM fd.kind fd.nul fd.of (sub ver flex) ver flex (.mk n s nl l u)=fxW 1 1++sub ver flex (.mk n s nl l u):=by rw[ZM,if_neg n11,if_pos ⟨h10,hnn⟩,← hnu,hnf];rfl
    rw[hW,List.length_append] at hlen;have hle0:=hF10.size;refine Z0V (os:=[oC 59 f76 #[(.const (.int .i64 1)),(.const (.int .i64 1))] a5 t58 p58 e58,oF 60 T45 4 7 t59 p59 e59,oL 61 T29 60 t60 p60 e60,oM 62 1 t61 p61 e61,oM 63 2 t62 p62 e62,oL 64 T26 7 t63 p63 e63,oC 65 f26 #[(.tmp 61),(.tmp 62),(.tmp 63),(.tmp 64)] a6 t64 p64 e64]) (rest:=[⟨some 66,.call ⟨.builtin .append,#[(.tmp 59),(.tmp 65)],#[T22,T22]⟩,t65,p65,e65,none⟩,oT 8 66 t66 p66 e66]) [spR [] (fun x w'=>Own w' (From w9.heap.size w') 1 x (fxW 1 1).length (Z0 (fxW 1 1))),spC [] (.pointer (some ⟨w.heap.size,7,none⟩)),spC [1] (fsv),spC [] (.int .i64 ver),spC [] (.bool flex),spC [] (.agg ([.int .i64 n,sv,.bool nl,lv,uv]:List Value).toArray),spR [2,3,4,5] (fun x w'=>Own w' (From w9.heap.size w') 1 x (sub ver flex (.mk n s nl l u)).length (Z0 (sub ver flex (.mk n s nl l u))))] 59 [] hmx he16 (by simp[Z0R]) (by simp[Z13]) (by simp[spC,spR]) (by simp;omega) ⟨(fun v w1 w2 f h=>h.upTo f (From.mono f.size)),lCc _ _ _,lCc _ _ _,lCc _ _ _,lCc _ _ _,lCc _ _ _,(fun v w1 w2 f h=>h.upTo f (From.mono f.size)),trivial⟩ ?_ ?_
    · refine oCs ?_ ?_
      · refine op_r fun a' w' hk' hf' hd' K' hK'=>?_;refine wCr (R:=fun x wz=>Fr [] w' wz∧Own wz (From w'.heap.size wz) 1 x (fxW 1 1).length (Z0 (fxW 1 1))) (vs:=#[.int .i64 1,.int .i64 1]) hFx.enters (by simp[eCo]) (Za (hFx.call w' 1 1 (by decide))) ?_;rintro x76 w76 ⟨fr76,ow76⟩;exact hK' x76 w76 (ow76.from hf'.size) fr76
      refine oCs ?_ ?_
      · refine op_c fun a' w' hk' hf' hd' K' hK'=>?_;refine wFa (b:=w.heap.size) (i:=0) (hFlT45.fld (by decide)) (by rw[eTm,hk'.get 4 (by omega),g67_4]) ?_;rw[show (0+7:Nat)=7 from rfl];exact hK'
      refine oCs ?_ ?_
      · refine op_c fun a' w' hk' hf' hd' K' hK'=>?_;refine wL0 (j:=7) (v:=fsv) hcT29 (by rw[eTm];exact hd'.c (nd':=[]) 1 (by simp) rfl) (hf'.range rb11 .nil) rfl ?_;exact hK'
      refine oCs ?_ ?_
      · refine op_c fun a' w' hk' hf' hd' K' hK'=>?_;refine wMv (v:=.int .i64 ver) (by rw[eTm,hk'.get 1 (by omega),g67_1]) ?_;exact hK'
      refine oCs ?_ ?_
      · refine op_c fun a' w' hk' hf' hd' K' hK'=>?_;refine wMv (v:=.bool flex) (by rw[eTm,hk'.get 2 (by omega),g67_2]) ?_;exact hK'
      refine oCs ?_ ?_
      · refine op_c fun a' w' hk' hf' hd' K' hK'=>?_;refine Z7 (cs:=[.int .i64 n,sv,.bool nl,lv,uv]) (b:=w2.heap.size) (o:=0) hFlT26 rfl (by rw[eTm,hk'.get 7 (by omega),g67_7]) (hf'.range rb12 .nil) ?_;exact hK'
      refine oCs ?_ ?_
      · refine op_r fun a' w' hk' hf' hd' K' hK'=>?_;refine wCr (R:=fun x wz=>Fr [] w' wz∧Own wz (From w'.heap.size wz) 1 x (sub ver flex (.mk n s nl l u)).length (Z0 (sub ver flex (.mk n s nl l u)))) (vs:=#[fsv,.int .i64 ver,.bool flex,.agg ([.int .i64 n,sv,.bool nl,lv,uv]:List Value).toArray]) hPa.enters (by simp only[List.map_toArray,List.map_cons,List.map_nil];rw[show a'.eval (.tmp 61)=fsv from (by rw[eTm];exact hd'.c (nd':=[1]) 2 (by simp) rfl),show a'.eval (.tmp 62)=Value.int .i64 ver from (by rw[eTm];exact hd'.c (nd':=[]) 3 (by simp) rfl),show a'.eval (.tmp 63)=Value.bool flex from (by rw[eTm];exact hd'.c (nd':=[]) 4 (by simp) rfl),show a'.eval (.tmp 64)=Value.agg ([.int .i64 n,sv,.bool nl,lv,uv]:List Value).toArray from (by rw[eTm];exact hd'.c (nd':=[]) 5 (by simp) rfl)]) (Za (hPa.call w' A B fsv ver flex _ (.mk n s nl l u) (hsub.kept (hF10.tr hf') (by simp) (fun _ h=>h)) (ht0.kept (hF10.tr hf') (by simp) (fun _ h=>h)) (fun b hb=>Nat.lt_of_lt_of_le (hA b hb) (hF10.tr hf').size) (fun b hb=>Nat.lt_of_lt_of_le (hB b hb) (hF10.tr hf').size) (by omega))) ?_;rintro x77 w77 ⟨fr77,ow77⟩;exact hK' x77 w77 (ow77.from hf'.size) fr77
      exact ZX
    intro a78 w78 k78 f78 hd_78;have hz78:a78.tmps.size=76:=k78.size.trans hz67;have hd78:a78.defers=[]:=k78.defers.trans hd67;have hF79:Fr [] w w78:=hF10.tr f78;have hL79_w9:Fr [] w9 w78:=(Fr.refl [] w9).tr f78;have rb80:=f78.range rb11 .nil;have rb81:=f78.range rb12 .nil;have hv0:Own w78 (From w9.heap.size w78) 1 (get a78 59) (fxW 1 1).length (Z0 (fxW 1 1)):=hd_78.at (d:=0) (by simp) rfl;have hv6:Own w78 (From w9.heap.size w78) 1 (get a78 65) (sub ver flex (.mk n s nl l u)).length (Z0 (sub ver flex (.mk n s nl l u))):=hd_78.at (d:=6) (by simp) rfl;rw[wCo];have ob82:=hv0;have hSl82:w9.heap.size≤w78.heap.size:=hL79_w9.size;refine Z0c hs_T22 hz_T22 rfl rfl ob82 (hv6.octE (by omega)) (by omega) ?_;rintro v82 w82 fa82 oa82 sp82 bk82;have ho82:=oa82.imp_A (Z2W hSl82 fa82.size);have hF82:Fr [] w w82:=Z0C hF79 fa82 (ob82.from (s0:=w.heap.size) (by omega)) (fun b hb=>hb.1);refine wC (wAs (v:=v82) (eS hz78) ?_);refine wEk hz78 hd78 fun a83 ha83 hz83 hd83=>?_;have g83_8:get a83 8=v82:=kG ha83 hz78;refine hK75 a83 w82 ?_;refine wp_ret ?_;rw[hW];exact ⟨hd83,_,rIs hres g83_8,_,rfl,hF82,ho82.from (by omega)⟩
  refine ZV ?_;refine gCn ?_;refine wFa (b:=w.heap.size) (i:=0) (hFlT45.fld (by decide)) (eK g16_4) ?_;rw[show (0+0:Nat)=0 from rfl];refine gCn ?_;refine wL0 (j:=0) (v:=.int .i64 fd.kind) hcT3 (eS hz16) rb11 rfl ?_;refine gCn ?_;refine Z11 (k1:=.i64) (i:=fd.kind) (j:=10) h10 (eS hz16) rfl ?_;refine gCn ?_;refine wMv (v:=.bool true) (eS hz16) ?_;refine Zm (dj:=52) rfl (lZ hz16) (gS hz16) ?_;refine wFa (b:=w.heap.size) (i:=0) (hFlT45.fld (by decide)) (eK g16_4) ?_;rw[show (0+3:Nat)=3 from rfl];refine Zm (dj:=52) rfl (lZ hz16) (gS hz16) ?_;refine wL0 (j:=3) (v:=.int .i64 fd.nul) hcT3 (eS hz16) rb11 rfl ?_;refine Zm (dj:=52) rfl (lZ hz16) (gS hz16) ?_;refine Z38 (k1:=.i64) (i:=fd.nul) (j:=0) hnn (eS hz16) rfl ?_;refine gCn ?_;refine Zq (v:=.bool false) (eS hz16) (eS hz16) ?_;refine Z0l fun a84 ha84=>?_;have hz84:=kS ha84 hz16;have hd84:=kD ha84 hd16;have g84_1:=kP ha84 g16_1;have g84_2:=kP ha84 g16_2;have g84_4:=kP ha84 g16_4;have g84_7:=kP ha84 g16_7;have g84_9:=kP ha84 g16_9;have g84_56:get a84 56 = .bool false:=kG ha84 hz16;refine hK54 a84 w9 ?_;refine wp_cond_split (t:=false) (eK g84_56) (fun h=>by cases h) (fun _=>?_);refine wp_skip ?_;refine hK53 a84 w9 (tUp ?_);refine tId (wp_seq_k fun K86 hK86=>?_);have hW:ZM fd.kind fd.nul fd.of (sub ver flex) ver flex (.mk n s nl l u)=Zi fd.kind (sub ver flex) nu flex (.mk n s nl l u):=by rw[ZM,if_neg n11,if_neg (fun h=>hnn h.2),← hnu]
  rw[hW] at hlen;refine Z2 ?_;refine wC (wFa (b:=w.heap.size) (i:=0) (hFlT45.fld (by decide)) (eK g84_4) ?_);rw[show (0+0:Nat)=0 from rfl];refine wC (wL0 (j:=0) (v:=.int .i64 fd.kind) hcT3 (eS hz84) rb11 rfl ?_);refine wC (wFa (b:=w.heap.size) (i:=0) (hFlT45.fld (by decide)) (eK g84_4) ?_);rw[show (0+7:Nat)=7 from rfl];refine wC (wL0 (j:=7) (v:=fsv) hcT29 (eS hz84) rb11 rfl ?_);refine wC (wMv (v:=.bool nu) (eK g84_9) ?_);refine wC (wMv (v:=.int .i64 ver) (eK g84_1) ?_);refine wC (wMv (v:=.bool flex) (eK g84_2) ?_);refine wC (Z7 (cs:=[.int .i64 n,sv,.bool nl,lv,uv]) (b:=w2.heap.size) (o:=0) hFlT26 rfl (eK g84_7) rb12 ?_);refine wC (wCr (R:=fun x wz=>Fr [] w9 wz∧Own wz (From w9.heap.size wz) 1 x (Zi fd.kind (sub ver flex) nu flex (.mk n s nl l u)).length (Z0 (Zi fd.kind (sub ver flex) nu flex (.mk n s nl l u)))) (vs:=#[.int .i64 fd.kind,fsv,.bool nu,.int .i64 ver,.bool flex,.agg ([.int .i64 n,sv,.bool nl,lv,uv]:List Value).toArray]) hVa.enters (by simp only[List.map_toArray,List.map_cons,List.map_nil];rw[eTm,nZ (by decide),nZ (by decide),nZ (by decide),nZ (by decide),nZ (by decide),nZ (by decide),sZ (zZ hz84) (by decide),eTm,nZ (by decide),nZ (by decide),nZ (by decide),nZ (by decide),sZ (zZ (zZ (zZ hz84))) (by decide),eTm,nZ (by decide),nZ (by decide),nZ (by decide),sZ (zZ (zZ (zZ (zZ hz84)))) (by decide),eTm,nZ (by decide),nZ (by decide),sZ (zZ (zZ (zZ (zZ (zZ hz84))))) (by decide),eTm,nZ (by decide),sZ (zZ (zZ (zZ (zZ (zZ (zZ hz84)))))) (by decide),eTm,sZ (zZ (zZ (zZ (zZ (zZ (zZ (zZ hz84))))))) (by decide)]) (Za (hVa.call w9 A B fsv ver flex nu fd.kind _ (.mk n s nl l u) (hsub.kept hF10 (by simp) (fun _ h=>h)) (ht0.kept hF10 (by simp) (fun _ h=>h)) (fun b hb=>Nat.lt_of_lt_of_le (hA b hb) hF10.size) (fun b hb=>Nat.lt_of_lt_of_le (hB b hb) hF10.size) hlen)) ?_);rintro x87 w87 ⟨fr87,ow87⟩;have hF88:Fr [] w w87:=hF10.tr fr87;have rb89:=fr87.range rb11 .nil;have rb90:=fr87.range rb12 .nil;refine wC (wAs (v:=x87) (eS hz84) ?_);refine wEk hz84 hd84 fun a91 ha91 hz91 hd91=>?_;have g91_8:get a91 8=x87:=kG ha91 hz84;refine hK86 a91 w87 (tUp ?_);refine wp_ret ?_;rw[hW];exact ⟨hd91,_,rIs hres g91_8,_,rfl,hF88,ow87.from (by have:=hF10.size;omega)⟩
end Go.Kq

namespace Go.Kq
open Go Go.Proofs
theorem Z3F {n:Nat} (h:n < 18446744073709551616):IntKind.u64.wrap (n:Int)=n:=by
  simp only[IntKind.wrap,IntKind.bits,IntKind.signed];simp;omega
theorem Z2y:∀ {fs:List Fd},(∀ f ∈ fs,f.tag < 0)→Z5 fs=0
  | [],_=>rfl
  | f :: fs, h => by
    have:=h f (by simp);rw[Z5,if_neg (by omega)];exact Z2y fun g hg=>h g (by simp[hg])
theorem Z6D {fs:List Fd} {ver:Int} {encs:List (List UInt8)}:∀ {m n:Nat},n≤m→(Z0T fs ver encs n).length≤(Z0T fs ver encs m).length
  | 0, n, h => by have : n = 0 := by omega
                  subst this;exact Nat.le_refl _
  | m + 1, n, h => by
    by_cases hn:n=m+1
    · subst hn;exact Nat.le_refl _
    refine Nat.le_trans (Z6D (m:=m) (by omega)) ?_;unfold Z0T;rw[List.range_succ,List.flatMap_append,List.length_append];omega
theorem Z7A {fs:List Fd} {t:T} {j:Nat} {p:Nat × List UInt8} (h:(ZC fs t)[j]?=some p):((ZC fs t).take (j+1)).flatMap ZP=((ZC fs t).take j).flatMap ZP++ZP p:=by
  rw[List.take_add_one,h,List.flatMap_append];simp
theorem Z5b {fs:List Fd} {t:T} (j:Nat):(((ZC fs t).take j).flatMap ZP).length≤((ZC fs t).flatMap ZP).length:=by
  conv=>rhs;rw[← List.take_append_drop j (ZC fs t),List.flatMap_append,List.length_append]
  omega
end Go.Kq

namespace Go.Kq
open Go Go.Proofs
def zM:List Value:=[.slice none 0 0,.int .i64 0]
theorem Z17.congr {P:Program} {f:FuncId} {fd:Fd} {e1 e2:Int→Bool→T→List UInt8} (h:Z17 P f fd e1) (he:∀ ver flex t,e1 ver flex t=e2 ver flex t):Z17 P f fd e2:=by
  have:e1=e2:=by funext a b c;exact he a b c
  rw[← this];exact h
structure Z8w (P:Program) (f:FuncId) (fs:List Fd) (enc:Int→Bool→T→List UInt8):Prop where
  enters:Enters P f
  call:∀ (w:World) (A B:Nat→Prop) (ver fx:Int) (fsv:Value) (ct:List Value) (t:T),FdsR w A fsv fs→RepT w B ct t→(∀ b,A b→b < w.heap.size)→(∀ b,B b→b < w.heap.size)→(enc ver (decide (fx≥0) && decide (ver≥fx)) t).length≤4294967296 →
    Calls P f #[.agg ([fsv,.int .i64 fx]:List Value).toArray,.int .i64 ver,.agg ct.toArray] w (Z5F w (enc ver (decide (fx≥0) && decide (ver≥fx)) t))
inductive Z0v (w:World) (A:Nat→Prop):List (List Value)→List Fd→Prop where
  | nil:Z0v w A [] []
  | cons {c:List Value} {f:Fd} {cs:List (List Value)} {fs:List Fd} (h:RepF w A c f) (t:Z0v w A cs fs):Z0v w A (c::cs) (f::fs)
theorem Z0v.len {w:World} {A:Nat→Prop} {cs:List (List Value)} {fs:List Fd} (h:Z0v w A cs fs):cs.length=fs.length:=by
  induction h with
  | nil=>rfl
  | cons _ _ ih=>simp[ih]
theorem Z0v.kept {w w':World} {A A':Nat→Prop} {cs:List (List Value)} {fs:List Fd} (h:Z0v w A cs fs) (f:Fr [] w w') (hA:∀ b,A b→A' b):Z0v w' A' cs fs:=by
  induction h with
  | nil=>exact .nil
  | cons h _ ih=>exact .cons (h.kept f (by simp) hA) ih
theorem Z0v.at {w:World} {A:Nat→Prop} {cs:List (List Value)} {fs:List Fd} (h:Z0v w A cs fs):∀ {b o:Nat},w.rangeAt b o cs.flatten→∀ (i:Nat) (f:Fd),fs[i]?=some f→w.rangeAt b (o+i * 8) (cs.getD i [])∧RepF w A (cs.getD i []) f:=by
  induction h with
  | nil=>intro b o _ i f hi;simp at hi
  | @cons c g cs fs hc _ ih =>
    intro b o hr i f hi;rw[List.flatten_cons,Z3,hc.length] at hr
    cases i with
    | zero=>simp at hi;subst hi;exact ⟨by simpa using hr.1,hc⟩
    | succ i =>
      have:=ih hr.2 i f (by simpa using hi);rw[show o+8+i * 8=o+(i+1) * 8 from by omega] at this
      simpa using this
theorem FdsR.laid {w:World} {A:Nat→Prop} {cs:List (List Value)} {fs:List Fd} {b:Nat} (h:Z0v w A cs fs) (hr:w.rangeAt b 0 cs.flatten) (hb:A b) (hl:fs.length≤4294967296):FdsR w A (.slice (some ⟨b,0,none⟩) fs.length fs.length) fs :=
  .inr ⟨b,0,fs.length,hb,rfl,⟨Nat.le_refl _,hl⟩,fun i=>cs.getD i [],fun i f hi=>(h.at hr i f hi).1,fun i f hi=>(h.at hr i f hi).2⟩
theorem Z2G {P:Program} {a:Act} {w:World} {K:Act→World→Prop} {Q:Exit→Act→World→Prop} {d:Option Tmp} {t:TypeId} {p:String} {af:Array Edge} {g:Option (Nat × Bool)} {T e bs n s0:Nat} {A:Nat→Prop} {xs:List Operand} {css:List (List Value)} {fs:List Fd}
    (hT:Z4 P T e 8 bs=true) (hx:xs.map a.eval=css.map fun c=>.agg c.toArray) (h:Z0v w A css fs) (hn:n=fs.length) (hn0:0 < n) (hn1:n≤2000000) (hA:∀ b,A b→s0≤b∧b < w.heap.size) (hs:s0≤w.heap.size)
    (k:∀ w' v,Fr [] w w'→FdsR w' (From s0 w') v fs→K (a.put d v) w') :
    OW P ⟨d,.buildSlice T n ((xs.zipIdx 0).map fun x=>(x.2,x.1)).toArray,t,p,af,g⟩ a w K Q:=by
  have hl:=h.len;have hr:=ZD w css.flatten.toArray e (0,0);have hl8:∀ (cs:List (List Value)) (fs:List Fd),Z0v w A cs fs→∀ c ∈ cs,c.length=8:=by
    intro cs fs h
    induction h with
    | nil=>simp
    | cons h _ ih => intro c hc; rcases List.mem_cons.1 hc with rfl | hc
                     · exact h.length
                     exact ih c hc
  refine Z1o (css:=css) hT (by omega) hn0 (by omega) (by rw[hx];simp only[List.map_map];congr 1) (hl8 _ _ h) (k _ _ (Fr.alloc _ _ _) ?_);have hf:=Fr.alloc [] w (.cells css.flatten.toArray e);have hsz:=Zd w (.cells css.flatten.toArray e);rw[hn];exact FdsR.laid (h.kept hf fun b hb=>⟨(hA b hb).1,by have:=(hA b hb).2;omega⟩) (by simpa using hr) ⟨hs,by omega⟩ (by omega)
theorem Z02 {P:Program} {a:Act} {w:World} {K:Act→World→Prop} {Q:Exit→Act→World→Prop} {d:Option Tmp} {t:TypeId} {p:String} {af:Array Edge} {g:Option (Nat × Bool)} {s:TypeId} {z cs:List Value} {ps:List (Nat × Operand)} {vs:List (Nat × Value)} (h:Flat P s z) (hv:ps.map (fun p=>(p.1,a.eval p.2))=vs) (h1:∀ p ∈ vs,p.1 < z.length∧p.2.oneCell'=true) (hc:laid z vs=cs)
    (k:K (a.put d (.agg cs.toArray)) w):OW P ⟨d,.build s ps.toArray,t,p,af,g⟩ a w K Q:=Z53 h hv h1 (by rw[hc];exact k)
structure SubM (P:Program) (f:FuncId) (fs:List Fd):Prop where
  enters:Enters P f
  call:∀ (w:World),Calls P f #[] w fun e w'=>∃ v,e = .returned v∧Fr [] w w'∧FdsR w' (From w.heap.size w') v fs
structure SchM (P:Program) (f:FuncId) (fs:List Fd) (fx:Int):Prop where
  enters:Enters P f
  call:∀ (w:World),Calls P f #[] w fun e w'=>∃ v,e = .returned (.agg ([v,.int .i64 fx]:List Value).toArray)∧Fr [] w w'∧FdsR w' (From w.heap.size w') v fs
theorem write_m {P:Program} {f:FuncId} {fn:Func} {T3 T26 T29 T31:TypeId} {f26:FuncId} {a0:Array TypeId} {i0 i1:Nat} {t0 t1 t2 t3 t4 t5 t6 t7 t8 t9 t10 t11 t12 t13 t14 t15 t16 t17:TypeId} {p0 p1 p2 p3 p4 p5 p6 p7 p8 p9 p10 p11 p12 p13 p14 p15 p16 p17:String} {e0 e1 e2 e3 e4 e5 e6 e7 e8 e9 e10 e11 e12 e13 e14 e15 e16 e17:Array Edge} {fs:List Fd} {enc:Int→Bool→T→List UInt8}
    (hf:P.funcs[f]?=some fn) (hname:nG fn=false) (hres:fn.results = #[.tmp 6]) (hN:fn.ntmps=21)
    (hbody:fn.body=some (.seq (Code.region i0 ⟨[⟨some 3,.box T31 (.tmp 0),t0,p0,e0,none⟩,⟨some 5,.box T26 (.tmp 2),t1,p1,e1,none⟩,
    oA 6 (.const (.slice none 0 0)) t2 p2 e2]⟩ false) (.seq (Code.region i1 ⟨[oF 7 T31 3 0 t3 p3 e3,
    oL 8 T29 7 t4 p4 e4,
    oM 9 1 t5 p5 e5,
    oF 10 T31 3 1 t6 p6 e6,
    oL 11 T3 10 t7 p7 e7,⟨some 12,.binOp .geq T3 (.tmp 11) (.const (.int .i64 0)) T3,t8,p8,e8,none⟩,
    oM 13 12 t9 p9 e9,⟨some 14,.move (.tmp 1),t10,p10,e10,some (6,true)⟩,⟨some 15,.fieldAddr T31 (.tmp 3) 1,t11,p11,e11,some (6,true)⟩,⟨some 16,.load T3 (.tmp 15),t12,p12,e12,some (6,true)⟩,⟨some 17,.binOp .geq T3 (.tmp 14) (.tmp 16) T3,t13,p13,e13,some (6,true)⟩,⟨some 18,.pick (.tmp 13) (.tmp 17) (.const (.bool false)),t14,p14,e14,none⟩,
    oL 19 T26 5 t15 p15 e15,
    oC 20 f26 #[(.tmp 8),(.tmp 9),(.tmp 18),(.tmp 19)] a0 t16 p16 e16,
    oT 6 20 t17 p17 e17]⟩ false) .ret)))
    (hFlT31:Flat P T31 zM) (hcT29:scal P T29=true) (hcT3:scal P T3=true) (hFlT26:Flat P T26 zT) (hPa:Z1W P f26 fs enc):Z8w P f fs enc:=by
  refine ⟨enters_of hf hname hbody,?_⟩;intro w A B ver fx fsv ct t hfs ht hA hB hlen
  cases t with
  | mk n s nl l u =>
  have ht0:=ht;obtain ⟨sv,lv,uv,rfl,hn,hs,hl,hu⟩:=Z0x.1 ht
  by_cases h1:fx≥0;by_cases h2:ver≥fx
  · have hfl : (decide (fx ≥ 0) && decide (ver ≥ fx)) = true := by simp [h1, h2]
    rw[hfl] at hlen ⊢;refine calls_of_wp hf hbody ?_;generalize ha0:({ tmps:=#[Value.agg ([fsv,.int .i64 fx]:List Value).toArray,Value.int .i64 ver,Value.agg ([.int .i64 n,sv,.bool nl,lv,uv]:List Value).toArray]++Array.replicate (fn.ntmps - (#[Value.agg ([fsv,.int .i64 fx]:List Value).toArray,Value.int .i64 ver,Value.agg ([.int .i64 n,sv,.bool nl,lv,uv]:List Value).toArray]:Array Value).size) undef,defers:=[] }:Act)=a0;have hz0:a0.tmps.size=21:=by subst ha0;simp[hN]
    have hd0:a0.defers=[]:=by subst ha0;rfl
    have g0_0:get a0 0 = .agg ([fsv,.int .i64 fx]:List Value).toArray:=by subst ha0;exact gAr rfl
    have g0_1:get a0 1 = .int .i64 ver:=by subst ha0;exact gAr rfl
    have g0_2:get a0 2 = .agg ([.int .i64 n,sv,.bool nl,lv,uv]:List Value).toArray:=by subst ha0;exact gAr rfl
    refine wT fun K1 hK1=>?_;refine wC (ZL (cs:=[fsv,.int .i64 fx]) (eK g0_0) ?_);rintro w2 f2 sz2 r2 th2;have hF3:Fr [] w w2:=f2;refine wC (ZL (cs:=[.int .i64 n,sv,.bool nl,lv,uv]) (eK g0_2) ?_);rintro w4 f4 sz4 r4 th4;have hF5:Fr [] w w4:=hF3.tr f4;have rb6:=f4.range r2 .nil;refine wC (wAs (v:=.slice none 0 0) rfl ?_);refine wEk hz0 hd0 fun a7 ha7 hz7 hd7=>?_;have g7_1:=kP ha7 g0_1;have g7_3:get a7 3 = .pointer (some ⟨w.heap.size,0,none⟩):=kG ha7 hz0;have g7_5:get a7 5 = .pointer (some ⟨w2.heap.size,0,none⟩):=kG ha7 hz0;refine hK1 a7 w4 (tUp ?_);refine tId (wp_seq_k fun K8 hK8=>?_);refine ZV ?_;refine gCn ?_;refine wFa (b:=w.heap.size) (i:=0) (hFlT31.fld (by decide)) (eK g7_3) ?_;rw[show (0+0:Nat)=0 from rfl];refine gCn ?_;refine wL0 (j:=0) (v:=fsv) hcT29 (eS hz7) rb6 rfl ?_;refine gCn ?_;refine wMv (v:=.int .i64 ver) (eK g7_1) ?_;refine gCn ?_;refine wFa (b:=w.heap.size) (i:=0) (hFlT31.fld (by decide)) (eK g7_3) ?_;rw[show (0+1:Nat)=1 from rfl];refine gCn ?_;refine wL0 (j:=1) (v:=.int .i64 fx) hcT3 (eS hz7) rb6 rfl ?_;refine gCn ?_;refine Z2r (k1:=.i64) (i:=fx) (j:=0) h1 (eS hz7) rfl ?_;refine gCn ?_;refine wMv (v:=.bool true) (eS hz7) ?_;refine Zm (dj:=13) rfl (lZ hz7) (gS hz7) ?_;refine wMv (v:=.int .i64 ver) (eK g7_1) ?_;refine Zm (dj:=13) rfl (lZ hz7) (gS hz7) ?_;refine wFa (b:=w.heap.size) (i:=0) (hFlT31.fld (by decide)) (eK g7_3) ?_;rw[show (0+1:Nat)=1 from rfl];refine Zm (dj:=13) rfl (lZ hz7) (gS hz7) ?_;refine wL0 (j:=1) (v:=.int .i64 fx) hcT3 (eS hz7) rb6 rfl ?_;refine Zm (dj:=13) rfl (lZ hz7) (gS hz7) ?_;refine Z2r (k1:=.i64) (i:=ver) (j:=fx) h2 (eS hz7) (eS hz7) ?_;refine gCn ?_;refine Zq (v:=.bool true) (eS hz7) (eS hz7) ?_;refine gCn ?_;refine Z7 (cs:=[.int .i64 n,sv,.bool nl,lv,uv]) (b:=w2.heap.size) (o:=0) hFlT26 rfl (eK g7_5) r4 ?_;refine gCn ?_;refine wCr (R:=fun vz wz=>Fr [] w4 wz∧Own wz (From w4.heap.size wz) 1 vz (enc ver true (.mk n s nl l u)).length (Z0 (enc ver true (.mk n s nl l u)))) (vs:=#[fsv,.int .i64 ver,.bool true,.agg ([.int .i64 n,sv,.bool nl,lv,uv]:List Value).toArray]) hPa.enters (mX4 (eS hz7) (eS hz7) (eS hz7) (eS hz7)) (Za (hPa.call w4 A B fsv ver true _ (.mk n s nl l u) (hfs.kept hF5 (by simp) (fun _ h=>h)) (ht0.kept hF5 (by simp) (fun _ h=>h)) (fun b hb=>Nat.lt_of_lt_of_le (hA b hb) hF5.size) (fun b hb=>Nat.lt_of_lt_of_le (hB b hb) hF5.size) hlen)) ?_;rintro x9 w9 ⟨fr9,ow9⟩;have hF10:Fr [] w w9:=hF5.tr fr9;have rb11:=fr9.range rb6 .nil;have rb12:=fr9.range r4 .nil;refine gCn ?_;refine wAs (v:=x9) (eS hz7) ?_;refine Z0l fun a13 ha13=>?_;have hz13:=kS ha13 hz7;have hd13:=kD ha13 hd7;have g13_6:get a13 6=x9:=kG ha13 hz7;refine hK8 a13 w9 (tUp ?_);refine wp_ret ?_;exact ⟨hd13,_,rIs hres g13_6,_,rfl,hF10,ow9.from (by have:=hF5.size;omega)⟩
  · have hfl : (decide (fx ≥ 0) && decide (ver ≥ fx)) = false := by simp [h1, h2]
    rw[hfl] at hlen ⊢;refine calls_of_wp hf hbody ?_;generalize ha0:({ tmps:=#[Value.agg ([fsv,.int .i64 fx]:List Value).toArray,Value.int .i64 ver,Value.agg ([.int .i64 n,sv,.bool nl,lv,uv]:List Value).toArray]++Array.replicate (fn.ntmps - (#[Value.agg ([fsv,.int .i64 fx]:List Value).toArray,Value.int .i64 ver,Value.agg ([.int .i64 n,sv,.bool nl,lv,uv]:List Value).toArray]:Array Value).size) undef,defers:=[] }:Act)=a0;have hz0:a0.tmps.size=21:=by subst ha0;simp[hN]
    have hd0:a0.defers=[]:=by subst ha0;rfl
    have g0_0:get a0 0 = .agg ([fsv,.int .i64 fx]:List Value).toArray:=by subst ha0;exact gAr rfl
    have g0_1:get a0 1 = .int .i64 ver:=by subst ha0;exact gAr rfl
    have g0_2:get a0 2 = .agg ([.int .i64 n,sv,.bool nl,lv,uv]:List Value).toArray:=by subst ha0;exact gAr rfl
    refine wT fun K1 hK1=>?_;refine wC (ZL (cs:=[fsv,.int .i64 fx]) (eK g0_0) ?_);rintro w2 f2 sz2 r2 th2;have hF3:Fr [] w w2:=f2;refine wC (ZL (cs:=[.int .i64 n,sv,.bool nl,lv,uv]) (eK g0_2) ?_);rintro w4 f4 sz4 r4 th4;have hF5:Fr [] w w4:=hF3.tr f4;have rb6:=f4.range r2 .nil;refine wC (wAs (v:=.slice none 0 0) rfl ?_);refine wEk hz0 hd0 fun a7 ha7 hz7 hd7=>?_;have g7_1:=kP ha7 g0_1;have g7_3:get a7 3 = .pointer (some ⟨w.heap.size,0,none⟩):=kG ha7 hz0;have g7_5:get a7 5 = .pointer (some ⟨w2.heap.size,0,none⟩):=kG ha7 hz0;refine hK1 a7 w4 (tUp ?_);refine tId (wp_seq_k fun K8 hK8=>?_);refine ZV ?_;refine gCn ?_;refine wFa (b:=w.heap.size) (i:=0) (hFlT31.fld (by decide)) (eK g7_3) ?_;rw[show (0+0:Nat)=0 from rfl];refine gCn ?_;refine wL0 (j:=0) (v:=fsv) hcT29 (eS hz7) rb6 rfl ?_;refine gCn ?_;refine wMv (v:=.int .i64 ver) (eK g7_1) ?_;refine gCn ?_;refine wFa (b:=w.heap.size) (i:=0) (hFlT31.fld (by decide)) (eK g7_3) ?_;rw[show (0+1:Nat)=1 from rfl];refine gCn ?_;refine wL0 (j:=1) (v:=.int .i64 fx) hcT3 (eS hz7) rb6 rfl ?_;refine gCn ?_;refine Z2r (k1:=.i64) (i:=fx) (j:=0) h1 (eS hz7) rfl ?_;refine gCn ?_;refine wMv (v:=.bool true) (eS hz7) ?_;refine Zm (dj:=13) rfl (lZ hz7) (gS hz7) ?_;refine wMv (v:=.int .i64 ver) (eK g7_1) ?_;refine Zm (dj:=13) rfl (lZ hz7) (gS hz7) ?_;refine wFa (b:=w.heap.size) (i:=0) (hFlT31.fld (by decide)) (eK g7_3) ?_;rw[show (0+1:Nat)=1 from rfl];refine Zm (dj:=13) rfl (lZ hz7) (gS hz7) ?_;refine wL0 (j:=1) (v:=.int .i64 fx) hcT3 (eS hz7) rb6 rfl ?_;refine Zm (dj:=13) rfl (lZ hz7) (gS hz7) ?_;refine Z38 (k1:=.i64) (i:=ver) (j:=fx) h2 (eS hz7) (eS hz7) ?_;refine gCn ?_;refine Zq (v:=.bool false) (eS hz7) (eS hz7) ?_;refine gCn ?_;refine Z7 (cs:=[.int .i64 n,sv,.bool nl,lv,uv]) (b:=w2.heap.size) (o:=0) hFlT26 rfl (eK g7_5) r4 ?_;refine gCn ?_;refine wCr (R:=fun vz wz=>Fr [] w4 wz∧Own wz (From w4.heap.size wz) 1 vz (enc ver false (.mk n s nl l u)).length (Z0 (enc ver false (.mk n s nl l u)))) (vs:=#[fsv,.int .i64 ver,.bool false,.agg ([.int .i64 n,sv,.bool nl,lv,uv]:List Value).toArray]) hPa.enters (mX4 (eS hz7) (eS hz7) (eS hz7) (eS hz7)) (Za (hPa.call w4 A B fsv ver false _ (.mk n s nl l u) (hfs.kept hF5 (by simp) (fun _ h=>h)) (ht0.kept hF5 (by simp) (fun _ h=>h)) (fun b hb=>Nat.lt_of_lt_of_le (hA b hb) hF5.size) (fun b hb=>Nat.lt_of_lt_of_le (hB b hb) hF5.size) hlen)) ?_;rintro x9 w9 ⟨fr9,ow9⟩;have hF10:Fr [] w w9:=hF5.tr fr9;have rb11:=fr9.range rb6 .nil;have rb12:=fr9.range r4 .nil;refine gCn ?_;refine wAs (v:=x9) (eS hz7) ?_;refine Z0l fun a13 ha13=>?_;have hz13:=kS ha13 hz7;have hd13:=kD ha13 hd7;have g13_6:get a13 6=x9:=kG ha13 hz7;refine hK8 a13 w9 (tUp ?_);refine wp_ret ?_;exact ⟨hd13,_,rIs hres g13_6,_,rfl,hF10,ow9.from (by have:=hF5.size;omega)⟩
  have hfl:(decide (fx≥0) && decide (ver≥fx))=false:=by simp[h1]
  rw[hfl] at hlen ⊢;refine calls_of_wp hf hbody ?_;generalize ha0:({ tmps:=#[Value.agg ([fsv,.int .i64 fx]:List Value).toArray,Value.int .i64 ver,Value.agg ([.int .i64 n,sv,.bool nl,lv,uv]:List Value).toArray]++Array.replicate (fn.ntmps - (#[Value.agg ([fsv,.int .i64 fx]:List Value).toArray,Value.int .i64 ver,Value.agg ([.int .i64 n,sv,.bool nl,lv,uv]:List Value).toArray]:Array Value).size) undef,defers:=[] }:Act)=a0;have hz0:a0.tmps.size=21:=by subst ha0;simp[hN]
  have hd0:a0.defers=[]:=by subst ha0;rfl
  have g0_0:get a0 0 = .agg ([fsv,.int .i64 fx]:List Value).toArray:=by subst ha0;exact gAr rfl
  have g0_1:get a0 1 = .int .i64 ver:=by subst ha0;exact gAr rfl
  have g0_2:get a0 2 = .agg ([.int .i64 n,sv,.bool nl,lv,uv]:List Value).toArray:=by subst ha0;exact gAr rfl
  refine wT fun K1 hK1=>?_;refine wC (ZL (cs:=[fsv,.int .i64 fx]) (eK g0_0) ?_);rintro w2 f2 sz2 r2 th2;have hF3:Fr [] w w2:=f2;refine wC (ZL (cs:=[.int .i64 n,sv,.bool nl,lv,uv]) (eK g0_2) ?_);rintro w4 f4 sz4 r4 th4;have hF5:Fr [] w w4:=hF3.tr f4;have rb6:=f4.range r2 .nil;refine wC (wAs (v:=.slice none 0 0) rfl ?_);refine wEk hz0 hd0 fun a7 ha7 hz7 hd7=>?_;have g7_1:=kP ha7 g0_1;have g7_3:get a7 3 = .pointer (some ⟨w.heap.size,0,none⟩):=kG ha7 hz0;have g7_5:get a7 5 = .pointer (some ⟨w2.heap.size,0,none⟩):=kG ha7 hz0;refine hK1 a7 w4 (tUp ?_);refine tId (wp_seq_k fun K8 hK8=>?_);refine ZV ?_;refine gCn ?_;refine wFa (b:=w.heap.size) (i:=0) (hFlT31.fld (by decide)) (eK g7_3) ?_;rw[show (0+0:Nat)=0 from rfl];refine gCn ?_;refine wL0 (j:=0) (v:=fsv) hcT29 (eS hz7) rb6 rfl ?_;refine gCn ?_;refine wMv (v:=.int .i64 ver) (eK g7_1) ?_;refine gCn ?_;refine wFa (b:=w.heap.size) (i:=0) (hFlT31.fld (by decide)) (eK g7_3) ?_;rw[show (0+1:Nat)=1 from rfl];refine gCn ?_;refine wL0 (j:=1) (v:=.int .i64 fx) hcT3 (eS hz7) rb6 rfl ?_;refine gCn ?_;refine Z38 (k1:=.i64) (i:=fx) (j:=0) h1 (eS hz7) rfl ?_;refine gCn ?_;refine wMv (v:=.bool false) (eS hz7) ?_;refine Z00 (dj:=13) rfl (lZ hz7) (gS hz7) ?_;refine Z00 (dj:=13) rfl (lZ hz7) (gS hz7) ?_;refine Z00 (dj:=13) rfl (lZ hz7) (gS hz7) ?_;refine Z00 (dj:=13) rfl (lZ hz7) (gS hz7) ?_;refine gCn ?_;refine ZJ (v:=.bool false) (eS hz7) rfl ?_;refine gCn ?_;refine Z7 (cs:=[.int .i64 n,sv,.bool nl,lv,uv]) (b:=w2.heap.size) (o:=0) hFlT26 rfl (eK g7_5) r4 ?_;refine gCn ?_;refine wCr (R:=fun vz wz=>Fr [] w4 wz∧Own wz (From w4.heap.size wz) 1 vz (enc ver false (.mk n s nl l u)).length (Z0 (enc ver false (.mk n s nl l u)))) (vs:=#[fsv,.int .i64 ver,.bool false,.agg ([.int .i64 n,sv,.bool nl,lv,uv]:List Value).toArray]) hPa.enters (mX4 (eS hz7) (eS hz7) (eS hz7) (eS hz7)) (Za (hPa.call w4 A B fsv ver false _ (.mk n s nl l u) (hfs.kept hF5 (by simp) (fun _ h=>h)) (ht0.kept hF5 (by simp) (fun _ h=>h)) (fun b hb=>Nat.lt_of_lt_of_le (hA b hb) hF5.size) (fun b hb=>Nat.lt_of_lt_of_le (hB b hb) hF5.size) hlen)) ?_;rintro x9 w9 ⟨fr9,ow9⟩;have hF10:Fr [] w w9:=hF5.tr fr9;have rb11:=fr9.range rb6 .nil;have rb12:=fr9.range r4 .nil;refine gCn ?_;refine wAs (v:=x9) (eS hz7) ?_;refine Z0l fun a13 ha13=>?_;have hz13:=kS ha13 hz7;have hd13:=kD ha13 hd7;have g13_6:get a13 6=x9:=kG ha13 hz7;refine hK8 a13 w9 (tUp ?_);refine wp_ret ?_;exact ⟨hd13,_,rIs hres g13_6,_,rfl,hF10,ow9.from (by have:=hF5.size;omega)⟩
end Go.Kq

namespace Go.Kq
open Go Go.Proofs
def Z5D (g:Rd) (fl:Int→Bool) (ga:Int→V→List UInt8) (ver:Int) (xs:List UInt8):Option (List UInt8) :=
  match g ver (fl ver) ⟨xs,xs.isEmpty,false⟩ with
  | some (.l ys,st')=>if st'.bad then none else some (ga ver (.l (.n ver::ys)))
  | _=>none
theorem Z5U {P:Program} {fn:Func} {t t2:Nat} {a:Act} {w:World} {v v2:Value} (h:fn.results = #[.tmp t,.tmp t2]) (h1:get a t=v) (h2:get a t2=v2):(results fn a.tmps).run P w = .ok (.tuple #[v,v2]) w:=by
  subst h1 h2;simp[results,h,get]
end Go.Kq

namespace Go.Kq
open Go Go.Proofs
structure Fit3M (P:Program) (f:FuncId):Prop where
  enters:Enters P f
  call:∀ (w:World) (A:Nat→Prop) (k:Nat) (xv:Value) (x:List UInt8),OctE w A xv x→Calls P f #[.agg ([.int .u32 (k:Int),xv]:List Value).toArray] w fun e w'=>(∃ b:Bool,e = .returned (.bool b))∧Fr [] w w'
structure Fit2M (P:Program) (f:FuncId):Prop where
  enters:Enters P f
  call:∀ (w:World) (A:Nat→Prop) (v:Value) (u:List (Nat × List UInt8)),Z1V w A v u→Calls P f #[v] w fun e w'=>(∃ b:Bool,e = .returned (.bool b))∧Fr [] w w'
structure FitM (P:Program) (f:FuncId):Prop where
  enters:Enters P f
  call:∀ (w:World) (A:Nat→Prop) (ct:List Value) (t:T),RepT w A ct t→Calls P f #[.agg ct.toArray] w fun e w'=>(∃ b:Bool,e = .returned (.bool b))∧Fr [] w w'
theorem fits3_m {P:Program} {f:FuncId} {fn:Func} {T3 T22 T60:TypeId} {i0 i1 i2 i3:Nat} {t0 t1 t2 t3 t4 t5 t6 t7:TypeId} {p0 p1 p2 p3 p4 p5 p6 p7:String} {e0 e1 e2 e3 e4 e5 e6 e7:Array Edge} 
    (hf:P.funcs[f]?=some fn) (hname:nG fn=false) (hres:fn.results = #[.tmp 2]) (hN:fn.ntmps=7)
    (hbody:fn.body=some (.seq (Code.region i0 ⟨[⟨some 1,.box T60 (.tmp 0),t0,p0,e0,none⟩,
    oA 2 (.const (.bool false)) t1 p1 e1]⟩ false) (.seq (.seq (Code.region i1 ⟨[oF 3 T60 1 1 t2 p2 e2,
    oL 4 T22 3 t3 p3 e3,⟨some 5,.call ⟨.builtin .len,#[(.tmp 4)],#[T22]⟩,t4,p4,e4,none⟩,⟨some 6,.binOp .gtr T3 (.tmp 5) (.const (.int .i64 2147483647)) T3,t5,p5,e5,none⟩]⟩ false) (.cond (.tmp 6) (.seq (Code.region i2 ⟨[oA 2 (.const (.bool false)) t6 p6 e6]⟩ false) .ret) .skip)) (.seq (Code.region i3 ⟨[oA 2 (.const (.bool true)) t7 p7 e7]⟩ false) .ret))))
    (hFlT60:Flat P T60 zTag) (hcT22:scal P T22=true) (hsT22:slTy P T22=true) :Fit3M P f:=by
  refine ⟨enters_of hf hname hbody,?_⟩;intro w A k xv x ho;obtain ⟨q,cap,rfl,-,hl,-⟩:=ho.slice2;refine calls_of_wp hf hbody ?_;generalize ha0:({ tmps:=#[Value.agg ([.int .u32 (k:Int),.slice q x.length cap]:List Value).toArray]++Array.replicate (fn.ntmps - (#[Value.agg ([.int .u32 (k:Int),.slice q x.length cap]:List Value).toArray]:Array Value).size) undef,defers:=[] }:Act)=a0;have hz0:a0.tmps.size=7:=by subst ha0;simp[hN]
  have hd0:a0.defers=[]:=by subst ha0;rfl
  have g0_0:get a0 0 = .agg ([.int .u32 (k:Int),.slice q x.length cap]:List Value).toArray:=by subst ha0;exact gAr rfl
  refine wT fun K1 hK1=>?_;refine wC (ZL (cs:=[.int .u32 (k:Int),.slice q x.length cap]) (eK g0_0) ?_);rintro w2 f2 sz2 r2 th2;have hF3:Fr [] w w2:=f2;refine wC (wAs (v:=.bool false) rfl ?_);refine wEk hz0 hd0 fun a4 ha4 hz4 hd4=>?_;have g4_1:get a4 1 = .pointer (some ⟨w.heap.size,0,none⟩):=kG ha4 hz0;refine hK1 a4 w2 (tUp ?_);refine tId (wp_seq_k fun K5 hK5=>?_);refine wS fun K6 hK6=>?_;refine wC (wFa (b:=w.heap.size) (i:=0) (hFlT60.fld (by decide)) (eK g4_1) ?_);rw[show (0+1:Nat)=1 from rfl];refine wC (wL0 (j:=1) (v:=.slice q x.length cap) hcT22 (eS hz4) r2 rfl ?_);refine wC (Zs (n:=x.length) hsT22 (eS hz4) ?_);refine wC (Z2m (k1:=.i64) (i:=((x.length:Nat):Int)) (j:=2147483647) (eS hz4) rfl ?_);refine wEk hz4 hd4 fun a7 ha7 hz7 hd7=>?_;have g7_6:get a7 6 = .bool (decide ((((x.length:Nat):Int):Int) > (2147483647:Int))):=kG ha7 hz4;refine hK6 a7 w2 ?_;refine wp_cond_split (t:=decide ((((x.length:Nat):Int):Int) > (2147483647:Int))) (eK g7_6) (fun hc8=>?_) (fun hc8=>?_)
  · refine wp_seq_k fun K9 hK9=>?_;refine Z2 ?_;refine wC (wAs (v:=.bool false) rfl ?_);refine wEk hz7 hd7 fun a10 ha10 hz10 hd10=>?_;have g10_2:get a10 2 = .bool false:=kG ha10 hz7;refine hK9 a10 w2 ?_;refine wp_ret ?_;exact ⟨hd10,_,rIs hres g10_2,⟨_,rfl⟩,hF3⟩
  refine wp_skip ?_;refine hK5 a7 w2 (tUp ?_);refine wT fun K11 hK11=>?_;refine wC (wAs (v:=.bool true) rfl ?_);refine wEk hz7 hd7 fun a12 ha12 hz12 hd12=>?_;have g12_2:get a12 2 = .bool true:=kG ha12 hz7;refine hK11 a12 w2 (tUp ?_);refine wp_ret ?_;exact ⟨hd12,_,rIs hres g12_2,⟨_,rfl⟩,hF3⟩
theorem fits2_m {P:Program} {f:FuncId} {fn:Func} {T3 T4 T24 T60:TypeId} {f45:FuncId} {a0:Array TypeId} {i0 i1 i2 i3 i4 i5 i6 i7 i8 i9:Nat} {t0 t1 t2 t3 t4 t5 t6 t7 t8 t9 t10 t11 t12 t13 t14 t15 t16 t17 t18 t19:TypeId} {p0 p1 p2 p3 p4 p5 p6 p7 p8 p9 p10 p11 p12 p13 p14 p15 p16 p17 p18 p19:String} {e0 e1 e2 e3 e4 e5 e6 e7 e8 e9 e10 e11 e12 e13 e14 e15 e16 e17 e18 e19:Array Edge} {te:TypeId} {tb:Nat}
    (hf:P.funcs[f]?=some fn) (hname:nG fn=false) (hres:fn.results = #[.tmp 2]) (hN:fn.ntmps=18)
    (hbody:fn.body=some (.seq (Code.region i0 ⟨[oA 2 (.const (.bool false)) t0 p0 e0]⟩ false) (.seq (.seq (Code.region i1 ⟨[oM 5 0 t1 p1 e1,⟨some 6,.call ⟨.builtin .len,#[(.tmp 5)],#[T24]⟩,t2,p2,e2,none⟩,⟨some 7,.binOp .gtr T3 (.tmp 6) (.const (.int .i64 2147483647)) T3,t3,p3,e3,none⟩]⟩ false) (.cond (.tmp 7) (.seq (Code.region i2 ⟨[oA 2 (.const (.bool false)) t4 p4 e4]⟩ false) .ret) .skip)) (.seq (.seq (Code.region i3 ⟨[oM 8 0 t5 p5 e5,⟨some 9,.call ⟨.builtin .len,#[(.tmp 8)],#[T24]⟩,t6,p6,e6,none⟩,⟨some 10,.move (.const (.int .i64 0)),t7,p7,e7,none⟩]⟩ false) (.block 0 (.loop (.seq (Code.region i4 ⟨[⟨some 11,.binOp .lss T3 (.tmp 10) (.tmp 9) T3,t8,p8,e8,none⟩]⟩ false) (.seq (.cond (.tmp 11) .skip
  (.exit 0)) (.seq (.block 1 (.seq (Code.region i5 ⟨[⟨some 12,.indexAddr T24 (.tmp 8) (.tmp 10),t9,p9,e9,none⟩,
    oL 13 T60 12 t10 p10 e10,⟨some 4,.alloc T60,t11,p11,e11,none⟩,
    oS T60 4 13 t12 p12 e12]⟩ false) (.seq (Code.region i6 ⟨[oL 14 T60 4 t13 p13 e13,
    oC 15 f45 #[(.tmp 14)] a0 t14 p14 e14,⟨some 16,.unOp .not T4 (.tmp 15),t15,p15,e15,none⟩]⟩ false) (.cond (.tmp 16) (.seq (Code.region i7 ⟨[oA 2 (.const (.bool false)) t16 p16 e16]⟩ false) .ret) .skip))))
  (Code.region i8 ⟨[⟨some 17,.binOp .add T3 (.tmp 10) (.const (.int .i64 1)) T3,t17,p17,e17,none⟩,
    oM 10 17 t18 p18 e18]⟩ false))))))) (.seq (Code.region i9 ⟨[oA 2 (.const (.bool true)) t19 p19 e19]⟩ false) .ret)))))
    (hsT24:slTy P T24=true) (hs_T24:Z4 P T24 te 2 tb=true) (hFlT60:Flat P T60 zTag) (h3:Fit3M P f45):Fit2M P f:=by
  refine ⟨enters_of hf hname hbody,?_⟩;intro w A v u hu;obtain ⟨q,cap,rfl,-,hbig,hk⟩:=hu.sl2;refine calls_of_wp hf hbody ?_;generalize ha0:({ tmps:=#[Value.slice q u.length cap]++Array.replicate (fn.ntmps - (#[Value.slice q u.length cap]:Array Value).size) undef,defers:=[] }:Act)=a0;have hz0:a0.tmps.size=18:=by subst ha0;simp[hN]
  have hd0:a0.defers=[]:=by subst ha0;rfl
  have g0_0:get a0 0 = .slice q u.length cap:=by subst ha0;exact gAr rfl
  refine wT fun K1 hK1=>?_;refine wC (wAs (v:=.bool false) rfl ?_);refine wEk hz0 hd0 fun a2 ha2 hz2 hd2=>?_;have g2_0:=kP ha2 g0_0;refine hK1 a2 w (tUp ?_);refine tId (wp_seq_k fun K3 hK3=>?_);refine wS fun K4 hK4=>?_;refine wC (wMv (v:=.slice q u.length cap) (eK g2_0) ?_);refine wC (Zs (n:=u.length) hsT24 (eS hz2) ?_);refine wC (Z2m (k1:=.i64) (i:=((u.length:Nat):Int)) (j:=2147483647) (eS hz2) rfl ?_);refine wEk hz2 hd2 fun a5 ha5 hz5 hd5=>?_;have g5_0:=kP ha5 g2_0;have g5_7:get a5 7 = .bool (decide ((((u.length:Nat):Int):Int) > (2147483647:Int))):=kG ha5 hz2;refine hK4 a5 w ?_;refine wp_cond_split (t:=decide ((((u.length:Nat):Int):Int) > (2147483647:Int))) (eK g5_7) (fun hc6=>?_) (fun hc6=>?_)
  · refine wp_seq_k fun K7 hK7=>?_;refine Z2 ?_;refine wC (wAs (v:=.bool false) rfl ?_);refine wEk hz5 hd5 fun a8 ha8 hz8 hd8=>?_;have g8_2:get a8 2 = .bool false:=kG ha8 hz5;refine hK7 a8 w ?_;refine wp_ret ?_;exact ⟨hd8,_,rIs hres g8_2,⟨_,rfl⟩,Fr.refl _ _⟩
  refine wp_skip ?_;refine hK3 a5 w (tUp ?_);refine tId (wp_seq_k fun K9 hK9=>?_);refine wS fun K10 hK10=>?_;refine wC (wMv (v:=.slice q u.length cap) (eK g5_0) ?_);refine wC (Zs (n:=u.length) hsT24 (eS hz5) ?_);refine wC (wMv (v:=.int .i64 0) rfl ?_);refine wEk hz5 hd5 fun a11 ha11 hz11 hd11=>?_;have g11_8:get a11 8 = .slice q u.length cap:=kG ha11 hz5;have g11_9:get a11 9 = .int .i64 ((u.length:Nat):Int):=kG ha11 hz5;have g11_10:get a11 10 = .int .i64 0:=kG ha11 hz5;refine hK10 a11 w ?_;refine wp_block (wp_loop_ghost (fun (m:Nat) a' w'=>∃ (j:Nat),a'.tmps.size=18∧a'.defers=[]∧get a' 8 = .slice q u.length cap∧get a' 9 = .int .i64 (u.length:Int)∧get a' 10 = .int .i64 (j:Int)∧j+m=u.length∧Fr [] w w') u.length ?_ ?_)
  · exact ⟨0,hz11,hd11,g11_8,g11_9,g11_10,by omega,Fr.refl _ _⟩
  rintro m a12 w12 ⟨j,hz12,hd12,g12_8,g12_9,g12_10,hjm,hfw⟩;refine wS fun K13 hK13=>?_;refine wC (Z0g (k1:=.i64) (i:=(j:Int)) (j:=(u.length:Int)) (eK g12_10) (eK g12_9) ?_);refine wEk hz12 hd12 fun a14 ha14 hz14 hd14=>?_;have g14_8:=kP ha14 g12_8;have g14_9:=kP ha14 g12_9;have g14_10:=kP ha14 g12_10;have g14_11:get a14 11 = .bool (decide (((j:Int):Int) < ((u.length:Int):Int))):=kG ha14 hz12;refine hK13 a14 w12 ?_;refine wp_seq_k fun K15 hK15=>?_;refine wp_cond_split (t:=decide (((j:Int):Int) < ((u.length:Int):Int))) (eK g14_11) (fun hc16=>?_) (fun hc16=>?_)
  · have hjl : j < u.length := by simp at hc16; omega
    obtain ⟨k,x,hkx⟩:∃ k x,u[j]?=some (k,x):=⟨(u[j]).1,(u[j]).2,by simp[hjl]⟩;obtain ⟨bl,ol,xv,hq,hbl,hk32,hrl,hox⟩:=hk j k x hkx;refine wp_skip ?_;refine hK15 a14 w12 ?_;refine wp_seq_k fun K17 hK17=>?_;refine Zj ?_;refine wS fun K18 hK18=>?_;refine wC (Z10 (b:=bl) (o:=ol) (i:=j) hs_T24 (by rw[eTm,g14_8,hq]) (eK g14_10) hjl ?_);refine wC (Z7 (cs:=[.int .u32 (k:Int),xv]) (b:=bl) (o:=ol+j * 2) hFlT60 rfl (eS hz14) (hfw.range hrl .nil) ?_);refine wC (Z0w hFlT60 ?_);rintro w19 f19 sz19 r19 th19;have hF20:Fr [] w w19:=hfw.tr f19;refine wC (Z0f (cs:=[.int .u32 (k:Int),xv]) (o:=0) hFlT60 rfl (eS hz14) (eS hz14) (by intro u hu;simp at hu;rcases hu with rfl | rfl;rfl;exact hox.one) th19 ?_);rintro w21 f21 sz21 r21 th21;have hF21:Fr [] w w21:=hF20.trans f21 (fun r hr=>.inl (by simp at hr;subst hr;have:=hfw.size;simp only;omega));refine wEk hz14 hd14 fun a22 ha22 hz22 hd22=>?_;have g22_4:get a22 4 = .pointer (some ⟨w12.heap.size,0,none⟩):=kG ha22 hz14;have g22_8:=kP ha22 g14_8;have g22_9:=kP ha22 g14_9;have g22_10:=kP ha22 g14_10;refine hK18 a22 w21 ?_;refine wS fun K23 hK23=>?_;refine wC (Z7 (cs:=[.int .u32 (k:Int),xv]) (b:=w12.heap.size) (o:=0) hFlT60 rfl (eK g22_4) r21 ?_);refine wC (wCr (R:=fun vz wz=>(∃ b:Bool,vz = .bool b)∧Fr [] w21 wz) (vs:=#[.agg ([.int .u32 (k:Int),xv]:List Value).toArray]) h3.enters (mX1 (eS hz22)) ((h3.call w21 A k xv x (hox.kept hF21 (by simp) (fun _ h=>h))).mono (by rintro e wz ⟨⟨b,rfl⟩,h⟩;exact ⟨_,rfl,⟨b,rfl⟩,h⟩)) ?_);rintro _ w24 ⟨⟨bb,rfl⟩,fr24⟩;have hF25:Fr [] w w24:=hF21.tr fr24;have rb26:=fr24.range r21 .nil;refine wC (Z3n (b:=bb) (eS hz22) ?_);refine wEk hz22 hd22 fun a27 ha27 hz27 hd27=>?_;have g27_8:=kP ha27 g22_8;have g27_9:=kP ha27 g22_9;have g27_10:=kP ha27 g22_10;have g27_16:get a27 16 = .bool (!bb):=kG ha27 hz22;refine hK23 a27 w24 ?_;refine wp_cond_split (t := !bb) (eK g27_16) (fun hc28=>?_) (fun hc28=>?_)
    · refine wp_seq_k fun K29 hK29=>?_;refine Z2 ?_;refine wC (wAs (v:=.bool false) rfl ?_);refine wEk hz27 hd27 fun a30 ha30 hz30 hd30=>?_;have g30_2:get a30 2 = .bool false:=kG ha30 hz27;refine hK29 a30 w24 ?_;refine wp_ret ?_;exact ⟨hd30,_,rIs hres g30_2,⟨_,rfl⟩,hF25⟩
    refine wp_skip ?_;refine hK17 a27 w24 ?_;refine Z2 ?_;refine wC (ZF (k1:=.i64) (i:=(j:Int)) (j:=1) (eK g27_10) rfl ?_);rw[show (IntKind.i64.wrap (((j:Int):Int)+(1:Int)):Int)=(((j+1:Nat):Int):Int) from by simp only[IntKind.wrap,IntKind.bits,IntKind.signed];simp;omega];refine wC (wMv (v:=.int .i64 ((j+1:Nat):Int)) (eS hz27) ?_);refine wEk hz27 hd27 fun a31 ha31 hz31 hd31=>?_;have g31_8:=kP ha31 g27_8;have g31_9:=kP ha31 g27_9;have g31_10:get a31 10 = .int .i64 ((j+1:Nat):Int):=kG ha31 hz27;exact ⟨m - 1,by omega,j+1,hz31,hd31,g31_8,g31_9,g31_10,by omega,hF25⟩
  refine wp_exit ?_;show K9 a14 w12
  refine hK9 a14 w12 (tUp ?_);refine wT fun K32 hK32=>?_;refine wC (wAs (v:=.bool true) rfl ?_);refine wEk hz14 hd14 fun a33 ha33 hz33 hd33=>?_;have g33_2:get a33 2 = .bool true:=kG ha33 hz14;refine hK32 a33 w12 (tUp ?_);refine wp_ret ?_;exact ⟨hd33,_,rIs hres g33_2,⟨_,rfl⟩,hfw⟩
theorem fits1_m {P:Program} {f:FuncId} {fn:Func} {T3 T4 T22 T23 T24 T26:TypeId} {f23:FuncId} {a0:Array TypeId} {i0 i1 i2 i3 i4 i5 i6 i7:Nat} {t0 t1 t2 t3 t4 t5 t6 t7 t8 t9 t10 t11 t12 t13 t14 t15 t16 t17:TypeId} {p0 p1 p2 p3 p4 p5 p6 p7 p8 p9 p10 p11 p12 p13 p14 p15 p16 p17:String} {e0 e1 e2 e3 e4 e5 e6 e7 e8 e9 e10 e11 e12 e13 e14 e15 e16 e17:Array Edge} 
    (hf:P.funcs[f]?=some fn) (hname:nG fn=false) (hres:fn.results = #[.tmp 2]) (hN:fn.ntmps=15)
    (hbody:fn.body=some (.seq (Code.region i0 ⟨[⟨some 1,.box T26 (.tmp 0),t0,p0,e0,none⟩,
    oA 2 (.const (.bool false)) t1 p1 e1]⟩ false) (.seq (.seq (Code.region i1 ⟨[oF 3 T26 1 1 t2 p2 e2,
    oL 4 T22 3 t3 p3 e3,⟨some 5,.call ⟨.builtin .len,#[(.tmp 4)],#[T22]⟩,t4,p4,e4,none⟩,⟨some 6,.binOp .gtr T3 (.tmp 5) (.const (.int .i64 2147483647)) T3,t5,p5,e5,none⟩]⟩ false) (.cond (.tmp 6) (.seq (Code.region i2 ⟨[oA 2 (.const (.bool false)) t6 p6 e6]⟩ false) .ret) .skip)) (.seq (.seq (Code.region i3 ⟨[oF 7 T26 1 3 t7 p7 e7,
    oL 8 T23 7 t8 p8 e8,⟨some 9,.call ⟨.builtin .len,#[(.tmp 8)],#[T23]⟩,t9,p9,e9,none⟩,⟨some 10,.binOp .gtr T3 (.tmp 9) (.const (.int .i64 2147483647)) T3,t10,p10,e10,none⟩]⟩ false) (.cond (.tmp 10) (.seq (Code.region i4 ⟨[oA 2 (.const (.bool false)) t11 p11 e11]⟩ false) .ret) .skip)) (.seq (.seq (Code.region i5 ⟨[oF 11 T26 1 4 t12 p12 e12,
    oL 12 T24 11 t13 p13 e13,
    oC 13 f23 #[(.tmp 12)] a0 t14 p14 e14,⟨some 14,.unOp .not T4 (.tmp 13),t15,p15,e15,none⟩]⟩ false) (.cond (.tmp 14) (.seq (Code.region i6 ⟨[oA 2 (.const (.bool false)) t16 p16 e16]⟩ false) .ret) .skip)) (.seq (Code.region i7 ⟨[oA 2 (.const (.bool true)) t17 p17 e17]⟩ false) .ret))))))
    (hFlT26:Flat P T26 zT) (hcT22:scal P T22=true) (hsT22:slTy P T22=true) (hcT23:scal P T23=true) (hsT23:slTy P T23=true) (hcT24:scal P T24=true) (h2:Fit2M P f23):FitM P f:=by
  refine ⟨enters_of hf hname hbody,?_⟩;intro w A ct t ht
  cases t with
  | mk n s nl l u =>
  obtain ⟨sv,lv,uv,rfl,hn,hs,hl,hu⟩:=Z0x.1 ht;obtain ⟨q,cap,rfl,-,-,-⟩:=hs.slice2;obtain ⟨lq,lcap,rfl⟩:=hl.slice;refine calls_of_wp hf hbody ?_;generalize ha0:({ tmps:=#[Value.agg ([.int .i64 n,.slice q s.length cap,.bool nl,.slice lq l.length lcap,uv]:List Value).toArray]++Array.replicate (fn.ntmps - (#[Value.agg ([.int .i64 n,.slice q s.length cap,.bool nl,.slice lq l.length lcap,uv]:List Value).toArray]:Array Value).size) undef,defers:=[] }:Act)=a0;have hz0:a0.tmps.size=15:=by subst ha0;simp[hN]
  have hd0:a0.defers=[]:=by subst ha0;rfl
  have g0_0:get a0 0 = .agg ([.int .i64 n,.slice q s.length cap,.bool nl,.slice lq l.length lcap,uv]:List Value).toArray:=by subst ha0;exact gAr rfl
  refine wT fun K1 hK1=>?_;refine wC (ZL (cs:=[.int .i64 n,.slice q s.length cap,.bool nl,.slice lq l.length lcap,uv]) (eK g0_0) ?_);rintro w2 f2 sz2 r2 th2;have hF3:Fr [] w w2:=f2;refine wC (wAs (v:=.bool false) rfl ?_);refine wEk hz0 hd0 fun a4 ha4 hz4 hd4=>?_;have g4_1:get a4 1 = .pointer (some ⟨w.heap.size,0,none⟩):=kG ha4 hz0;refine hK1 a4 w2 (tUp ?_);refine tId (wp_seq_k fun K5 hK5=>?_);refine wS fun K6 hK6=>?_;refine wC (wFa (b:=w.heap.size) (i:=0) (hFlT26.fld (by decide)) (eK g4_1) ?_);rw[show (0+1:Nat)=1 from rfl];refine wC (wL0 (j:=1) (v:=.slice q s.length cap) hcT22 (eS hz4) r2 rfl ?_);refine wC (Zs (n:=s.length) hsT22 (eS hz4) ?_);refine wC (Z2m (k1:=.i64) (i:=((s.length:Nat):Int)) (j:=2147483647) (eS hz4) rfl ?_);refine wEk hz4 hd4 fun a7 ha7 hz7 hd7=>?_;have g7_1:=kP ha7 g4_1;have g7_6:get a7 6 = .bool (decide ((((s.length:Nat):Int):Int) > (2147483647:Int))):=kG ha7 hz4;refine hK6 a7 w2 ?_;refine wp_cond_split (t:=decide ((((s.length:Nat):Int):Int) > (2147483647:Int))) (eK g7_6) (fun hc8=>?_) (fun hc8=>?_)
  · refine wp_seq_k fun K9 hK9=>?_;refine Z2 ?_;refine wC (wAs (v:=.bool false) rfl ?_);refine wEk hz7 hd7 fun a10 ha10 hz10 hd10=>?_;have g10_2:get a10 2 = .bool false:=kG ha10 hz7;refine hK9 a10 w2 ?_;refine wp_ret ?_;exact ⟨hd10,_,rIs hres g10_2,⟨_,rfl⟩,hF3⟩
  refine wp_skip ?_;refine hK5 a7 w2 (tUp ?_);refine tId (wp_seq_k fun K11 hK11=>?_);refine wS fun K12 hK12=>?_;refine wC (wFa (b:=w.heap.size) (i:=0) (hFlT26.fld (by decide)) (eK g7_1) ?_);rw[show (0+3:Nat)=3 from rfl];refine wC (wL0 (j:=3) (v:=.slice lq l.length lcap) hcT23 (eS hz7) r2 rfl ?_);refine wC (Zs (n:=l.length) hsT23 (eS hz7) ?_);refine wC (Z2m (k1:=.i64) (i:=((l.length:Nat):Int)) (j:=2147483647) (eS hz7) rfl ?_);refine wEk hz7 hd7 fun a13 ha13 hz13 hd13=>?_;have g13_1:=kP ha13 g7_1;have g13_10:get a13 10 = .bool (decide ((((l.length:Nat):Int):Int) > (2147483647:Int))):=kG ha13 hz7;refine hK12 a13 w2 ?_;refine wp_cond_split (t:=decide ((((l.length:Nat):Int):Int) > (2147483647:Int))) (eK g13_10) (fun hc14=>?_) (fun hc14=>?_)
  · refine wp_seq_k fun K15 hK15=>?_;refine Z2 ?_;refine wC (wAs (v:=.bool false) rfl ?_);refine wEk hz13 hd13 fun a16 ha16 hz16 hd16=>?_;have g16_2:get a16 2 = .bool false:=kG ha16 hz13;refine hK15 a16 w2 ?_;refine wp_ret ?_;exact ⟨hd16,_,rIs hres g16_2,⟨_,rfl⟩,hF3⟩
  refine wp_skip ?_;refine hK11 a13 w2 (tUp ?_);refine tId (wp_seq_k fun K17 hK17=>?_);refine wS fun K18 hK18=>?_;refine wC (wFa (b:=w.heap.size) (i:=0) (hFlT26.fld (by decide)) (eK g13_1) ?_);rw[show (0+4:Nat)=4 from rfl];refine wC (wL0 (j:=4) (v:=uv) hcT24 (eS hz13) r2 rfl ?_);refine wC (wCr (R:=fun vz wz=>(∃ b:Bool,vz = .bool b)∧Fr [] w2 wz) (vs:=#[uv]) h2.enters (mX1 (eS hz13)) ((h2.call w2 A _ u (hu.kept hF3 (by simp) (fun _ h=>h))).mono (by rintro e wz ⟨⟨b,rfl⟩,h⟩;exact ⟨_,rfl,⟨b,rfl⟩,h⟩)) ?_);rintro _ w19 ⟨⟨bb,rfl⟩,fr19⟩;have hF20:Fr [] w w19:=hF3.tr fr19;have rb21:=fr19.range r2 .nil;refine wC (Z3n (b:=bb) (eS hz13) ?_);refine wEk hz13 hd13 fun a22 ha22 hz22 hd22=>?_;have g22_14:get a22 14 = .bool (!bb):=kG ha22 hz13;refine hK18 a22 w19 ?_;refine wp_cond_split (t := !bb) (eK g22_14) (fun hc23=>?_) (fun hc23=>?_)
  · refine wp_seq_k fun K24 hK24=>?_;refine Z2 ?_;refine wC (wAs (v:=.bool false) rfl ?_);refine wEk hz22 hd22 fun a25 ha25 hz25 hd25=>?_;have g25_2:get a25 2 = .bool false:=kG ha25 hz22;refine hK24 a25 w19 ?_;refine wp_ret ?_;exact ⟨hd25,_,rIs hres g25_2,⟨_,rfl⟩,hF20⟩
  refine wp_skip ?_;refine hK17 a22 w19 (tUp ?_);refine wT fun K26 hK26=>?_;refine wC (wAs (v:=.bool true) rfl ?_);refine wEk hz22 hd22 fun a27 ha27 hz27 hd27=>?_;have g27_2:get a27 2 = .bool true:=kG ha27 hz22;refine hK26 a27 w19 (tUp ?_);refine wp_ret ?_;exact ⟨hd27,_,rIs hres g27_2,⟨_,rfl⟩,hF20⟩
end Go.Kq

namespace Go.Kq
open Go Go.Proofs
theorem Z7q {P:Program} {a:Act} {w:World} {K:Act→World→Prop} {Q:Exit→Act→World→Prop} {d:Option Tmp} {t:TypeId} {p:String} {af:Array Edge} {g:Option (Nat × Bool)} {T e sz bs:Nat} (hT:Z4 P T e sz bs=true)
    (k:∀ w',Fr [] w w'→Own w' (From w.heap.size w') 1 (.slice (some ⟨w.heap.size,0,none⟩) 0 0) ([]:List UInt8).length (Z0 [])→K (a.put d (.slice (some ⟨w.heap.size,0,none⟩) 0 0)) w'):OW P ⟨d,.buildSlice T 0 #[],t,p,af,g⟩ a w K Q:=by
  obtain ⟨hu,i,z0,hi,hs,hby,hzz,hsz0⟩:=Zu hT;refine Zf (v:=.slice (some ⟨w.heap.size,0,none⟩) 0 0) (w':=w.alloc (.cells #[] e)) ?_ (k _ (Fr.alloc _ _ _) ?_)
  · simp [execOp, Instr.buildSlice, run_underlying hu, sizeOf, typeInfo, hi, Instr.fill, newRow]
    congr 2
    exact Array.eq_empty_of_size_eq_zero (by simp)
  exact ⟨rfl,.inr ⟨w.heap.size,0,0,⟨Nat.le_refl _,by rw[Zd];omega⟩,rfl,Nat.le_refl _,by simp[maxLen],Z3V,fun j hj=>absurd hj (by simp)⟩⟩
structure LawB (P:Program) (ge:Nat) (f:FuncId) (small:T→Prop):Prop where
  enters:Enters P f
  call:∀ (w:World) (n:Nat) (A B:Nat→Prop) (dv:Value) (dxs:List UInt8) (ct:List Value) (t:T) (er:Value) (ty:TypeId) (u:Value),n < 256→OctE w A dv dxs→dxs.length≤1048576→RepT w B ct t→(∀ b,A b→b < w.heap.size)→(∀ b,B b→b < w.heap.size) →
    w.cell? ⟨ge,0,none⟩=some er→er = .iface ty u→small t→Calls P f #[.int .u8 (n:Int),dv,.agg ct.toArray] w fun e w'=>e = .returned (.bool true)∧Fr [] w w'
end Go.Kq

namespace Go.Kq
open Go Go.Proofs
structure Z8z (P:Program) (f:FuncId):Prop where
  enters:Enters P f
  call:∀ w v1 v2 s s2 A1 A2,OctE w A1 v1 s→OctE w A2 v2 s2→s2.length=s.length→Calls P f #[v1,v2] w fun e w'=>e = .returned (.bool (decide (s=s2)))∧Fr [] w w'
theorem samed_m {P:Program} {f:FuncId} {fn:Func} {TS TE et bs:TypeId} {T1 T2 T3 T4 T5 T6 T7 T8:TypeId} {i0 i1 i2 i3 i4 i5 i6 i7 i8 i9:Nat}
    {t0 t1 t2 t3 t4 t5 t6 t7 t8 t9 t10 t11 t12 t13 t14 t15 t16 t17 t18 t19 t20 t21 t22 t23 t24 t25:TypeId}
    {p0 p1 p2 p3 p4 p5 p6 p7 p8 p9 p10 p11 p12 p13 p14 p15 p16 p17 p18 p19 p20 p21 p22 p23 p24 p25:String}
    {e0 e1 e2 e3 e4 e5 e6 e7 e8 e9 e10 e11 e12 e13 e14 e15 e16 e17 e18 e19 e20 e21 e22 e23 e24 e25:Array Edge}
    (hmx:P.follows .mixedOrders=true) (hf:P.funcs[f]?=some fn) (hname:nG fn=false) (hres:fn.results = #[.tmp 4]) (hN:fn.ntmps=26)
    (hbody:fn.body=some (.seq (Code.region i0 ⟨[oA 4 (.const (.bool false)) t0 p0 e0]⟩ false) (.seq (.seq (Code.region i1 ⟨[oM 6 0 t1 p1 e1,⟨some 7,.call ⟨.builtin .len,#[.tmp 6],#[TS]⟩,t2,p2,e2,none⟩,oM 8 1 t3 p3 e3,⟨some 9,.call ⟨.builtin .len,#[.tmp 8],#[TS]⟩,t4,p4,e4,none⟩,⟨some 10,.binOp .neq T1 (.tmp 7) (.tmp 9) T2,t5,p5,e5,none⟩]⟩ false) (.cond (.tmp 10) (.seq (Code.region i2 ⟨[oA 4 (.const (.bool false)) t6 p6 e6]⟩ false) .ret) .skip)) (.seq (.seq (Code.region i3 ⟨[oM 11 0 t7 p7 e7,⟨some 12,.call ⟨.builtin .len,#[.tmp 11],#[TS]⟩,t8,p8,e8,none⟩,⟨some 13,.move (.const (.int .i64 0)),t9,p9,e9,none⟩]⟩ false) (.block 0 (.loop (.seq (Code.region i4 ⟨[⟨some 14,.binOp .lss T3 (.tmp 13) (.tmp 12) T4,t10,p10,e10,none⟩]⟩ false) (.seq (.cond (.tmp 14) .skip (.exit 0)) (.seq (.block 1 (.seq (Code.region i5 ⟨[oM 15 13 t11 p11 e11,oT 5 15 t12 p12 e12]⟩ false) (.seq (Code.region i6 ⟨[oM 16 0 t13 p13 e13,oM 17 5 t14 p14 e14,⟨some 18,.indexAddr TS (.tmp 16) (.tmp 17),t15,p15,e15,none⟩,oL 19 TE 18 t16 p16 e16,
                        oM 20 1 t17 p17 e17,oM 21 5 t18 p18 e18,⟨some 22,.indexAddr TS (.tmp 20) (.tmp 21),t19,p19,e19,none⟩,oL 23 TE 22 t20 p20 e20,⟨some 24,.binOp .neq T5 (.tmp 19) (.tmp 23) T6,t21,p21,e21,none⟩]⟩ true) (.cond (.tmp 24) (.seq (Code.region i7 ⟨[oA 4 (.const (.bool false)) t22 p22 e22]⟩ false) .ret) .skip))))
                  (Code.region i8 ⟨[⟨some 25,.binOp .add T7 (.tmp 13) (.const (.int .i64 1)) T8,t23,p23,e23,none⟩,oM 13 25 t24 p24 e24]⟩ false))))))) (.seq (Code.region i9 ⟨[oA 4 (.const (.bool true)) t25 p25 e25]⟩ false) .ret)))))
    (hTS:Z4 P TS et 1 bs=true) (hTE:scal P TE=true)
    (he:Z0q 0 [e13,e14,e15,e16,e17,e18,e19,e20,e21] [[],[],[0,1],[2],[],[],[4,5],[6],[3,7]]=true):Z8z P f:=by
  refine ⟨enters_of hf hname hbody,?_⟩;intro w v1 v2 s s2 A1 A2 h1 h2 hl2;have hlen:=h1.big;obtain ⟨q1,c1,rfl,hq1⟩:=h1.slice;obtain ⟨q2,c2,hv2,hq2⟩:=h2.slice;rw[hl2] at hv2;subst hv2;refine calls_of_wp hf hbody ?_;generalize ha0:({ tmps:=#[Value.slice q1 s.length c1,Value.slice q2 s.length c2]++Array.replicate (fn.ntmps - #[Value.slice q1 s.length c1,Value.slice q2 s.length c2].size) undef,defers:=[] }:Act)=a0;have hsz:a0.tmps.size=26:=by subst ha0;simp[hN]
  have hd0:a0.defers=[]:=by subst ha0;rfl
  have g0:get a0 0 = .slice q1 s.length c1:=by subst ha0;exact gAr rfl
  have g1:get a0 1 = .slice q2 s.length c2:=by subst ha0;exact gAr rfl
  refine tId (wp_seq_k fun K1 hK1=>?_);refine ZA (m:=4) (by omega) (by omega) fun a1 k1 _=>hK1 a1 w (tUp ?_);have hz1:=k1.size;refine tId (wp_seq_k fun K2 hK2=>?_);refine wS fun K3 hK3=>?_;rw[wCo,wMw,eTm,k1.get 0 (by omega),g0,wCo];refine Z1q hTS (by rw[eTm,gQ]) ?_;rw[wCo,wMw,eTm,gR,gR,k1.get 1 (by omega),g1,wCo];refine Z1q hTS (by rw[eTm,gQ]) ?_;refine wC (Z4i (k1:=.i64) (i:=s.length) (j:=s.length) (by rw[eTm,gR,gR,gQ]) (by rw[eTm,gQ]) ?_);rw[wNi];generalize ha2:(((((a1.put (some 6) (.slice q1 s.length c1)).put (some 7) (.int .i64 s.length)).put (some 8) (.slice q2 s.length c2)).put (some 9) (.int .i64 s.length)).put (some 10) (.bool ((s.length:Int) != s.length)))=a2;have k2:Kept 6 a1 a2:=by subst ha2;exact (((((Kept.put0 (by omega) _).pt).pt).pt).pt)
  have g10:get a2 10 = .bool false:=by subst ha2;rw[gQ];simp
  have hz2:=k2.size;refine hK3 a2 w ?_;refine wp_cond_split (t:=false) (by rw[eTm,g10]) (fun h=>by cases h) fun _=>wp_skip (hK2 a2 w (tUp ?_));have kk2:Kept 4 a0 a2:=k1.trans (k2.mono (by omega));refine tId (wp_seq_k fun K4 hK4=>?_);refine wS fun K5 hK5=>?_;rw[wCo,wMw,eTm,kk2.get 0 (by omega),g0,wCo];refine Z1q hTS (by rw[eTm,gQ]) ?_;rw[wCo,wMw,eCo,wNi];generalize ha3:((a2.put (some 11) (.slice q1 s.length c1)).put (some 12) (.int .i64 s.length)).put (some 13) (.int .i64 0)=a3;have k3:Kept 6 a2 a3:=by subst ha3;exact ((Kept.put0 (by omega) _).pt).pt
  have g12:get a3 12 = .int .i64 s.length:=by subst ha3;rw[gR,gQ]
  have g13:get a3 13 = .int .i64 0:=by subst ha3;rw[gQ]
  have hz3:=k3.size;refine hK5 a3 w ?_;refine wp_block (wp_loop (fun a' w'=>∃ j:Nat,j≤s.length∧s.take j=s2.take j∧Kept 4 a0 a'∧get a' 12 = .int .i64 s.length∧get a' 13 = .int .i64 j∧Fr [] w w') (fun a' _=>s.length - Z3i (get a' 13)) ?_ ?_)
  · exact ⟨0,Nat.zero_le _,by simp,kk2.trans (k3.mono (by omega)),g12,g13,Fr.refl _ _⟩
  rintro a4 w4 ⟨j,hj,htk,k4,gl,gi,f4⟩;have hz4:=k4.size;refine wS fun K6 hK6=>?_;refine wC (Z0g (k1:=.i64) (i:=j) (j:=s.length) (by rw[eTm,gi]) (by rw[eTm,gl]) ?_);rw[wNi];generalize ha5:a4.put (some 14) (.bool (decide ((j:Int) < s.length)))=a5;have k5:Kept 14 a4 a5:=by subst ha5;exact Kept.put0 (Nat.le_refl _) _
  have g14:get a5 14 = .bool (decide ((j:Int) < s.length)):=by subst ha5;exact gQ
  have hz5:=k5.size;refine hK6 a5 w4 ?_;refine wp_seq_k fun K7 hK7=>?_;refine wp_cond_split (t:=decide ((j:Int) < s.length)) (by rw[eTm,g14]) ?_ ?_
  · intro hlt;have hjl : j < s.length := by simpa using hlt
    refine wp_skip (hK7 a5 w4 ?_);refine wp_seq_k fun K8 hK8=>?_;obtain ⟨b1,o1,rfl,hr1⟩:=hq1 (by omega);obtain ⟨b2,o2,rfl,hr2⟩:=hq2 (by omega);have hjl2:j < s2.length:=by omega
    refine wp_block (wp_mono (show Code.wp P _ (Exit.then K8 (Exit.inBlock 1 (Exit.then K8 _))) a5 w4 from ?_) (fun _ _ _=>Z0a));refine wS fun K9 hK9=>?_;rw[wCo,wMw,eTm,k5.get 13 (by omega),gi,wCo,wAg,eTm,gQ,wNi];generalize ha6:(a5.put (some 15) (.int .i64 j)).put (some 5) (.int .i64 j)=a6;have k6:Kept 4 a4 a6:=by subst ha6;exact (k5.mono (by omega)).trans ((Kept.put0 (by omega) _).pt)
    have g5:get a6 5 = .int .i64 j:=by subst ha6;exact gQ
    have g12':get a6 12 = .int .i64 s.length:=by subst ha6;rw[gR,gR,k5.get 12 (by omega),gl]
    have g13':get a6 13 = .int .i64 j:=by subst ha6;rw[gR,gR,k5.get 13 (by omega),gi]
    have hz6:=k6.size;have kk6:=k4.trans k6;refine hK9 a6 w4 ?_;refine wp_seq_k fun K10 hK10=>?_;refine Z0k [spC [] (.slice (some ⟨b1,o1,none⟩) s.length c1),spC [] (.int .i64 j),spC [0,1] (.pointer (some ⟨b1,o1+(j:Int).toNat * 1,none⟩)),spC [2] (.int .u8 (s[j]).toNat),
      spC [] (.slice (some ⟨b2,o2,none⟩) s.length c2),spC [] (.int .i64 j),spC [4,5] (.pointer (some ⟨b2,o2+(j:Int).toNat * 1,none⟩)),spC [6] (.int .u8 (s2[j]).toNat),spC [3,7] (.bool (((s[j]).toNat:Int) != ((s2[j]).toNat:Int)))] 16 [] hmx he (by simp[Z0R]) (by simp[spC]) (by simp;omega)
      ⟨lCc _ _ _,lCc _ _ _,lCc _ _ _,lCc _ _ _,lCc _ _ _,lCc _ _ _,lCc _ _ _,lCc _ _ _,lCc _ _ _,trivial⟩ ?_ ?_
    · refine ⟨op_c fun a' w' hk' hf' hd' K' hK'=>?_,op_c fun a' w' hk' hf' hd' K' hK'=>?_,op_c fun a' w' hk' hf' hd' K' hK'=>?_,op_c fun a' w' hk' hf' hd' K' hK'=>?_,op_c fun a' w' hk' hf' hd' K' hK'=>?_,
        op_c fun a' w' hk' hf' hd' K' hK'=>?_,op_c fun a' w' hk' hf' hd' K' hK'=>?_,op_c fun a' w' hk' hf' hd' K' hK'=>?_,op_c fun a' w' hk' hf' hd' K' hK'=>?_,trivial⟩
      · rw[wMw,eTm,hk'.get 0 (by omega),kk6.get 0 (by omega),g0];exact hK'
      · rw[wMw,eTm,hk'.get 5 (by omega),g5];exact hK'
      · exact Zw hTS (by rw[eTm];exact hd'.c 0 (by simp) rfl) (by rw[eTm];exact hd'.c 1 (by simp) rfl) (by omega) (by omega) hK'
      · refine Zn hTE (by rw [eTm]; exact hd'.c 2 (by simp) rfl) ?_ hK';have := Z1w ((f4.tr hf').range hr1 .nil) hjl
        simpa using this
      · rw[wMw,eTm,hk'.get 1 (by omega),kk6.get 1 (by omega),g1];exact hK'
      · rw[wMw,eTm,hk'.get 5 (by omega),g5];exact hK'
      · exact Zw hTS (by rw[eTm];exact hd'.c 4 (by simp) rfl) (by rw[eTm];exact hd'.c 5 (by simp) rfl) (by omega) (by omega) hK'
      · refine Zn hTE (by rw [eTm]; exact hd'.c 6 (by simp) rfl) ?_ hK';have := Z1w ((f4.tr hf').range hr2 .nil) hjl2
        simpa using this
      refine Z4i (k1:=.u8) (by rw[eTm];exact hd'.c 3 (by simp) rfl) (by rw[eTm];exact hd'.c 7 (by simp) rfl) ?_;exact hK'
    intro a7 w7 k7 f7 hd7;have g24:get a7 24 = .bool (((s[j]).toNat:Int) != ((s2[j]).toNat:Int)):=hd7.c (nd':=[3,7]) 8 (by simp) rfl;refine hK10 a7 w7 ?_;refine wp_cond_split (t:=((s[j]).toNat:Int) != ((s2[j]).toNat:Int)) (by rw[eTm,g24]) (fun hne=>?_) fun heq=>wp_skip (hK8 a7 w7 ?_)
    · have hz7:=k7.size;refine wp_seq_k fun K12 hK12=>?_;refine ZA (m:=4) (by omega) (by omega) fun a8 k8 g8=>hK12 a8 w7 ?_;refine wp_ret ?_;refine ⟨by rw[k8.defers,k7.defers,kk6.defers,hd0],_,Z6 hres,?_,f4.tr f7⟩;rw[g8,decide_eq_false];intro e;subst e;simp at hne
    have hsj:s[j]=s2[j]:=by
      have:((s[j]).toNat:Int)=((s2[j]).toNat:Int):=by simpa using heq
      exact UInt8.toNat.inj (by omega)
    have htk':s.take (j+1)=s2.take (j+1):=by rw[List.take_succ_eq_append_getElem hjl,List.take_succ_eq_append_getElem hjl2,htk,hsj]
    have hz7:=k7.size;refine Z2 ?_;refine wC (ZF (k1:=.i64) (i:=j) (j:=1) (by rw[eTm,k7.get 13 (by omega),g13']) rfl ?_);rw[wCo,wMw,eTm,gQ,wNi];have hwr:IntKind.i64.wrap ((j:Int)+1)=((j+1:Nat):Int):=by
      simp[IntKind.wrap,IntKind.bits,IntKind.signed];omega
    rw[hwr];refine ⟨⟨j+1,hjl,htk',?_,?_,?_,f4.tr f7⟩,?_⟩
    · exact (kk6.trans (k7.mono (by omega))).trans ((Kept.put0 (by omega) _).pt)
    · rw[gR,gR,k7.get 12 (by omega),g12']
    · rw[gQ]
    rw[gQ,gi];simp[Z3i];omega
  intro hge;refine wp_exit ?_;show K4 a5 w4
  refine hK4 a5 w4 (tUp ?_);refine tId (wp_seq_k fun K11 hK11=>?_);have hz5:=k5.size;refine ZA (m:=4) (by omega) (by omega) fun a8 k8 g8=>hK11 a8 w4 (tUp ?_);refine wp_ret ?_;refine ⟨by rw[k8.defers,k5.defers,k4.defers,hd0],_,Z6 hres,?_,f4⟩;have hge':s.length≤j:=by simpa using hge
  rw[List.take_of_length_le hge',List.take_of_length_le (by omega)] at htk;rw[g8,htk];simp
end Go.Kq
