/- A part of the library: rules of reasoning about the program's operations and what its shared functions do. -/
import Derived.Test.YtnfigjjpdhhfjaaGreatDoorKqP05
import Derived.Test.YtnfigjjpdhhfjaaGreatDoorKqP01
import Derived.Below
import Derived.ChangeSame
import Derived.ChangeSlices
import Derived.ChangeArms
import Derived.LaidLaws
import Derived.OpenShut
import Derived.WideKeyArgs
import Derived.WalkKit
import Derived.ProofKit
import Derived.Test.YtnfigjjpdhhfjaaGreatDoorKqP03
import Derived.Test.YtnfigjjpdhhfjaaGreatDoorKqP02
import Derived.ScopeJumps
set_option linter.unusedVariables false
set_option linter.unusedSimpArgs false
namespace Go.Kq
open Go Go.Proofs
theorem Z5Q:∀ {fs:List Fd},(∀ f ∈ fs,f.tag < 4294967295)→Z7 fs≤4294967295
  | [],_=>by simp[Z7]
  | f :: fs, h => by
    have h1:=h f (by simp);have h2:=Z5Q fun g hg=>h g (List.mem_cons_of_mem f hg);unfold Z7
    split <;> omega
theorem Z7x {fs:List Fd} {ver:Int} {encs:List (List UInt8)} {j:Nat} {fd:Fd} (h:fs[j]?=some fd):Z0R fs ver encs (j+1)=Z0R fs ver encs j++if (decide (fd.tag < 0) && fd.has ver)=true then encs.getD j [] else []:=by
  unfold Z0R;rw[List.range_succ,List.flatMap_append];simp[h]
def Gap (a b c:Nat) (w:World) (x:Nat):Prop:=(a≤x∧x < b)∨(c≤x∧x < w.heap.size)
theorem Gap.mono {a b c:Nat} {w w':World} (h:w.heap.size≤w'.heap.size) (x:Nat) (hx:Gap a b c w x):Gap a b c w' x:=by
  rcases hx with hx | hx
  · exact .inl hx
  exact .inr ⟨hx.1,by omega⟩
theorem Z4F {a b c:Nat} {w w':World} (h1:c≤w.heap.size) (h2:w.heap.size≤w'.heap.size) (x:Nat) (hx:Gap a b c w x∨(w.heap.size≤x∧x < w'.heap.size)):Gap a b c w' x:=by
  rcases hx with hx | hx
  · exact Gap.mono h2 x hx
  exact .inr ⟨by omega,hx.2⟩
section
variable {fs:List Fd} {t:T} {encs:List (List UInt8)}
def knAt (fs:List Fd) (t:T) (encs:List (List UInt8)) (tag i:Nat):List (Nat × List UInt8):=match fs[i]? with
  | some f=>if decide (f.tag=((tag:Nat):Int)) && !Z02 f (atT t.l i) then [(tag,encs.getD i [])] else []
  | none=>[]
def knIn (fs:List Fd) (t:T) (encs:List (List UInt8)) (tag n:Nat):List (Nat × List UInt8):=(List.range n).flatMap (knAt fs t encs tag)
def knUp (fs:List Fd) (t:T) (encs:List (List UInt8)) (n:Nat):List (Nat × List UInt8):=(List.range n).flatMap fun tag=>knIn fs t encs tag fs.length
def knTo (fs:List Fd) (t:T) (encs:List (List UInt8)) (k j:Nat):List (Nat × List UInt8):=knUp fs t encs k++knIn fs t encs k j
theorem Z5P:Zl fs t encs=knUp fs t encs (Z7 fs):=rfl
theorem Z8h {k:Nat}:knTo fs t encs k 0=knUp fs t encs k:=by simp[knTo,knIn]
theorem Z6M {k:Nat}:knTo fs t encs k fs.length=knUp fs t encs (k+1):=by simp[knTo,knUp,List.range_succ]
theorem Z8i {k j:Nat}:knTo fs t encs k (j+1)=knTo fs t encs k j++knAt fs t encs k j:=by simp[knTo,knIn,List.range_succ]
theorem Z6P {k j:Nat}:∀ d:Nat,∃ r,knIn fs t encs k (j+d)=knIn fs t encs k j++r
  | 0=>⟨[],by simp⟩
  | d + 1 => by
    obtain ⟨r,h⟩:=Z6P (k:=k) (j:=j) d;exact ⟨r++knAt fs t encs k (j+d),by rw[← List.append_assoc,← h];simp[knIn,← Nat.add_assoc,List.range_succ]⟩
theorem Z6L {k:Nat}:∀ d:Nat,∃ r,knUp fs t encs (k+d)=knUp fs t encs k++r
  | 0=>⟨[],by simp⟩
  | d + 1 => by
    obtain ⟨r,h⟩:=Z6L (k:=k) d;exact ⟨r++knIn fs t encs (k+d) fs.length,by rw[← List.append_assoc,← h];simp[knUp,← Nat.add_assoc,List.range_succ]⟩
theorem knTo_pre {k j:Nat} (hk:k < Z7 fs) (hj:j≤fs.length):∃ r,Zl fs t encs=knTo fs t encs k j++r:=by
  obtain ⟨r1,h1⟩:=Z6L (fs:=fs) (t:=t) (encs:=encs) (k:=k+1) (Z7 fs - (k+1));obtain ⟨r2,h2⟩:=Z6P (fs:=fs) (t:=t) (encs:=encs) (k:=k) (j:=j) (fs.length - j);rw[show k+1+(Z7 fs - (k+1))=Z7 fs from by omega] at h1;rw[show j+(fs.length - j)=fs.length from by omega] at h2;refine ⟨r2++r1,?_⟩;rw[Z5P,h1,← Z6M];simp only[knTo,h2,List.append_assoc]
theorem Z30:∀ (l:List (Nat × List UInt8)),l.length≤(l.flatMap ZP).length
  | []=>by simp
  | p :: l => by
    have h1:=Z30 l;have h2:1≤(ZP p).length:=by
      have:uvW p.1 ≠ []:=Z4u _;have h3:0 < (uvW p.1).length:=List.length_pos_iff.2 this;simp only[ZP,List.length_append];omega
    simp only[List.flatMap_cons,List.length_append,List.length_cons];omega
end
set_option maxHeartbeats 16000000 in
theorem partk_m {P:Program} {f:FuncId} {fn:Func} {T3 T4 T22 T24 T26 T29 T45 T59 T61 T76:TypeId} {f54 f55 f56 f57 f58 f59 f60 f61:FuncId} {ct0:Array TypeId} {ct1:Array TypeId} {ct2:Array TypeId} {ct3:Array TypeId} {ct4:Array TypeId} {ct5:Array TypeId} {ct6:Array TypeId} {ct7:Array TypeId} {ct8:Array TypeId} {ct9:Array TypeId} {ct10:Array TypeId} {ct11:Array TypeId} {ct12:Array TypeId} {ct13:Array TypeId} {ct14:Array TypeId} {i0 i1 i2 i3 i4 i5 i6 i7 i8 i9 i10 i11 i12 i13 i14 i15 i16 i17 i18 i19 i20 i21 i22 i23 i24 i25 i26 i27 i28 i29 i30:Nat} {t0 t1 t2 t3 t4 t5 t6 t7 t8 t9 t10 t11 t12 t13 t14 t15 t16 t17 t18 t19 t20 t21 t22 t23 t24 t25 t26 t27 t28 t29 t30 t31 t32 t33 t34 t35 t36 t37 t38 t39 t40 t41 t42 t43 t44 t45 t46 t47 t48 t49 t50 t51 t52 t53 t54 t55 t56 t57 t58 t59 t60 t61 t62 t63 t64 t65 t66 t67 t68 t69 t70 t71 t72 t73 t74 t75 t76 t77 t78 t79 t80 t81 t82 t83 t84 t85 t86 t87 t88 t89 t90 t91 t92 t93 t94 t95 t96 t97 t98 t99 t100 t101 t102 t103 t104 t105 t106 t107 t108 t109 t110 t111 t112 t113 t114 t115 t116 t117 t118 t119 t120 t121 t122 t123 t124 t125 t126 t127 t128 t129 t130 t131 t132 t133 t134 t135 t136 t137:TypeId} {p0 p1 p2 p3 p4 p5 p6 p7 p8 p9 p10 p11 p12 p13 p14 p15 p16 p17 p18 p19 p20 p21 p22 p23 p24 p25 p26 p27 p28 p29 p30 p31 p32 p33 p34 p35 p36 p37 p38 p39 p40 p41 p42 p43 p44 p45 p46 p47 p48 p49 p50 p51 p52 p53 p54 p55 p56 p57 p58 p59 p60 p61 p62 p63 p64 p65 p66 p67 p68 p69 p70 p71 p72 p73 p74 p75 p76 p77 p78 p79 p80 p81 p82 p83 p84 p85 p86 p87 p88 p89 p90 p91 p92 p93 p94 p95 p96 p97 p98 p99 p100 p101 p102 p103 p104 p105 p106 p107 p108 p109 p110 p111 p112 p113 p114 p115 p116 p117 p118 p119 p120 p121 p122 p123 p124 p125 p126 p127 p128 p129 p130 p131 p132 p133 p134 p135 p136 p137:String} {e0 e1 e2 e3 e4 e5 e6 e7 e8 e9 e10 e11 e12 e13 e14 e15 e16 e17 e18 e19 e20 e21 e22 e23 e24 e25 e26 e27 e28 e29 e30 e31 e32 e33 e34 e35 e36 e37 e38 e39 e40 e41 e42 e43 e44 e45 e46 e47 e48 e49 e50 e51 e52 e53 e54 e55 e56 e57 e58 e59 e60 e61 e62 e63 e64 e65 e66 e67 e68 e69 e70 e71 e72 e73 e74 e75 e76 e77 e78 e79 e80 e81 e82 e83 e84 e85 e86 e87 e88 e89 e90 e91 e92 e93 e94 e95 e96 e97 e98 e99 e100 e101 e102 e103 e104 e105 e106 e107 e108 e109 e110 e111 e112 e113 e114 e115 e116 e117 e118 e119 e120 e121 e122 e123 e124 e125 e126 e127 e128 e129 e130 e131 e132 e133 e134 e135 e136 e137:Array Edge} {te te8 teT:TypeId} {tb:Nat} {fs:List Fd}
    (hf:P.funcs[f]?=some fn) (hname:nG fn=false) (hres:fn.results = #[.tmp 8]) (hN:fn.ntmps=132)
    (hbody:fn.body=some (.seq (Code.region i0 ⟨[⟨some 7,.box T26 (.tmp 3),t0,p0,e0,none⟩,
    oA 8 (.const (.slice none 0 0)) t1 p1 e1]⟩ false) (.seq (Code.region i1 ⟨[oA 9 (.const (.slice none 0 0)) t2 p2 e2,
    oA 10 (.const (.slice none 0 0)) t3 p3 e3]⟩ false) (.seq (Code.region i2 ⟨[oA 11 (.const (.int .i64 0)) t4 p4 e4]⟩ false) (.seq (.seq (Code.region i3 ⟨[oM 21 0 t5 p5 e5,⟨some 22,.call ⟨.builtin .len,#[(.tmp 21)],#[T29]⟩,t6,p6,e6,none⟩,⟨some 23,.move (.const (.int .i64 0)),t7,p7,e7,none⟩]⟩ false) (.block 0 (.loop (.seq (Code.region i4 ⟨[⟨some 24,.binOp .lss T3 (.tmp 23) (.tmp 22) T3,t8,p8,e8,none⟩]⟩ false) (.seq (.cond (.tmp 24) .skip
  (.exit 0)) (.seq (.block 1 (.seq (Code.region i5 ⟨[oM 25 23 t9 p9 e9,⟨some 26,.indexAddr T29 (.tmp 21) (.tmp 23),t10,p10,e10,none⟩,
    oL 27 T45 26 t11 p11 e11,⟨some 13,.alloc T45,t12,p12,e12,none⟩,
    oT 12 25 t13 p13 e13,
    oS T45 13 27 t14 p14 e14]⟩ false) (.seq (Code.region i6 ⟨[oF 28 T45 13 4 t15 p15 e15,
    oL 29 T3 28 t16 p16 e16,⟨some 30,.binOp .lss T3 (.tmp 29) (.const (.int .i64 0)) T3,t17,p17,e17,none⟩,
    oM 31 30 t18 p18 e18,⟨some 32,.load T45 (.tmp 13),t19,p19,e19,some (3,true)⟩,⟨some 33,.move (.tmp 1),t20,p20,e20,some (3,true)⟩,⟨some 34,.call ⟨.value (.func f54),#[(.tmp 32),(.tmp 33)],ct0⟩,t21,p21,e21,some (3,true)⟩,⟨some 35,.pick (.tmp 31) (.tmp 34) (.const (.bool false)),t22,p22,e22,none⟩]⟩ false) (.cond (.tmp 35) (Code.region i7 ⟨[oM 36 9 t23 p23 e23,
    oL 37 T45 13 t24 p24 e24,
    oM 38 1 t25 p25 e25,
    oM 39 2 t26 p26 e26,
    oL 40 T26 7 t27 p27 e27,
    oM 41 12 t28 p28 e28,
    oC 42 f56 #[(.tmp 40),(.tmp 41)] ct1 t29 p29 e29,
    oC 43 f55 #[(.tmp 37),(.tmp 38),(.tmp 39),(.tmp 42)] ct2 t30 p30 e30,⟨some 44,.call ⟨.builtin .append,#[(.tmp 36),(.tmp 43)],#[T22,T22]⟩,t31,p31,e31,none⟩,
    oT 9 44 t32 p32 e32]⟩ true) .skip))))
  (Code.region i8 ⟨[⟨some 45,.binOp .add T3 (.tmp 23) (.const (.int .i64 1)) T3,t33,p33,e33,none⟩,
    oM 23 45 t34 p34 e34]⟩ false))))))) (.seq (.seq (Code.region i9 ⟨[oM 46 2 t35 p35 e35,⟨some 47,.unOp .not T4 (.tmp 46),t36,p36,e36,none⟩]⟩ false) (.cond (.tmp 47) (.seq (Code.region i10 ⟨[oM 48 9 t37 p37 e37,
    oT 8 48 t38 p38 e38]⟩ false) .ret) .skip)) (.seq (.seq (Code.region i11 ⟨[oM 49 0 t39 p39 e39,
    oC 50 f57 #[(.tmp 49)] ct3 t40 p40 e40,⟨some 51,.convert T59 T3 (.tmp 50),t41,p41,e41,none⟩,⟨some 52,.move (.const (.int .i64 0)),t42,p42,e42,none⟩]⟩ false) (.block 2 (.loop (.seq (Code.region i12 ⟨[⟨some 53,.binOp .lss T3 (.tmp 52) (.tmp 51) T3,t43,p43,e43,none⟩]⟩ false) (.seq (.cond (.tmp 53) .skip
  (.exit 2)) (.seq (.block 3 (.seq (Code.region i13 ⟨[oM 54 52 t44 p44 e44,
    oT 14 54 t45 p45 e45]⟩ false) (.seq (Code.region i14 ⟨[oM 55 0 t46 p46 e46,⟨some 56,.call ⟨.builtin .len,#[(.tmp 55)],#[T29]⟩,t47,p47,e47,none⟩,⟨some 57,.move (.const (.int .i64 0)),t48,p48,e48,none⟩]⟩ false) (.block 4 (.loop (.seq (Code.region i15 ⟨[⟨some 58,.binOp .lss T3 (.tmp 57) (.tmp 56) T3,t49,p49,e49,none⟩]⟩ false) (.seq (.cond (.tmp 58) .skip
  (.exit 4)) (.seq (.block 5 (.seq (Code.region i16 ⟨[oM 59 57 t50 p50 e50,⟨some 60,.indexAddr T29 (.tmp 55) (.tmp 57),t51,p51,e51,none⟩,
    oL 61 T45 60 t52 p52 e52,⟨some 16,.alloc T45,t53,p53,e53,none⟩,
    oT 15 59 t54 p54 e54,
    oS T45 16 61 t55 p55 e55]⟩ false) (.seq (Code.region i17 ⟨[oF 62 T45 16 4 t56 p56 e56,
    oL 63 T3 62 t57 p57 e57,
    oM 64 14 t58 p58 e58,⟨some 65,.binOp .eql T3 (.tmp 63) (.tmp 64) T3,t59,p59,e59,none⟩,
    oM 66 65 t60 p60 e60,⟨some 67,.load T45 (.tmp 16),t61,p61,e61,some (4,true)⟩,⟨some 68,.load T26 (.tmp 7),t62,p62,e62,some (4,true)⟩,⟨some 69,.move (.tmp 15),t63,p63,e63,some (4,true)⟩,⟨some 70,.call ⟨.value (.func f56),#[(.tmp 68),(.tmp 69)],ct4⟩,t64,p64,e64,some (4,true)⟩,⟨some 71,.call ⟨.value (.func f58),#[(.tmp 67),(.tmp 70)],ct5⟩,t65,p65,e65,some (4,true)⟩,⟨some 72,.unOp .not T4 (.tmp 71),t66,p66,e66,some (4,true)⟩,⟨some 73,.pick (.tmp 66) (.tmp 72) (.const (.bool false)),t67,p67,e67,none⟩]⟩ true) (.cond (.tmp 73) (.seq (Code.region i18 ⟨[oL 74 T45 16 t68 p68 e68,
    oM 75 1 t69 p69 e69,
    oM 76 2 t70 p70 e70,
    oL 77 T26 7 t71 p71 e71,
    oM 78 15 t72 p72 e72,
    oC 79 f56 #[(.tmp 77),(.tmp 78)] ct6 t73 p73 e73,
    oC 80 f55 #[(.tmp 74),(.tmp 75),(.tmp 76),(.tmp 79)] ct7 t74 p74 e74,
    oT 17 80 t75 p75 e75]⟩ true) (.seq (Code.region i19 ⟨[oM 81 10 t76 p76 e76,
    oM 82 14 t77 p77 e77,⟨some 83,.convert T3 T76 (.tmp 82),t78,p78,e78,none⟩,
    oC 84 f59 #[(.tmp 83)] ct8 t79 p79 e79,⟨some 85,.call ⟨.builtin .append,#[(.tmp 81),(.tmp 84)],#[T22,T22]⟩,t80,p80,e80,none⟩,
    oM 86 17 t81 p81 e81,⟨some 87,.call ⟨.builtin .len,#[(.tmp 86)],#[T22]⟩,t82,p82,e82,none⟩,⟨some 88,.convert T3 T76 (.tmp 87),t83,p83,e83,none⟩,
    oC 89 f59 #[(.tmp 88)] ct9 t84 p84 e84,⟨some 90,.call ⟨.builtin .append,#[(.tmp 85),(.tmp 89)],#[T22,T22]⟩,t85,p85,e85,none⟩,
    oM 91 17 t86 p86 e86,⟨some 92,.call ⟨.builtin .append,#[(.tmp 90),(.tmp 91)],#[T22,T22]⟩,t87,p87,e87,none⟩,
    oT 10 92 t88 p88 e88]⟩ false)
  (Code.region i20 ⟨[oM 93 11 t89 p89 e89,⟨some 94,.binOp .add T3 (.tmp 93) (.const (.int .i64 1)) T3,t90,p90,e90,none⟩,
    oT 11 94 t91 p91 e91]⟩ false))) .skip))))
  (Code.region i21 ⟨[⟨some 95,.binOp .add T3 (.tmp 57) (.const (.int .i64 1)) T3,t92,p92,e92,none⟩,
    oM 57 95 t93 p93 e93]⟩ false)))))))))
  (Code.region i22 ⟨[⟨some 96,.binOp .add T3 (.tmp 52) (.const (.int .i64 1)) T3,t94,p94,e94,none⟩,
    oM 52 96 t95 p95 e95]⟩ false))))))) (.seq (.seq (Code.region i23 ⟨[oM 97 0 t96 p96 e96,
    oF 98 T26 7 4 t97 p97 e97,
    oL 99 T24 98 t98 p98 e98,
    oC 100 f60 #[(.tmp 97),(.tmp 99)] ct10 t99 p99 e99,⟨some 101,.call ⟨.builtin .len,#[(.tmp 100)],#[T24]⟩,t100,p100,e100,none⟩,⟨some 102,.move (.const (.int .i64 0)),t101,p101,e101,none⟩]⟩ false) (.block 6 (.loop (.seq (Code.region i24 ⟨[⟨some 103,.binOp .lss T3 (.tmp 102) (.tmp 101) T3,t102,p102,e102,none⟩]⟩ false) (.seq (.cond (.tmp 103) .skip
  (.exit 6)) (.seq (.block 7 (.seq (Code.region i25 ⟨[⟨some 104,.indexAddr T24 (.tmp 100) (.tmp 102),t103,p103,e103,none⟩,
    oL 105 T61 104 t104 p104 e104,⟨some 19,.alloc T61,t105,p105,e105,none⟩,
    oS T61 19 105 t106 p106 e106]⟩ false) (.seq (Code.region i26 ⟨[oF 106 T61 19 1 t107 p107 e107,
    oL 107 T22 106 t108 p108 e108,
    oC 108 f61 #[(.tmp 107)] ct11 t109 p109 e109,
    oT 20 108 t110 p110 e110]⟩ false) (.seq (Code.region i27 ⟨[oM 109 10 t111 p111 e111,
    oF 110 T61 19 0 t112 p112 e112,
    oL 111 T59 110 t113 p113 e113,⟨some 112,.convert T59 T76 (.tmp 111),t114,p114,e114,none⟩,
    oC 113 f59 #[(.tmp 112)] ct12 t115 p115 e115,⟨some 114,.call ⟨.builtin .append,#[(.tmp 109),(.tmp 113)],#[T22,T22]⟩,t116,p116,e116,none⟩,
    oM 115 20 t117 p117 e117,⟨some 116,.call ⟨.builtin .len,#[(.tmp 115)],#[T22]⟩,t118,p118,e118,none⟩,⟨some 117,.convert T3 T76 (.tmp 116),t119,p119,e119,none⟩,
    oC 118 f59 #[(.tmp 117)] ct13 t120 p120 e120,⟨some 119,.call ⟨.builtin .append,#[(.tmp 114),(.tmp 118)],#[T22,T22]⟩,t121,p121,e121,none⟩,
    oM 120 20 t122 p122 e122,⟨some 121,.call ⟨.builtin .append,#[(.tmp 119),(.tmp 120)],#[T22,T22]⟩,t123,p123,e123,none⟩,
    oT 10 121 t124 p124 e124]⟩ false)
  (Code.region i28 ⟨[oM 122 11 t125 p125 e125,⟨some 123,.binOp .add T3 (.tmp 122) (.const (.int .i64 1)) T3,t126,p126,e126,none⟩,
    oT 11 123 t127 p127 e127]⟩ false)))))
  (Code.region i29 ⟨[⟨some 124,.binOp .add T3 (.tmp 102) (.const (.int .i64 1)) T3,t128,p128,e128,none⟩,
    oM 102 124 t129 p129 e129]⟩ false))))))) (.seq (Code.region i30 ⟨[oM 125 9 t130 p130 e130,
    oM 126 11 t131 p131 e131,⟨some 127,.convert T3 T76 (.tmp 126),t132,p132,e132,none⟩,
    oC 128 f59 #[(.tmp 127)] ct14 t133 p133 e133,⟨some 129,.call ⟨.builtin .append,#[(.tmp 125),(.tmp 128)],#[T22,T22]⟩,t134,p134,e134,none⟩,
    oM 130 10 t135 p135 e135,⟨some 131,.call ⟨.builtin .append,#[(.tmp 129),(.tmp 130)],#[T22,T22]⟩,t136,p136,e136,none⟩,
    oT 8 131 t137 p137 e137]⟩ false) .ret)))))))))
    (hs_T22:Z3 P T22 te 1 1=true) (hz_T22:ZG P te [.int .u8 0]) (hsT29:slTy P T29=true) (hs_T29:Z3 P T29 te8 8 tb=true) (hFlT45:Flat P T45 zF) (hcT3:scal P T3=true) (hFlT26:Flat P T26 zT) (he7:Z0I 0 [e23,e24,e25,e26,e27,e28,e29,e30,e31,e32] [[],[],[],[],[],[],[4,5],[1,2,3,6],[0,1,2,3,4,5,6,7],[0,1,2,3,4,5,6,7,8]]=true) (hmx:P.follows .mixedOrders=true) (hT59_u32:Zk P T59 .u32=true) (hT3_i64:Zk P T3 .i64=true) (he17:Z0I 0 [e56,e57,e58,e59,e60,e61,e62,e63,e64,e65,e66,e67] [[],[0],[],[1,2],[3],[4],[4],[4],[4,6,7],[4,5,8],[4,9],[4,10]]=true) (he18:Z0I 0 [e68,e69,e70,e71,e72,e73,e74,e75] [[],[],[],[],[],[3,4],[0,1,2,5],[0,1,2,3,4,5,6]]=true) (hT76_u64:Zk P T76 .u64=true) (hsT22:slTy P T22=true) (hcT24:scal P T24=true) (hsT24:slTy P T24=true) (hs_T24:Z3 P T24 teT 2 32=true) (hFlT61:Flat P T61 zTag) (hcT22:scal P T22=true) (hcT59:scal P T59=true) (htg:∀ f ∈ fs,f.tag < 4294967295) (hFi:∀ fd ∈ fs,Z1b P f55 fd (Zc fd)) (hUsm:∀ fd ∈ fs,0≤fd.tag→Z2u P f58 fd) (hHa:HasM P f54) (hAt:AtM P f56) (hKn:Z76 P f57) (hUn:UnkM P f60) (hWh:Z75 P f61) (hUv:UvWM P f59):Z1U P f fs (Z07 fs):=by
  refine ⟨enters_of hf hname hbody,?_⟩;intro w A B v ver flex ct t hfs ht hA hB hlen
  cases t with
  | mk n s nl l u =>
  have ht0:=ht;obtain ⟨sv,lv,uv,rfl,hn,hs,hl,hu⟩:=Z0O.1 ht;obtain ⟨encs,hencs⟩:∃ x,x=ZZ fs ver flex l 0:=⟨_,rfl⟩;obtain ⟨q,cap,hv,hbig,hk⟩:=hfs.slice;subst hv;have hknl:=Z5Q htg;have hPW:Z07 fs ver flex (.mk n s nl l u)=if flex then Z0R fs ver encs fs.length++(uvW ((Zl fs (.mk n s nl l u) encs).length+(ZD fs (.mk n s nl l u)).length)++((Zl fs (.mk n s nl l u) encs).flatMap ZP++(ZD fs (.mk n s nl l u)).flatMap ZP)) else Z0R fs ver encs fs.length:=by rw[hencs,← List.flatMap_append];rfl
  rw[hPW] at hlen;have hb0:(Z0R fs ver encs fs.length).length≤4294967296:=by
    split at hlen
    · simp only[List.length_append] at hlen;omega
    exact hlen
  refine calls_of_wp hf hbody ?_;generalize ha0:({ tmps:=#[Value.slice q fs.length cap,Value.int .i64 ver,Value.bool flex,Value.agg ([.int .i64 n,sv,.bool nl,lv,uv]:List Value).toArray]++Array.replicate (fn.ntmps - (#[Value.slice q fs.length cap,Value.int .i64 ver,Value.bool flex,Value.agg ([.int .i64 n,sv,.bool nl,lv,uv]:List Value).toArray]:Array Value).size) undef,defers:=[] }:Act)=a0;have hz0:a0.tmps.size=132:=by subst ha0;simp[hN]
  have hd0:a0.defers=[]:=by subst ha0;rfl
  have g0_0:get a0 0 = .slice q fs.length cap:=by subst ha0;exact gAr rfl
  have g0_1:get a0 1 = .int .i64 ver:=by subst ha0;exact gAr rfl
  have g0_2:get a0 2 = .bool flex:=by subst ha0;exact gAr rfl
  have g0_3:get a0 3 = .agg ([.int .i64 n,sv,.bool nl,lv,uv]:List Value).toArray:=by subst ha0;exact gAr rfl
  refine wT fun K1 hK1=>?_;refine wC (ZS (cs:=[.int .i64 n,sv,.bool nl,lv,uv]) (eK g0_3) ?_);rintro w2 f2 sz2 r2 th2;have hF3:Fr [] w w2:=f2;refine wC (wAs (v:=.slice none 0 0) rfl ?_);refine wEk hz0 hd0 fun a4 ha4 hz4 hd4=>?_;have g4_0:=kP ha4 g0_0;have g4_1:=kP ha4 g0_1;have g4_2:=kP ha4 g0_2;have g4_3:=kP ha4 g0_3;have g4_7:get a4 7 = .pointer (some ⟨w.heap.size,0,none⟩):=kG ha4 hz0;have g4_8:get a4 8 = .slice none 0 0:=kG ha4 hz0;refine hK1 a4 w2 (tUp ?_);refine tId (wp_seq_k fun K5 hK5=>?_);have hS0:w.heap.size+1≤w2.heap.size:=by omega
  refine Z2 ?_;refine wC (wAs (v:=.slice none 0 0) rfl ?_);refine wC (wAs (v:=.slice none 0 0) rfl ?_);refine wEk hz4 hd4 fun a6 ha6 hz6 hd6=>?_;have g6_0:=kP ha6 g4_0;have g6_1:=kP ha6 g4_1;have g6_2:=kP ha6 g4_2;have g6_3:=kP ha6 g4_3;have g6_7:=kP ha6 g4_7;have g6_8:=kP ha6 g4_8;have g6_9:get a6 9 = .slice none 0 0:=kG ha6 hz4;have g6_10:get a6 10 = .slice none 0 0:=kG ha6 hz4;refine hK5 a6 w2 (tUp ?_);refine wT fun K7 hK7=>?_;refine wC (wAs (v:=.int .i64 0) rfl ?_);refine wEk hz6 hd6 fun a8 ha8 hz8 hd8=>?_;have g8_0:=kP ha8 g6_0;have g8_1:=kP ha8 g6_1;have g8_2:=kP ha8 g6_2;have g8_3:=kP ha8 g6_3;have g8_7:=kP ha8 g6_7;have g8_8:=kP ha8 g6_8;have g8_9:=kP ha8 g6_9;have g8_10:=kP ha8 g6_10;have g8_11:get a8 11 = .int .i64 0:=kG ha8 hz6;refine hK7 a8 w2 (tUp ?_);refine tId (wp_seq_k fun K9 hK9=>?_);refine wS fun K10 hK10=>?_;refine wC (wMv (v:=.slice q fs.length cap) (eK g8_0) ?_);refine wC (Zs (n:=fs.length) hsT29 (eS hz8) ?_);refine wC (wMv (v:=.int .i64 0) rfl ?_);refine wEk hz8 hd8 fun a11 ha11 hz11 hd11=>?_;have g11_0:=kP ha11 g8_0;have g11_1:=kP ha11 g8_1;have g11_2:=kP ha11 g8_2;have g11_3:=kP ha11 g8_3;have g11_7:=kP ha11 g8_7;have g11_8:=kP ha11 g8_8;have g11_9:=kP ha11 g8_9;have g11_10:=kP ha11 g8_10;have g11_11:=kP ha11 g8_11;have g11_21:get a11 21 = .slice q fs.length cap:=kG ha11 hz8;have g11_22:get a11 22 = .int .i64 ((fs.length:Nat):Int):=kG ha11 hz8;have g11_23:get a11 23 = .int .i64 0:=kG ha11 hz8;refine hK10 a11 w2 ?_;refine wp_block (wp_loop_ghost (fun (m:Nat) a' w'=>∃ (j:Nat) (v9:Value),a'.tmps.size=132∧a'.defers=[]∧get a' 0 = .slice q fs.length cap∧get a' 1 = .int .i64 ver∧get a' 2 = .bool flex∧get a' 3 = .agg ([.int .i64 n,sv,.bool nl,lv,uv]:List Value).toArray∧get a' 7 = .pointer (some ⟨w.heap.size,0,none⟩)∧get a' 8 = .slice none 0 0∧get a' 9=v9∧get a' 10 = .slice none 0 0∧get a' 11 = .int .i64 0∧get a' 21 = .slice q fs.length cap∧get a' 22 = .int .i64 ((fs.length:Nat):Int)∧get a' 23 = .int .i64 (j:Int)∧j+m=fs.length∧Own w' (From w2.heap.size w') 1 v9 (Z0R fs ver encs j).length (Z0 (Z0R fs ver encs j))∧w'.rangeAt w.heap.size 0 [.int .i64 n,sv,.bool nl,lv,uv]∧Fr [] w w'∧w2.heap.size≤w'.heap.size) fs.length ?_ ?_)
  · exact ⟨0,.slice none 0 0,hz11,hd11,g11_0,g11_1,g11_2,g11_3,g11_7,g11_8,g11_9,g11_10,g11_11,g11_21,g11_22,g11_23,by omega,Own.nil,r2,hF3,(Fr.refl [] w2).size⟩
  rintro m a12 w12 ⟨j,v9,hz12,hd12,g12_0,g12_1,g12_2,g12_3,g12_7,g12_8,g12_9,g12_10,g12_11,g12_21,g12_22,g12_23,hjm,ho,hbl,hfl,hSl⟩;refine wS fun K13 hK13=>?_;refine wC (Z08 (k1:=.i64) (i:=(j:Int)) (j:=((fs.length:Nat):Int)) (eK g12_23) (eK g12_22) ?_);refine wEk hz12 hd12 fun a14 ha14 hz14 hd14=>?_;have g14_0:=kP ha14 g12_0;have g14_1:=kP ha14 g12_1;have g14_2:=kP ha14 g12_2;have g14_3:=kP ha14 g12_3;have g14_7:=kP ha14 g12_7;have g14_8:=kP ha14 g12_8;have g14_9:=kP ha14 g12_9;have g14_10:=kP ha14 g12_10;have g14_11:=kP ha14 g12_11;have g14_21:=kP ha14 g12_21;have g14_22:=kP ha14 g12_22;have g14_23:=kP ha14 g12_23;have g14_24:get a14 24 = .bool (decide (((j:Int):Int) < (((fs.length:Nat):Int):Int))):=kG ha14 hz12;refine hK13 a14 w12 ?_;refine wp_seq_k fun K15 hK15=>?_;refine wp_cond_split (t:=decide (((j:Int):Int) < (((fs.length:Nat):Int):Int))) (eK g14_24) (fun hc16=>?_) (fun hc16=>?_)
  · have hjl : j < fs.length := by simpa using hc16
    obtain ⟨fd,hfd⟩:∃ fd,fs[j]?=some fd:=⟨fs[j],by simp[hjl]⟩;obtain ⟨bl,ol,cl,hq,hbl2,hrl,hrep⟩:=hk j fd hfd;obtain ⟨fsv,rfl,hsub⟩:=ZK.1 hrep;have hFm:=hFi fd (List.mem_of_getElem? hfd);have henc:encs.getD j []=Zc fd ver flex (atT l j):=by rw[hencs,Z2k fs ver flex l 0 j fd hfd,Nat.zero_add]
    have hbs:=Z7x (ver:=ver) (encs:=encs) hfd;have hble:=Z6Z (ver:=ver) (encs:=encs) (fs:=fs) (n:=j+1) (m:=fs.length) (by omega);rw[henc] at hbs;refine wp_skip ?_;refine hK15 a14 w12 ?_;refine wp_seq_k fun K17 hK17=>?_;refine Zm ?_;refine wS fun K18 hK18=>?_;refine wC (wMv (v:=.int .i64 (j:Int)) (eK g14_23) ?_);refine wC (Z14 (b:=bl) (o:=ol) (i:=j) hs_T29 (by rw[eTm,nZ (by decide),g14_21,hq]) (eK g14_23) hjl ?_);refine wC (Z8 (cs:=[.int .i64 fd.kind,.int .i64 fd.fr,.int .i64 fd.to,.int .i64 fd.nul,.int .i64 fd.tag,.int .i64 fd.df,.int .i64 fd.of,fsv]) (b:=bl) (o:=ol+j * 8) hFlT45 rfl (eS hz14) (hfl.range hrl .nil) ?_);refine wC (Z0A hFlT45 ?_);rintro w19 f19 sz19 r19 th19;have hF20:Fr [] w w19:=hfl.tr f19;have hL20_w12:Fr [] w12 w19:=(Fr.refl [] w12).tr f19;have rb21:=f19.range hbl .nil;refine wC (wAs (v:=.int .i64 (j:Int)) (eS hz14) ?_);refine wC (Z0g (cs:=[.int .i64 fd.kind,.int .i64 fd.fr,.int .i64 fd.to,.int .i64 fd.nul,.int .i64 fd.tag,.int .i64 fd.df,.int .i64 fd.of,fsv]) (o:=0) hFlT45 rfl (eS hz14) (eS hz14) (by intro u hu;simp at hu;rcases hu with rfl | rfl | rfl | rfl | rfl | rfl | rfl | rfl <;> first | rfl | exact hsub.one) th19 ?_);rintro w22 f22 sz22 r22 th22;have hF22:Fr [] w w22:=hF20.trans f22 (fun r hr=>.inl (by simp at hr;subst hr;have:=hfl.size;simp only;omega));have rb23:=f22.range rb21 (.cons (.inl (by simp only;omega)) .nil);have hL22_w12:Fr [] w12 w22:=hL20_w12.trans f22 (fun r hr=>.inl (by simp at hr;subst hr;have:=(Fr.refl [] w12).size;simp only;omega));refine wEk hz14 hd14 fun a24 ha24 hz24 hd24=>?_;have g24_0:=kP ha24 g14_0;have g24_1:=kP ha24 g14_1;have g24_2:=kP ha24 g14_2;have g24_3:=kP ha24 g14_3;have g24_7:=kP ha24 g14_7;have g24_8:=kP ha24 g14_8;have g24_9:=kP ha24 g14_9;have g24_10:=kP ha24 g14_10;have g24_11:=kP ha24 g14_11;have g24_12:get a24 12 = .int .i64 (j:Int):=kG ha24 hz14;have g24_13:get a24 13 = .pointer (some ⟨w12.heap.size,0,none⟩):=kG ha24 hz14;have g24_21:=kP ha24 g14_21;have g24_22:=kP ha24 g14_22;have g24_23:=kP ha24 g14_23;refine hK18 a24 w22 ?_;refine wp_seq_k fun K25 hK25=>?_
    by_cases hft:fd.tag < 0
    · refine Z0c ?_;refine gCn ?_;refine wFa (b := w12.heap.size) (i := 0) (hFlT45.fld (by decide)) (eK g24_13) ?_;rw [show (0 + 4 : Nat) = 4 from rfl];refine gCn ?_;refine wL0 (j := 4) (v := .int .i64 fd.tag) hcT3 (eS hz24) r22 rfl ?_;refine gCn ?_;refine Z1X (k1 := .i64) (i := fd.tag) (j := 0) hft (eS hz24) rfl ?_;refine gCn ?_;refine wMv (v := .bool true) (eS hz24) ?_;refine Zq (dj := 31) rfl (lZ hz24) (gS hz24) ?_;refine Z8 (cs := [.int .i64 fd.kind, .int .i64 fd.fr, .int .i64 fd.to, .int .i64 fd.nul, .int .i64 fd.tag, .int .i64 fd.df, .int .i64 fd.of, fsv]) (b := w12.heap.size) (o := 0) hFlT45 rfl (eK g24_13) r22 ?_;refine Zq (dj := 31) rfl (lZ hz24) (gS hz24) ?_;refine wMv (v := .int .i64 ver) (eK g24_1) ?_;refine Zq (dj := 31) rfl (lZ hz24) (gS hz24) ?_;refine wCr (R := fun x wz => x = .bool (fd.has ver) ∧ Fr [] w22 wz) (vs := #[.agg ([.int .i64 fd.kind, .int .i64 fd.fr, .int .i64 fd.to, .int .i64 fd.nul, .int .i64 fd.tag, .int .i64 fd.df, .int .i64 fd.of, fsv] : List Value).toArray, .int .i64 ver]) hHa.enters (mX2 (eS hz24) (eS hz24)) ((hHa.call w22 A _ fd ver (hrep.kept hF22 (by simp) (fun _ h => h))).mono (by rintro e w' ⟨rfl, hf⟩; exact ⟨_, rfl, rfl, hf⟩)) ?_;rintro x26 w26 ⟨rfl, fr26⟩;have hF27 : Fr [] w w26 := hF22.tr fr26;have hL27_w12 : Fr [] w12 w26 := hL22_w12.tr fr26;have rb28 := fr26.range rb23 .nil;have rb29 := fr26.range r22 .nil;refine gCn ?_;refine Zv (v := .bool (fd.has ver)) (eS hz24) (eS hz24) ?_;refine Z0u fun a30 ha30 => ?_;have hz30 := kS ha30 hz24;have hd30 := kD ha30 hd24;have g30_0 := kP ha30 g24_0;have g30_1 := kP ha30 g24_1;have g30_2 := kP ha30 g24_2;have g30_3 := kP ha30 g24_3;have g30_7 := kP ha30 g24_7;have g30_8 := kP ha30 g24_8;have g30_9 := kP ha30 g24_9;have g30_10 := kP ha30 g24_10;have g30_11 := kP ha30 g24_11;have g30_12 := kP ha30 g24_12;have g30_13 := kP ha30 g24_13;have g30_21 := kP ha30 g24_21;have g30_22 := kP ha30 g24_22;have g30_23 := kP ha30 g24_23;have g30_35 : get a30 35 = .bool (fd.has ver) := kG ha30 hz24;refine hK25 a30 w26 ?_;refine wp_cond_split (t := (fd.has ver)) (eK g30_35) (fun hc31 => ?_) (fun hc31 => ?_)
      · have hcond : (decide (fd.tag < 0) && fd.has ver) = true := by simp [hft, hc31]
        refine Z1d (os:=[oM 36 9 t23 p23 e23,oL 37 T45 13 t24 p24 e24,oM 38 1 t25 p25 e25,oM 39 2 t26 p26 e26,oL 40 T26 7 t27 p27 e27,oM 41 12 t28 p28 e28,oC 42 f56 #[(.tmp 40),(.tmp 41)] ct1 t29 p29 e29,oC 43 f55 #[(.tmp 37),(.tmp 38),(.tmp 39),(.tmp 42)] ct2 t30 p30 e30]) (rest:=[⟨some 44,.call ⟨.builtin .append,#[(.tmp 36),(.tmp 43)],#[T22,T22]⟩,t31,p31,e31,none⟩,oT 9 44 t32 p32 e32]) [spC [] (v9),spC [] (.agg ([.int .i64 fd.kind,.int .i64 fd.fr,.int .i64 fd.to,.int .i64 fd.nul,.int .i64 fd.tag,.int .i64 fd.df,.int .i64 fd.of,fsv]:List Value).toArray),spC [] (.int .i64 ver),spC [] (.bool flex),spC [] (.agg ([.int .i64 n,sv,.bool nl,lv,uv]:List Value).toArray),spC [] (.int .i64 (j:Int)),spR [4,5] (fun x w'=>∃ cs:List Value,x = .agg cs.toArray∧RepT w' B cs (atT l j)),spR [1,2,3,6] (fun x w'=>Own w' (From w26.heap.size w') 1 x (Zc fd ver flex (atT l j)).length (Z0 (Zc fd ver flex (atT l j))))] 36 [] hmx he7 (by simp[Z0B]) (by simp[Z1f]) (by simp[spC,spR]) (by simp;omega) ⟨lCc _ _ _,lCc _ _ _,lCc _ _ _,lCc _ _ _,lCc _ _ _,lCc _ _ _,(fun v w1 w2 f h=>by obtain ⟨cs,h1,h2⟩:=h;exact ⟨cs,h1,h2.kept f (by simp) (fun _ h=>h)⟩),(fun v w1 w2 f h=>h.upTo f (From.mono f.size)),trivial⟩ ?_ ?_
        · refine oCs ?_ ?_
          · refine op_c fun a' w' hk' hf' hd' K' hK'=>?_;refine wMv (v:=v9) (by rw[eTm,hk'.get 9 (by omega),g30_9]) ?_;exact hK'
          refine oCs ?_ ?_
          · refine op_c fun a' w' hk' hf' hd' K' hK'=>?_;refine Z8 (cs:=[.int .i64 fd.kind,.int .i64 fd.fr,.int .i64 fd.to,.int .i64 fd.nul,.int .i64 fd.tag,.int .i64 fd.df,.int .i64 fd.of,fsv]) (b:=w12.heap.size) (o:=0) hFlT45 rfl (by rw[eTm,hk'.get 13 (by omega),g30_13]) (hf'.range rb29 .nil) ?_;exact hK'
          refine oCs ?_ ?_
          · refine op_c fun a' w' hk' hf' hd' K' hK'=>?_;refine wMv (v:=.int .i64 ver) (by rw[eTm,hk'.get 1 (by omega),g30_1]) ?_;exact hK'
          refine oCs ?_ ?_
          · refine op_c fun a' w' hk' hf' hd' K' hK'=>?_;refine wMv (v:=.bool flex) (by rw[eTm,hk'.get 2 (by omega),g30_2]) ?_;exact hK'
          refine oCs ?_ ?_
          · refine op_c fun a' w' hk' hf' hd' K' hK'=>?_;refine Z8 (cs:=[.int .i64 n,sv,.bool nl,lv,uv]) (b:=w.heap.size) (o:=0) hFlT26 rfl (by rw[eTm,hk'.get 7 (by omega),g30_7]) (hf'.range rb28 .nil) ?_;exact hK'
          refine oCs ?_ ?_
          · refine op_c fun a' w' hk' hf' hd' K' hK'=>?_;refine wMv (v:=.int .i64 (j:Int)) (by rw[eTm,hk'.get 12 (by omega),g30_12]) ?_;exact hK'
          refine oCs ?_ ?_
          · refine op_r fun a' w' hk' hf' hd' K' hK'=>?_;refine wCr (R:=fun x wz=>∃ cs:List Value,x = .agg cs.toArray∧Fr [] w' wz∧((∀ b,B b→b < w'.heap.size)→RepT wz B cs (atT l j))) (vs:=#[.agg ([.int .i64 n,sv,.bool nl,lv,uv]:List Value).toArray,.int .i64 (j:Int)]) hAt.enters (by simp only[List.map_toArray,List.map_cons,List.map_nil];rw[show a'.eval (.tmp 40)=Value.agg ([.int .i64 n,sv,.bool nl,lv,uv]:List Value).toArray from (by rw[eTm];exact hd'.c (nd':=[]) 4 (by simp) rfl),show a'.eval (.tmp 41)=Value.int .i64 (j:Int) from (by rw[eTm];exact hd'.c (nd':=[]) 5 (by simp) rfl)]) ((hAt.call w' B _ (.mk n s nl l u) j (ht0.kept (hF27.tr hf') (by simp) (fun _ h=>h))).mono (by rintro e wz ⟨cs,rfl,h1,h2⟩;exact ⟨_,rfl,cs,rfl,h1,h2⟩)) ?_;rintro _ w32 ⟨cs32,rfl,fr32,hr32⟩;exact hK' _ w32 ⟨cs32,rfl,hr32 (fun b hb=>Nat.lt_of_lt_of_le (hB b hb) (hF27.tr hf').size)⟩ fr32
          refine oCs ?_ ?_
          · refine op_r fun a' w' hk' hf' hd' K' hK'=>?_;obtain ⟨ct',hct,hrt'⟩:∃ cs:List Value,get a' 42 = .agg cs.toArray∧RepT w' B cs (atT l j):=hd'.at (d:=6) (by simp) rfl;refine wCr (R:=fun vz wz=>Fr [] w' wz∧Own wz (From w'.heap.size wz) 1 vz (Zc fd ver flex (atT l j)).length (Z0 (Zc fd ver flex (atT l j)))) (vs:=#[.agg ([.int .i64 fd.kind,.int .i64 fd.fr,.int .i64 fd.to,.int .i64 fd.nul,.int .i64 fd.tag,.int .i64 fd.df,.int .i64 fd.of,fsv]:List Value).toArray,.int .i64 ver,.bool flex,.agg ct'.toArray]) hFm.enters (by simp only[List.map_toArray,List.map_cons,List.map_nil];rw[show a'.eval (.tmp 37)=Value.agg ([.int .i64 fd.kind,.int .i64 fd.fr,.int .i64 fd.to,.int .i64 fd.nul,.int .i64 fd.tag,.int .i64 fd.df,.int .i64 fd.of,fsv]:List Value).toArray from (by rw[eTm];exact hd'.c (nd':=[]) 1 (by simp) rfl),show a'.eval (.tmp 38)=Value.int .i64 ver from (by rw[eTm];exact hd'.c (nd':=[]) 2 (by simp) rfl),show a'.eval (.tmp 39)=Value.bool flex from (by rw[eTm];exact hd'.c (nd':=[]) 3 (by simp) rfl),show a'.eval (.tmp 42)=Value.agg ct'.toArray from (by rw[eTm];exact hct)]) (Za (hFm.call w' A B ver flex _ ct' (atT l j) (hrep.kept (hF27.tr hf') (by simp) (fun _ h=>h)) hrt' (fun b hb=>Nat.lt_of_lt_of_le (hA b hb) (hF27.tr hf').size) (fun b hb=>Nat.lt_of_lt_of_le (hB b hb) (hF27.tr hf').size) (by rw[hbs,if_pos hcond,List.length_append] at hble;omega))) ?_;rintro x33 w33 ⟨fr33,ow33⟩;exact hK' x33 w33 (ow33.from hf'.size) fr33
          exact ZY
        intro a34 w34 k34 f34 hd_34;have g34_0:get a34 0 = .slice q fs.length cap:=by rw[k34.get 0 (by omega),g30_0]
        have g34_1:get a34 1 = .int .i64 ver:=by rw[k34.get 1 (by omega),g30_1]
        have g34_2:get a34 2 = .bool flex:=by rw[k34.get 2 (by omega),g30_2]
        have g34_3:get a34 3 = .agg ([.int .i64 n,sv,.bool nl,lv,uv]:List Value).toArray:=by rw[k34.get 3 (by omega),g30_3]
        have g34_7:get a34 7 = .pointer (some ⟨w.heap.size,0,none⟩):=by rw[k34.get 7 (by omega),g30_7]
        have g34_8:get a34 8 = .slice none 0 0:=by rw[k34.get 8 (by omega),g30_8]
        have g34_10:get a34 10 = .slice none 0 0:=by rw[k34.get 10 (by omega),g30_10]
        have g34_11:get a34 11 = .int .i64 0:=by rw[k34.get 11 (by omega),g30_11]
        have g34_21:get a34 21 = .slice q fs.length cap:=by rw[k34.get 21 (by omega),g30_21]
        have g34_22:get a34 22 = .int .i64 ((fs.length:Nat):Int):=by rw[k34.get 22 (by omega),g30_22]
        have g34_23:get a34 23 = .int .i64 (j:Int):=by rw[k34.get 23 (by omega),g30_23]
        have hz34:a34.tmps.size=132:=k34.size.trans hz30;have hd34:a34.defers=[]:=k34.defers.trans hd30;have g34_36:get a34 36=v9:=hd_34.c (nd':=[]) 0 (by simp) rfl;have hF35:Fr [] w w34:=hF27.tr f34;have hL35_w12:Fr [] w12 w34:=hL27_w12.tr f34;have rb36:=f34.range rb28 .nil;have rb37:=f34.range rb29 .nil;have hv:Own w34 (From w26.heap.size w34) 1 (get a34 43) (Zc fd ver flex (atT l j)).length (Z0 (Zc fd ver flex (atT l j))):=hd_34.at (d:=7) (by simp) rfl;rw[wCo];have ob38:=ho.upTo hL35_w12 (From.mono hL35_w12.size);have hSl38:w2.heap.size≤w34.heap.size:=Nat.le_trans hSl hL35_w12.size;refine Z0d hs_T22 hz_T22 (eK g34_36) rfl ob38 (hv.octE (by rw[hbs,if_pos hcond,List.length_append] at hble;omega)) (by rw[hbs,if_pos hcond,List.length_append] at hble;omega) ?_;rintro v38 w38 fa38 oa38 sp38 bk38;have ho38:=oa38.imp_A (Z32 hSl38 fa38.size);have hF38:Fr [] w w38:=Z0G hF35 fa38 (ob38.from (s0:=w.heap.size) (by omega)) (fun b hb=>hb.1);have rb39:=fa38.range rb36 (fun r hr=>.inl fun e=>by have:=(ob38.spare_in r hr).1;have:=hS0;omega);refine wC (wAs (v:=v38) (eS hz34) ?_);refine wEk hz34 hd34 fun a40 ha40 hz40 hd40=>?_;have g40_0:=kP ha40 g34_0;have g40_1:=kP ha40 g34_1;have g40_2:=kP ha40 g34_2;have g40_3:=kP ha40 g34_3;have g40_7:=kP ha40 g34_7;have g40_8:=kP ha40 g34_8;have g40_9:get a40 9=v38:=kG ha40 hz34;have g40_10:=kP ha40 g34_10;have g40_11:=kP ha40 g34_11;have g40_21:=kP ha40 g34_21;have g40_22:=kP ha40 g34_22;have g40_23:=kP ha40 g34_23;have hSN:=Nat.le_trans hSl38 fa38.size;refine hK17 a40 w38 ?_;refine Z2 ?_;refine wC (ZJ (k1:=.i64) (i:=(j:Int)) (j:=1) (eK g40_23) rfl ?_);rw[show (IntKind.i64.wrap (((j:Int):Int)+(1:Int)):Int)=(((j+1:Nat):Int):Int) from by simp only[IntKind.wrap,IntKind.bits,IntKind.signed];simp;omega];refine wC (wMv (v:=.int .i64 ((j+1:Nat):Int)) (eS hz40) ?_);refine wEk hz40 hd40 fun a41 ha41 hz41 hd41=>?_;have g41_0:=kP ha41 g40_0;have g41_1:=kP ha41 g40_1;have g41_2:=kP ha41 g40_2;have g41_3:=kP ha41 g40_3;have g41_7:=kP ha41 g40_7;have g41_8:=kP ha41 g40_8;have g41_9:=kP ha41 g40_9;have g41_10:=kP ha41 g40_10;have g41_11:=kP ha41 g40_11;have g41_21:=kP ha41 g40_21;have g41_22:=kP ha41 g40_22;have g41_23:get a41 23 = .int .i64 ((j+1:Nat):Int):=kG ha41 hz40;refine ⟨m - 1,by omega,j+1,_,hz41,hd41,g41_0,g41_1,g41_2,g41_3,g41_7,g41_8,g41_9,g41_10,g41_11,g41_21,g41_22,g41_23,by omega,?_,rb39,hF38,?_⟩
        · rw[hbs,if_pos hcond];exact ho38
        exact hSN
      have hcond:(decide (fd.tag < 0) && fd.has ver)=false:=by simp[hft,hc31]
      refine wp_skip ?_;refine hK17 a30 w26 ?_;refine Z2 ?_;refine wC (ZJ (k1:=.i64) (i:=(j:Int)) (j:=1) (eK g30_23) rfl ?_);rw[show (IntKind.i64.wrap (((j:Int):Int)+(1:Int)):Int)=(((j+1:Nat):Int):Int) from by simp only[IntKind.wrap,IntKind.bits,IntKind.signed];simp;omega];refine wC (wMv (v:=.int .i64 ((j+1:Nat):Int)) (eS hz30) ?_);refine wEk hz30 hd30 fun a42 ha42 hz42 hd42=>?_;have g42_0:=kP ha42 g30_0;have g42_1:=kP ha42 g30_1;have g42_2:=kP ha42 g30_2;have g42_3:=kP ha42 g30_3;have g42_7:=kP ha42 g30_7;have g42_8:=kP ha42 g30_8;have g42_9:=kP ha42 g30_9;have g42_10:=kP ha42 g30_10;have g42_11:=kP ha42 g30_11;have g42_21:=kP ha42 g30_21;have g42_22:=kP ha42 g30_22;have g42_23:get a42 23 = .int .i64 ((j+1:Nat):Int):=kG ha42 hz30;refine ⟨m - 1,by omega,j+1,_,hz42,hd42,g42_0,g42_1,g42_2,g42_3,g42_7,g42_8,g42_9,g42_10,g42_11,g42_21,g42_22,g42_23,by omega,?_,rb28,hF27,?_⟩
      · rw[hbs,hcond,if_neg (by simp),List.append_nil];exact ho.upTo hL27_w12 (From.mono hL27_w12.size)
      exact Nat.le_trans hSl hL27_w12.size
    have hcond:(decide (fd.tag < 0) && fd.has ver)=false:=by simp[hft]
    refine Z0c ?_;refine gCn ?_;refine wFa (b:=w12.heap.size) (i:=0) (hFlT45.fld (by decide)) (eK g24_13) ?_;rw[show (0+4:Nat)=4 from rfl];refine gCn ?_;refine wL0 (j:=4) (v:=.int .i64 fd.tag) hcT3 (eS hz24) r22 rfl ?_;refine gCn ?_;refine Z1E (k1:=.i64) (i:=fd.tag) (j:=0) hft (eS hz24) rfl ?_;refine gCn ?_;refine wMv (v:=.bool false) (eS hz24) ?_;refine Z09 (dj:=31) rfl (lZ hz24) (gS hz24) ?_;refine Z09 (dj:=31) rfl (lZ hz24) (gS hz24) ?_;refine Z09 (dj:=31) rfl (lZ hz24) (gS hz24) ?_;refine gCn ?_;refine ZL (v:=.bool false) (eS hz24) rfl ?_;refine Z0u fun a43 ha43=>?_;have hz43:=kS ha43 hz24;have hd43:=kD ha43 hd24;have g43_0:=kP ha43 g24_0;have g43_1:=kP ha43 g24_1;have g43_2:=kP ha43 g24_2;have g43_3:=kP ha43 g24_3;have g43_7:=kP ha43 g24_7;have g43_8:=kP ha43 g24_8;have g43_9:=kP ha43 g24_9;have g43_10:=kP ha43 g24_10;have g43_11:=kP ha43 g24_11;have g43_21:=kP ha43 g24_21;have g43_22:=kP ha43 g24_22;have g43_23:=kP ha43 g24_23;have g43_35:get a43 35 = .bool false:=kG ha43 hz24;refine hK25 a43 w22 ?_;refine wp_cond_split (t:=false) (eK g43_35) (fun h=>by cases h) (fun _=>?_);refine wp_skip ?_;refine hK17 a43 w22 ?_;refine Z2 ?_;refine wC (ZJ (k1:=.i64) (i:=(j:Int)) (j:=1) (eK g43_23) rfl ?_);rw[show (IntKind.i64.wrap (((j:Int):Int)+(1:Int)):Int)=(((j+1:Nat):Int):Int) from by simp only[IntKind.wrap,IntKind.bits,IntKind.signed];simp;omega];refine wC (wMv (v:=.int .i64 ((j+1:Nat):Int)) (eS hz43) ?_);refine wEk hz43 hd43 fun a45 ha45 hz45 hd45=>?_;have g45_0:=kP ha45 g43_0;have g45_1:=kP ha45 g43_1;have g45_2:=kP ha45 g43_2;have g45_3:=kP ha45 g43_3;have g45_7:=kP ha45 g43_7;have g45_8:=kP ha45 g43_8;have g45_9:=kP ha45 g43_9;have g45_10:=kP ha45 g43_10;have g45_11:=kP ha45 g43_11;have g45_21:=kP ha45 g43_21;have g45_22:=kP ha45 g43_22;have g45_23:get a45 23 = .int .i64 ((j+1:Nat):Int):=kG ha45 hz43;refine ⟨m - 1,by omega,j+1,_,hz45,hd45,g45_0,g45_1,g45_2,g45_3,g45_7,g45_8,g45_9,g45_10,g45_11,g45_21,g45_22,g45_23,by omega,?_,rb23,hF22,?_⟩
    · rw[hbs,hcond,if_neg (by simp),List.append_nil];exact ho.upTo hL22_w12 (From.mono hL22_w12.size)
    exact Nat.le_trans hSl hL22_w12.size
  have hj0:j=fs.length:=by simp at hc16;omega
  rw[hj0] at ho;refine wp_exit ?_;show K9 a14 w12
  refine hK9 a14 w12 (tUp ?_);refine tId (wp_seq_k fun K46 hK46=>?_);refine wS fun K47 hK47=>?_;refine wC (wMv (v:=.bool flex) (eK g14_2) ?_);refine wC (Z4s (b:=flex) (eS hz14) ?_);refine wEk hz14 hd14 fun a48 ha48 hz48 hd48=>?_;have g48_0:=kP ha48 g14_0;have g48_1:=kP ha48 g14_1;have g48_2:=kP ha48 g14_2;have g48_3:=kP ha48 g14_3;have g48_7:=kP ha48 g14_7;have g48_8:=kP ha48 g14_8;have g48_9:=kP ha48 g14_9;have g48_10:=kP ha48 g14_10;have g48_11:=kP ha48 g14_11;have g48_21:=kP ha48 g14_21;have g48_22:=kP ha48 g14_22;have g48_23:=kP ha48 g14_23;have g48_47:get a48 47 = .bool (!flex):=kG ha48 hz14;refine hK47 a48 w12 ?_;refine wp_cond_split (t := !flex) (eK g48_47) (fun hc49=>?_) (fun hc49=>?_)
  · have hfx : flex = false := by simpa using hc49
    refine wS fun K50 hK50=>?_;refine wC (wMv (v:=v9) (eK g48_9) ?_);refine wC (wAs (v:=v9) (eS hz48) ?_);refine wEk hz48 hd48 fun a51 ha51 hz51 hd51=>?_;have g51_8:get a51 8=v9:=kG ha51 hz48;refine hK50 a51 w12 ?_;refine wp_ret ?_;rw[hPW,hfx,if_neg (by simp)];exact ⟨hd51,_,rIs hres g51_8,_,rfl,hfl,ho.from (by omega)⟩
  have hfx:flex=true:=by simpa using hc49
  have hlenF:(Z0R fs ver encs fs.length).length+(uvW ((Zl fs (.mk n s nl l u) encs).length+(ZD fs (.mk n s nl l u)).length)).length+((Zl fs (.mk n s nl l u) encs).flatMap ZP).length+((ZD fs (.mk n s nl l u)).flatMap ZP).length≤4294967296:=by rw[hfx,if_pos rfl] at hlen;simp only[List.length_append] at hlen;omega
  have hkl0:=Z30 (Zl fs (.mk n s nl l u) encs);refine wp_skip ?_;refine hK46 a48 w12 (tUp ?_);refine tId (wp_seq_k fun K52 hK52=>?_);refine wS fun K53 hK53=>?_;refine wC (wMv (v:=.slice q fs.length cap) (eK g48_0) ?_);refine wC (wCr (R:=fun x wz=>x = .int .u32 ((Z7 fs:Nat):Int)∧Fr [] w12 wz) (vs:=#[.slice q fs.length cap]) hKn.enters (mX1 (eS hz48)) ((hKn.call w12 A _ fs (hfs.kept hfl (by simp) (fun _ h=>h)) htg).mono (by rintro e w' ⟨rfl,hf⟩;exact ⟨_,rfl,rfl,hf⟩)) ?_);rintro x54 w54 ⟨rfl,fr54⟩;have hF55:Fr [] w w54:=hfl.tr fr54;have hL55_w12:Fr [] w12 w54:=(Fr.refl [] w12).tr fr54;have rb56:=fr54.range hbl .nil;refine wC (wCv (k1:=.u32) (i:=((Z7 fs:Nat):Int)) hT59_u32 hT3_i64 (eS hz48) ?_);rw[show (IntKind.i64.wrap (((Z7 fs:Nat):Int):Int))=(((Z7 fs:Nat):Int):Int) from by simp only[IntKind.wrap,IntKind.bits,IntKind.signed];simp;omega];refine wC (wMv (v:=.int .i64 0) rfl ?_);refine wEk hz48 hd48 fun a57 ha57 hz57 hd57=>?_;have g57_0:=kP ha57 g48_0;have g57_1:=kP ha57 g48_1;have g57_2:=kP ha57 g48_2;have g57_3:=kP ha57 g48_3;have g57_7:=kP ha57 g48_7;have g57_8:=kP ha57 g48_8;have g57_9:=kP ha57 g48_9;have g57_10:=kP ha57 g48_10;have g57_11:=kP ha57 g48_11;have g57_21:=kP ha57 g48_21;have g57_22:=kP ha57 g48_22;have g57_23:=kP ha57 g48_23;have g57_51:get a57 51 = .int .i64 ((Z7 fs:Nat):Int):=kG ha57 hz48;have g57_52:get a57 52 = .int .i64 0:=kG ha57 hz48;have ho1:=ho.upTo hL55_w12 (From.mono hL55_w12.size);have hb9:∀ b,blk v9=some b→b < w54.heap.size:=fun b hb=>(ho1.blk_lt hb).2;have hS1:w2.heap.size≤w54.heap.size:=Nat.le_trans hSl hL55_w12.size;refine hK53 a57 w54 ?_;refine wp_block (wp_loop_ghost (fun (m2:Nat) a' w'=>∃ (k:Nat) (v10:Value),a'.tmps.size=132∧a'.defers=[]∧get a' 0 = .slice q fs.length cap∧get a' 1 = .int .i64 ver∧get a' 2 = .bool flex∧get a' 3 = .agg ([.int .i64 n,sv,.bool nl,lv,uv]:List Value).toArray∧get a' 7 = .pointer (some ⟨w.heap.size,0,none⟩)∧get a' 8 = .slice none 0 0∧get a' 9=v9∧get a' 10=v10∧get a' 11 = .int .i64 (((knUp fs (.mk n s nl l u) encs k).length:Nat):Int)∧get a' 21 = .slice q fs.length cap∧get a' 22 = .int .i64 ((fs.length:Nat):Int)∧get a' 23 = .int .i64 (j:Int)∧get a' 51 = .int .i64 ((Z7 fs:Nat):Int)∧get a' 52 = .int .i64 (k:Int)∧k+m2=Z7 fs∧Own w' (From w2.heap.size w') 1 v9 ((Z0R fs ver encs fs.length)).length (Z0 (Z0R fs ver encs fs.length))∧Own w' (From w54.heap.size w') 1 v10 (((knUp fs (.mk n s nl l u) encs k).flatMap ZP)).length (Z0 ((knUp fs (.mk n s nl l u) encs k).flatMap ZP))∧w'.rangeAt w.heap.size 0 [.int .i64 n,sv,.bool nl,lv,uv]∧Fr [] w w'∧w54.heap.size≤w'.heap.size) (Z7 fs) ?_ ?_)
  · exact ⟨0,.slice none 0 0,hz57,hd57,g57_0,g57_1,g57_2,g57_3,g57_7,g57_8,g57_9,g57_10,g57_11,g57_21,g57_22,g57_23,g57_51,g57_52,by omega,ho1,Own.nil,rb56,hF55,Nat.le_refl _⟩
  rintro m2 a58 w58 ⟨k,v10,hz58,hd58,g58_0,g58_1,g58_2,g58_3,g58_7,g58_8,g58_9,g58_10,g58_11,g58_21,g58_22,g58_23,g58_51,g58_52,hkm,ho2,ho10,hbl3,hfl2,hSl2⟩;refine wS fun K59 hK59=>?_;refine wC (Z08 (k1:=.i64) (i:=(k:Int)) (j:=((Z7 fs:Nat):Int)) (eK g58_52) (eK g58_51) ?_);refine wEk hz58 hd58 fun a60 ha60 hz60 hd60=>?_;have g60_0:=kP ha60 g58_0;have g60_1:=kP ha60 g58_1;have g60_2:=kP ha60 g58_2;have g60_3:=kP ha60 g58_3;have g60_7:=kP ha60 g58_7;have g60_8:=kP ha60 g58_8;have g60_9:=kP ha60 g58_9;have g60_10:=kP ha60 g58_10;have g60_11:=kP ha60 g58_11;have g60_21:=kP ha60 g58_21;have g60_22:=kP ha60 g58_22;have g60_23:=kP ha60 g58_23;have g60_51:=kP ha60 g58_51;have g60_52:=kP ha60 g58_52;have g60_53:get a60 53 = .bool (decide (((k:Int):Int) < (((Z7 fs:Nat):Int):Int))):=kG ha60 hz58;refine hK59 a60 w58 ?_;refine wp_seq_k fun K61 hK61=>?_;refine wp_cond_split (t:=decide (((k:Int):Int) < (((Z7 fs:Nat):Int):Int))) (eK g60_53) (fun hc62=>?_) (fun hc62=>?_)
  · have hkl : k < Z7 fs := by simpa using hc62
    refine wp_skip ?_;refine hK61 a60 w58 ?_;refine wp_seq_k fun K63 hK63=>?_;refine Zm ?_;refine wS fun K64 hK64=>?_;refine wC (wMv (v:=.int .i64 (k:Int)) (eK g60_52) ?_);refine wC (wAs (v:=.int .i64 (k:Int)) (eS hz60) ?_);refine wEk hz60 hd60 fun a65 ha65 hz65 hd65=>?_;have g65_0:=kP ha65 g60_0;have g65_1:=kP ha65 g60_1;have g65_2:=kP ha65 g60_2;have g65_3:=kP ha65 g60_3;have g65_7:=kP ha65 g60_7;have g65_8:=kP ha65 g60_8;have g65_9:=kP ha65 g60_9;have g65_10:=kP ha65 g60_10;have g65_11:=kP ha65 g60_11;have g65_14:get a65 14 = .int .i64 (k:Int):=kG ha65 hz60;have g65_21:=kP ha65 g60_21;have g65_22:=kP ha65 g60_22;have g65_23:=kP ha65 g60_23;have g65_51:=kP ha65 g60_51;have g65_52:=kP ha65 g60_52;refine hK64 a65 w58 ?_;refine wS fun K66 hK66=>?_;refine wC (wMv (v:=.slice q fs.length cap) (eK g65_0) ?_);refine wC (Zs (n:=fs.length) hsT29 (eS hz65) ?_);refine wC (wMv (v:=.int .i64 0) rfl ?_);refine wEk hz65 hd65 fun a67 ha67 hz67 hd67=>?_;have g67_0:=kP ha67 g65_0;have g67_1:=kP ha67 g65_1;have g67_2:=kP ha67 g65_2;have g67_3:=kP ha67 g65_3;have g67_7:=kP ha67 g65_7;have g67_8:=kP ha67 g65_8;have g67_9:=kP ha67 g65_9;have g67_10:=kP ha67 g65_10;have g67_11:=kP ha67 g65_11;have g67_14:=kP ha67 g65_14;have g67_21:=kP ha67 g65_21;have g67_22:=kP ha67 g65_22;have g67_23:=kP ha67 g65_23;have g67_51:=kP ha67 g65_51;have g67_52:=kP ha67 g65_52;have g67_55:get a67 55 = .slice q fs.length cap:=kG ha67 hz65;have g67_56:get a67 56 = .int .i64 ((fs.length:Nat):Int):=kG ha67 hz65;have g67_57:get a67 57 = .int .i64 0:=kG ha67 hz65;refine hK66 a67 w58 ?_;rw[← Z8h (fs:=fs) (t:=(.mk n s nl l u)) (encs:=encs) (k:=k)] at ho10 g67_11;refine wp_block (wp_loop_ghost (fun (m4:Nat) a' w'=>∃ (j4:Nat) (u10:Value),a'.tmps.size=132∧a'.defers=[]∧get a' 0 = .slice q fs.length cap∧get a' 1 = .int .i64 ver∧get a' 2 = .bool flex∧get a' 3 = .agg ([.int .i64 n,sv,.bool nl,lv,uv]:List Value).toArray∧get a' 7 = .pointer (some ⟨w.heap.size,0,none⟩)∧get a' 8 = .slice none 0 0∧get a' 9=v9∧get a' 10=u10∧get a' 11 = .int .i64 (((knTo fs (.mk n s nl l u) encs k j4).length:Nat):Int)∧get a' 14 = .int .i64 (k:Int)∧get a' 21 = .slice q fs.length cap∧get a' 22 = .int .i64 ((fs.length:Nat):Int)∧get a' 23 = .int .i64 (j:Int)∧get a' 51 = .int .i64 ((Z7 fs:Nat):Int)∧get a' 52 = .int .i64 (k:Int)∧get a' 55 = .slice q fs.length cap∧get a' 56 = .int .i64 ((fs.length:Nat):Int)∧get a' 57 = .int .i64 (j4:Int)∧j4+m4=fs.length∧Own w' (From w2.heap.size w') 1 v9 ((Z0R fs ver encs fs.length)).length (Z0 (Z0R fs ver encs fs.length))∧Own w' (From w54.heap.size w') 1 u10 (((knTo fs (.mk n s nl l u) encs k j4).flatMap ZP)).length (Z0 ((knTo fs (.mk n s nl l u) encs k j4).flatMap ZP))∧w'.rangeAt w.heap.size 0 [.int .i64 n,sv,.bool nl,lv,uv]∧Fr [] w w'∧w54.heap.size≤w'.heap.size) fs.length ?_ ?_)
    · exact ⟨0,v10,hz67,hd67,g67_0,g67_1,g67_2,g67_3,g67_7,g67_8,g67_9,g67_10,g67_11,g67_14,g67_21,g67_22,g67_23,g67_51,g67_52,g67_55,g67_56,g67_57,by omega,ho2.upTo (Fr.refl [] w58) (From.mono (Fr.refl [] w58).size),ho10.upTo (Fr.refl [] w58) (From.mono (Fr.refl [] w58).size),hbl3,hfl2,Nat.le_trans hSl2 (Fr.refl [] w58).size⟩
    rintro m4 a68 w68 ⟨j4,u10,hz68,hd68,g68_0,g68_1,g68_2,g68_3,g68_7,g68_8,g68_9,g68_10,g68_11,g68_14,g68_21,g68_22,g68_23,g68_51,g68_52,g68_55,g68_56,g68_57,hjm4,ho4,hp4,hbl4,hfl4,hSl4⟩;refine wS fun K69 hK69=>?_;refine wC (Z08 (k1:=.i64) (i:=(j4:Int)) (j:=((fs.length:Nat):Int)) (eK g68_57) (eK g68_56) ?_);refine wEk hz68 hd68 fun a70 ha70 hz70 hd70=>?_;have g70_0:=kP ha70 g68_0;have g70_1:=kP ha70 g68_1;have g70_2:=kP ha70 g68_2;have g70_3:=kP ha70 g68_3;have g70_7:=kP ha70 g68_7;have g70_8:=kP ha70 g68_8;have g70_9:=kP ha70 g68_9;have g70_10:=kP ha70 g68_10;have g70_11:=kP ha70 g68_11;have g70_14:=kP ha70 g68_14;have g70_21:=kP ha70 g68_21;have g70_22:=kP ha70 g68_22;have g70_23:=kP ha70 g68_23;have g70_51:=kP ha70 g68_51;have g70_52:=kP ha70 g68_52;have g70_55:=kP ha70 g68_55;have g70_56:=kP ha70 g68_56;have g70_57:=kP ha70 g68_57;have g70_58:get a70 58 = .bool (decide (((j4:Int):Int) < (((fs.length:Nat):Int):Int))):=kG ha70 hz68;refine hK69 a70 w68 ?_;refine wp_seq_k fun K71 hK71=>?_;refine wp_cond_split (t:=decide (((j4:Int):Int) < (((fs.length:Nat):Int):Int))) (eK g70_58) (fun hc72=>?_) (fun hc72=>?_)
    · have hjl : j4 < fs.length := by simpa using hc72
      obtain ⟨fd,hfd⟩:∃ fd,fs[j4]?=some fd:=⟨fs[j4],by simp[hjl]⟩;obtain ⟨bl,ol,cl,hq,hbl2,hrl,hrep⟩:=hk j4 fd hfd;obtain ⟨fsv,rfl,hsub⟩:=ZK.1 hrep;have hFm:=hFi fd (List.mem_of_getElem? hfd);have henc:encs.getD j4 []=Zc fd ver flex (atT l j4):=by rw[hencs,Z2k fs ver flex l 0 j4 fd hfd,Nat.zero_add]
      obtain ⟨kr,hkr⟩:=knTo_pre (fs:=fs) (t:=(.mk n s nl l u)) (encs:=encs) hkl (show j4+1≤fs.length from hjl);have hkpl:((knTo fs (.mk n s nl l u) encs k (j4+1)).flatMap ZP).length≤((Zl fs (.mk n s nl l u) encs).flatMap ZP).length:=by rw[hkr,List.flatMap_append,List.length_append];omega
      have hkll:=Z30 (knTo fs (.mk n s nl l u) encs k (j4+1));have hks:=Z8i (fs:=fs) (t:=(.mk n s nl l u)) (encs:=encs) (k:=k) (j:=j4);refine wp_skip ?_;refine hK71 a70 w68 ?_;refine wp_seq_k fun K73 hK73=>?_;refine Zm ?_;refine wS fun K74 hK74=>?_;refine wC (wMv (v:=.int .i64 (j4:Int)) (eK g70_57) ?_);refine wC (Z14 (b:=bl) (o:=ol) (i:=j4) hs_T29 (by rw[eTm,nZ (by decide),g70_55,hq]) (eK g70_57) hjl ?_);refine wC (Z8 (cs:=[.int .i64 fd.kind,.int .i64 fd.fr,.int .i64 fd.to,.int .i64 fd.nul,.int .i64 fd.tag,.int .i64 fd.df,.int .i64 fd.of,fsv]) (b:=bl) (o:=ol+j4 * 8) hFlT45 rfl (eS hz70) (hfl4.range hrl .nil) ?_);refine wC (Z0A hFlT45 ?_);rintro w75 f75 sz75 r75 th75;have hF76:Fr [] w w75:=hfl4.tr f75;have hL76_w68:Fr [] w68 w75:=(Fr.refl [] w68).tr f75;have rb77:=f75.range hbl4 .nil;refine wC (wAs (v:=.int .i64 (j4:Int)) (eS hz70) ?_);refine wC (Z0g (cs:=[.int .i64 fd.kind,.int .i64 fd.fr,.int .i64 fd.to,.int .i64 fd.nul,.int .i64 fd.tag,.int .i64 fd.df,.int .i64 fd.of,fsv]) (o:=0) hFlT45 rfl (eS hz70) (eS hz70) (by intro u hu;simp at hu;rcases hu with rfl | rfl | rfl | rfl | rfl | rfl | rfl | rfl <;> first | rfl | exact hsub.one) th75 ?_);rintro w78 f78 sz78 r78 th78;have hF78:Fr [] w w78:=hF76.trans f78 (fun r hr=>.inl (by simp at hr;subst hr;have:=hfl4.size;simp only;omega));have rb79:=f78.range rb77 (.cons (.inl (by simp only;omega)) .nil);have hL78_w68:Fr [] w68 w78:=hL76_w68.trans f78 (fun r hr=>.inl (by simp at hr;subst hr;have:=(Fr.refl [] w68).size;simp only;omega));refine wEk hz70 hd70 fun a80 ha80 hz80 hd80=>?_;have g80_0:=kP ha80 g70_0;have g80_1:=kP ha80 g70_1;have g80_2:=kP ha80 g70_2;have g80_3:=kP ha80 g70_3;have g80_7:=kP ha80 g70_7;have g80_8:=kP ha80 g70_8;have g80_9:=kP ha80 g70_9;have g80_10:=kP ha80 g70_10;have g80_11:=kP ha80 g70_11;have g80_14:=kP ha80 g70_14;have g80_15:get a80 15 = .int .i64 (j4:Int):=kG ha80 hz70;have g80_16:get a80 16 = .pointer (some ⟨w68.heap.size,0,none⟩):=kG ha80 hz70;have g80_21:=kP ha80 g70_21;have g80_22:=kP ha80 g70_22;have g80_23:=kP ha80 g70_23;have g80_51:=kP ha80 g70_51;have g80_52:=kP ha80 g70_52;have g80_55:=kP ha80 g70_55;have g80_56:=kP ha80 g70_56;have g80_57:=kP ha80 g70_57;refine hK74 a80 w78 ?_;refine wp_seq_k fun K81 hK81=>?_
      by_cases hte:fd.tag=((k:Nat):Int)
      · have hUs := hUsm fd (List.mem_of_getElem? hfd) (by omega);refine Z0n [spC [] (.pointer (some ⟨w68.heap.size, 4, none⟩)), spC [0] (.int .i64 fd.tag), spC [] (.int .i64 (k : Int)), spC [1, 2] (.bool true), spC [3] (.bool true), spC [4] (.agg ([.int .i64 fd.kind, .int .i64 fd.fr, .int .i64 fd.to, .int .i64 fd.nul, .int .i64 fd.tag, .int .i64 fd.df, .int .i64 fd.of, fsv] : List Value).toArray), spC [4] (.agg ([.int .i64 n, sv, .bool nl, lv, uv] : List Value).toArray), spC [4] (.int .i64 (j4 : Int)), spR [4, 6, 7] (fun x w' => ∃ cs : List Value, x = .agg cs.toArray ∧ RepT w' B cs (atT l j4)), spR [4, 5, 8] (fun x w' => x = .bool (Z02 fd (atT l j4))), spC [4, 9] (.bool (!(Z02 fd (atT l j4)))), spC [4, 10] (.bool (!(Z02 fd (atT l j4))))] 62 [] hmx he17 (by simp [Z0B]) (by simp [spC, spR]) (by simp; omega) ⟨lCc _ _ _, lCc _ _ _, lCc _ _ _, lCc _ _ _, lCc _ _ _, lCc _ _ _, lCc _ _ _, lCc _ _ _, (fun v w1 w2 f h => by obtain ⟨cs, h1, h2⟩ := h; exact ⟨cs, h1, h2.kept f (by simp) (fun _ h => h)⟩), (fun v w1 w2 f h => h), lCc _ _ _, lCc _ _ _, trivial⟩ ?_ ?_
        · refine oCs ?_ ?_
          · refine op_c fun a' w' hk' hf' hd' K' hK'=>?_;refine wFa (b:=w68.heap.size) (i:=0) (hFlT45.fld (by decide)) (by rw[eTm,hk'.get 16 (by omega),g80_16]) ?_;rw[show (0+4:Nat)=4 from rfl];exact hK'
          refine oCs ?_ ?_
          · refine op_c fun a' w' hk' hf' hd' K' hK'=>?_;refine wL0 (j:=4) (v:=.int .i64 fd.tag) hcT3 (by rw[eTm];exact hd'.c (nd':=[]) 0 (by simp) rfl) (hf'.range r78 .nil) rfl ?_;exact hK'
          refine oCs ?_ ?_
          · refine op_c fun a' w' hk' hf' hd' K' hK'=>?_;refine wMv (v:=.int .i64 (k:Int)) (by rw[eTm,hk'.get 14 (by omega),g80_14]) ?_;exact hK'
          refine oCs ?_ ?_
          · refine op_c fun a' w' hk' hf' hd' K' hK'=>?_;refine Z1l (k1:=.i64) (i:=fd.tag) (j:=(k:Int)) hte (by rw[eTm];exact hd'.c (nd':=[0]) 1 (by simp) rfl) (by rw[eTm];exact hd'.c (nd':=[]) 2 (by simp) rfl) ?_;exact hK'
          refine oCs ?_ ?_
          · refine op_c fun a' w' hk' hf' hd' K' hK'=>?_;refine wMv (v:=.bool true) (by rw[eTm];exact hd'.c (nd':=[1,2]) 3 (by simp) rfl) ?_;exact hK'
          refine oCs ?_ ?_
          · refine ZI rfl (by decide) (fun a w h=>h.c (nd':=[3]) 4 (by simp[spC,spR]) rfl) ?_;refine op_c fun a' w' hk' hf' hd' K' hK'=>?_;refine Z8 (cs:=[.int .i64 fd.kind,.int .i64 fd.fr,.int .i64 fd.to,.int .i64 fd.nul,.int .i64 fd.tag,.int .i64 fd.df,.int .i64 fd.of,fsv]) (b:=w68.heap.size) (o:=0) hFlT45 rfl (by rw[eTm,hk'.get 16 (by omega),g80_16]) (hf'.range r78 .nil) ?_;exact hK'
          refine oCs ?_ ?_
          · refine ZI rfl (by decide) (fun a w h=>h.c (nd':=[3]) 4 (by simp[spC,spR]) rfl) ?_;refine op_c fun a' w' hk' hf' hd' K' hK'=>?_;refine Z8 (cs:=[.int .i64 n,sv,.bool nl,lv,uv]) (b:=w.heap.size) (o:=0) hFlT26 rfl (by rw[eTm,hk'.get 7 (by omega),g80_7]) (hf'.range rb79 .nil) ?_;exact hK'
          refine oCs ?_ ?_
          · refine ZI rfl (by decide) (fun a w h=>h.c (nd':=[3]) 4 (by simp[spC,spR]) rfl) ?_;refine op_c fun a' w' hk' hf' hd' K' hK'=>?_;refine wMv (v:=.int .i64 (j4:Int)) (by rw[eTm,hk'.get 15 (by omega),g80_15]) ?_;exact hK'
          refine oCs ?_ ?_
          · refine ZI rfl (by decide) (fun a w h=>h.c (nd':=[3]) 4 (by simp[spC,spR]) rfl) ?_;refine op_r fun a' w' hk' hf' hd' K' hK'=>?_;refine wCr (R:=fun x wz=>∃ cs:List Value,x = .agg cs.toArray∧Fr [] w' wz∧((∀ b,B b→b < w'.heap.size)→RepT wz B cs (atT l j4))) (vs:=#[.agg ([.int .i64 n,sv,.bool nl,lv,uv]:List Value).toArray,.int .i64 (j4:Int)]) hAt.enters (by simp only[List.map_toArray,List.map_cons,List.map_nil];rw[show a'.eval (.tmp 68)=Value.agg ([.int .i64 n,sv,.bool nl,lv,uv]:List Value).toArray from (by rw[eTm];exact hd'.c (nd':=[4]) 6 (by simp) rfl),show a'.eval (.tmp 69)=Value.int .i64 (j4:Int) from (by rw[eTm];exact hd'.c (nd':=[4]) 7 (by simp) rfl)]) ((hAt.call w' B _ (.mk n s nl l u) j4 (ht0.kept (hF78.tr hf') (by simp) (fun _ h=>h))).mono (by rintro e wz ⟨cs,rfl,h1,h2⟩;exact ⟨_,rfl,cs,rfl,h1,h2⟩)) ?_;rintro _ w82 ⟨cs82,rfl,fr82,hr82⟩;exact hK' _ w82 ⟨cs82,rfl,hr82 (fun b hb=>Nat.lt_of_lt_of_le (hB b hb) (hF78.tr hf').size)⟩ fr82
          refine oCs ?_ ?_
          · refine ZI rfl (by decide) (fun a w h=>h.c (nd':=[3]) 4 (by simp[spC,spR]) rfl) ?_;refine op_r fun a' w' hk' hf' hd' K' hK'=>?_;obtain ⟨ct',hct,hrt'⟩:∃ cs:List Value,get a' 70 = .agg cs.toArray∧RepT w' B cs (atT l j4):=hd'.at (d:=8) (by simp) rfl;refine wCr (R:=fun x wz=>x = .bool (Z02 fd (atT l j4))∧Fr [] w' wz) (vs:=#[.agg ([.int .i64 fd.kind,.int .i64 fd.fr,.int .i64 fd.to,.int .i64 fd.nul,.int .i64 fd.tag,.int .i64 fd.df,.int .i64 fd.of,fsv]:List Value).toArray,.agg ct'.toArray]) hUs.enters (by simp only[List.map_toArray,List.map_cons,List.map_nil];rw[show a'.eval (.tmp 67)=Value.agg ([.int .i64 fd.kind,.int .i64 fd.fr,.int .i64 fd.to,.int .i64 fd.nul,.int .i64 fd.tag,.int .i64 fd.df,.int .i64 fd.of,fsv]:List Value).toArray from (by rw[eTm];exact hd'.c (nd':=[4]) 5 (by simp) rfl),show a'.eval (.tmp 70)=Value.agg ct'.toArray from (by rw[eTm];exact hct)]) ((hUs.call w' A B _ _ _ (hrep.kept (hF78.tr hf') (by simp) (fun _ h=>h)) hrt').mono (by rintro e wz ⟨rfl,h⟩;exact ⟨_,rfl,rfl,h⟩)) ?_;rintro x wz ⟨rfl,fr⟩;exact hK' _ wz rfl fr
          refine oCs ?_ ?_
          · refine ZI rfl (by decide) (fun a w h=>h.c (nd':=[3]) 4 (by simp[spC,spR]) rfl) ?_;refine op_c fun a' w' hk' hf' hd' K' hK'=>?_;have hu9:get a' 71 = .bool (Z02 fd (atT l j4)):=hd'.at (d:=9) (by simp) rfl;refine Z4s (b:=Z02 fd (atT l j4)) (by rw[eTm];exact hu9) ?_;exact hK'
          refine oCs ?_ ?_
          · refine op_c fun a' w' hk' hf' hd' K' hK'=>?_;refine Zv (v:=.bool (!(Z02 fd (atT l j4)))) (by rw[eTm];exact hd'.c (nd':=[3]) 4 (by simp) rfl) (by rw[eTm];exact hd'.c (nd':=[4,9]) 10 (by simp) rfl) ?_;exact hK'
          exact ZY
        intro a83 w83 k83 f83 hd_83;have g83_0:get a83 0 = .slice q fs.length cap:=by rw[k83.get 0 (by omega),g80_0]
        have g83_1:get a83 1 = .int .i64 ver:=by rw[k83.get 1 (by omega),g80_1]
        have g83_2:get a83 2 = .bool flex:=by rw[k83.get 2 (by omega),g80_2]
        have g83_3:get a83 3 = .agg ([.int .i64 n,sv,.bool nl,lv,uv]:List Value).toArray:=by rw[k83.get 3 (by omega),g80_3]
        have g83_7:get a83 7 = .pointer (some ⟨w.heap.size,0,none⟩):=by rw[k83.get 7 (by omega),g80_7]
        have g83_8:get a83 8 = .slice none 0 0:=by rw[k83.get 8 (by omega),g80_8]
        have g83_9:get a83 9=v9:=by rw[k83.get 9 (by omega),g80_9]
        have g83_10:get a83 10=u10:=by rw[k83.get 10 (by omega),g80_10]
        have g83_11:get a83 11 = .int .i64 (((knTo fs (.mk n s nl l u) encs k j4).length:Nat):Int):=by rw[k83.get 11 (by omega),g80_11]
        have g83_14:get a83 14 = .int .i64 (k:Int):=by rw[k83.get 14 (by omega),g80_14]
        have g83_15:get a83 15 = .int .i64 (j4:Int):=by rw[k83.get 15 (by omega),g80_15]
        have g83_16:get a83 16 = .pointer (some ⟨w68.heap.size,0,none⟩):=by rw[k83.get 16 (by omega),g80_16]
        have g83_21:get a83 21 = .slice q fs.length cap:=by rw[k83.get 21 (by omega),g80_21]
        have g83_22:get a83 22 = .int .i64 ((fs.length:Nat):Int):=by rw[k83.get 22 (by omega),g80_22]
        have g83_23:get a83 23 = .int .i64 (j:Int):=by rw[k83.get 23 (by omega),g80_23]
        have g83_51:get a83 51 = .int .i64 ((Z7 fs:Nat):Int):=by rw[k83.get 51 (by omega),g80_51]
        have g83_52:get a83 52 = .int .i64 (k:Int):=by rw[k83.get 52 (by omega),g80_52]
        have g83_55:get a83 55 = .slice q fs.length cap:=by rw[k83.get 55 (by omega),g80_55]
        have g83_56:get a83 56 = .int .i64 ((fs.length:Nat):Int):=by rw[k83.get 56 (by omega),g80_56]
        have g83_57:get a83 57 = .int .i64 (j4:Int):=by rw[k83.get 57 (by omega),g80_57]
        have hz83:a83.tmps.size=132:=k83.size.trans hz80;have hd83:a83.defers=[]:=k83.defers.trans hd80;have g83_73:get a83 73 = .bool (!(Z02 fd (atT l j4))):=hd_83.c (nd':=[4,10]) 11 (by simp) rfl;have hF84:Fr [] w w83:=hF78.tr f83;have hL84_w68:Fr [] w68 w83:=hL78_w68.tr f83;have rb85:=f83.range rb79 .nil;have rb86:=f83.range r78 .nil;refine hK81 a83 w83 ?_;refine wp_cond_split (t := !(Z02 fd (atT l j4))) (eK g83_73) (fun hc87=>?_) (fun hc87=>?_)
        · have hkn : knAt fs (.mk n s nl l u) encs k j4 = [(k, Zc fd ver flex (atT l j4))] := by rw [← henc]; simpa [knAt, hfd, hte, T.l] using hc87
          refine wp_seq_k fun K88 hK88=>?_;rw[hkn] at hks;have hpk:(knTo fs (.mk n s nl l u) encs k (j4+1)).flatMap ZP=(((knTo fs (.mk n s nl l u) encs k j4).flatMap ZP++uvW k)++uvW (Zc fd ver flex (atT l j4)).length)++Zc fd ver flex (atT l j4):=by rw[hks];simp[List.flatMap_append,ZP]
          rw[hpk] at hkpl;simp only[List.length_append] at hkpl;have hkl2:(knTo fs (.mk n s nl l u) encs k j4).length≤4294967296:=by have:=Z30 (knTo fs (.mk n s nl l u) encs k j4);omega
          have hoA:=hp4.upTo hL84_w68 (From.mono hL84_w68.size);refine Z1d (os:=[oL 74 T45 16 t68 p68 e68,oM 75 1 t69 p69 e69,oM 76 2 t70 p70 e70,oL 77 T26 7 t71 p71 e71,oM 78 15 t72 p72 e72,oC 79 f56 #[(.tmp 77),(.tmp 78)] ct6 t73 p73 e73,oC 80 f55 #[(.tmp 74),(.tmp 75),(.tmp 76),(.tmp 79)] ct7 t74 p74 e74]) (rest:=[oT 17 80 t75 p75 e75]) [spC [] (.agg ([.int .i64 fd.kind,.int .i64 fd.fr,.int .i64 fd.to,.int .i64 fd.nul,.int .i64 fd.tag,.int .i64 fd.df,.int .i64 fd.of,fsv]:List Value).toArray),spC [] (.int .i64 ver),spC [] (.bool flex),spC [] (.agg ([.int .i64 n,sv,.bool nl,lv,uv]:List Value).toArray),spC [] (.int .i64 (j4:Int)),spR [3,4] (fun x w'=>∃ cs:List Value,x = .agg cs.toArray∧RepT w' B cs (atT l j4)),spR [0,1,2,5] (fun x w'=>Own w' (From w83.heap.size w') 1 x (Zc fd ver flex (atT l j4)).length (Z0 (Zc fd ver flex (atT l j4))))] 74 [] hmx he18 (by simp[Z0B]) (by simp[Z1f]) (by simp[spC,spR]) (by simp;omega) ⟨lCc _ _ _,lCc _ _ _,lCc _ _ _,lCc _ _ _,lCc _ _ _,(fun v w1 w2 f h=>by obtain ⟨cs,h1,h2⟩:=h;exact ⟨cs,h1,h2.kept f (by simp) (fun _ h=>h)⟩),(fun v w1 w2 f h=>h.upTo f (From.mono f.size)),trivial⟩ ?_ ?_
          · refine oCs ?_ ?_
            · refine op_c fun a' w' hk' hf' hd' K' hK'=>?_;refine Z8 (cs:=[.int .i64 fd.kind,.int .i64 fd.fr,.int .i64 fd.to,.int .i64 fd.nul,.int .i64 fd.tag,.int .i64 fd.df,.int .i64 fd.of,fsv]) (b:=w68.heap.size) (o:=0) hFlT45 rfl (by rw[eTm,hk'.get 16 (by omega),g83_16]) (hf'.range rb86 .nil) ?_;exact hK'
            refine oCs ?_ ?_
            · refine op_c fun a' w' hk' hf' hd' K' hK'=>?_;refine wMv (v:=.int .i64 ver) (by rw[eTm,hk'.get 1 (by omega),g83_1]) ?_;exact hK'
            refine oCs ?_ ?_
            · refine op_c fun a' w' hk' hf' hd' K' hK'=>?_;refine wMv (v:=.bool flex) (by rw[eTm,hk'.get 2 (by omega),g83_2]) ?_;exact hK'
            refine oCs ?_ ?_
            · refine op_c fun a' w' hk' hf' hd' K' hK'=>?_;refine Z8 (cs:=[.int .i64 n,sv,.bool nl,lv,uv]) (b:=w.heap.size) (o:=0) hFlT26 rfl (by rw[eTm,hk'.get 7 (by omega),g83_7]) (hf'.range rb85 .nil) ?_;exact hK'
            refine oCs ?_ ?_
            · refine op_c fun a' w' hk' hf' hd' K' hK'=>?_;refine wMv (v:=.int .i64 (j4:Int)) (by rw[eTm,hk'.get 15 (by omega),g83_15]) ?_;exact hK'
            refine oCs ?_ ?_
            · refine op_r fun a' w' hk' hf' hd' K' hK'=>?_;refine wCr (R:=fun x wz=>∃ cs:List Value,x = .agg cs.toArray∧Fr [] w' wz∧((∀ b,B b→b < w'.heap.size)→RepT wz B cs (atT l j4))) (vs:=#[.agg ([.int .i64 n,sv,.bool nl,lv,uv]:List Value).toArray,.int .i64 (j4:Int)]) hAt.enters (by simp only[List.map_toArray,List.map_cons,List.map_nil];rw[show a'.eval (.tmp 77)=Value.agg ([.int .i64 n,sv,.bool nl,lv,uv]:List Value).toArray from (by rw[eTm];exact hd'.c (nd':=[]) 3 (by simp) rfl),show a'.eval (.tmp 78)=Value.int .i64 (j4:Int) from (by rw[eTm];exact hd'.c (nd':=[]) 4 (by simp) rfl)]) ((hAt.call w' B _ (.mk n s nl l u) j4 (ht0.kept (hF84.tr hf') (by simp) (fun _ h=>h))).mono (by rintro e wz ⟨cs,rfl,h1,h2⟩;exact ⟨_,rfl,cs,rfl,h1,h2⟩)) ?_;rintro _ w89 ⟨cs89,rfl,fr89,hr89⟩;exact hK' _ w89 ⟨cs89,rfl,hr89 (fun b hb=>Nat.lt_of_lt_of_le (hB b hb) (hF84.tr hf').size)⟩ fr89
            refine oCs ?_ ?_
            · refine op_r fun a' w' hk' hf' hd' K' hK'=>?_;obtain ⟨ct',hct,hrt'⟩:∃ cs:List Value,get a' 79 = .agg cs.toArray∧RepT w' B cs (atT l j4):=hd'.at (d:=5) (by simp) rfl;refine wCr (R:=fun vz wz=>Fr [] w' wz∧Own wz (From w'.heap.size wz) 1 vz (Zc fd ver flex (atT l j4)).length (Z0 (Zc fd ver flex (atT l j4)))) (vs:=#[.agg ([.int .i64 fd.kind,.int .i64 fd.fr,.int .i64 fd.to,.int .i64 fd.nul,.int .i64 fd.tag,.int .i64 fd.df,.int .i64 fd.of,fsv]:List Value).toArray,.int .i64 ver,.bool flex,.agg ct'.toArray]) hFm.enters (by simp only[List.map_toArray,List.map_cons,List.map_nil];rw[show a'.eval (.tmp 74)=Value.agg ([.int .i64 fd.kind,.int .i64 fd.fr,.int .i64 fd.to,.int .i64 fd.nul,.int .i64 fd.tag,.int .i64 fd.df,.int .i64 fd.of,fsv]:List Value).toArray from (by rw[eTm];exact hd'.c (nd':=[]) 0 (by simp) rfl),show a'.eval (.tmp 75)=Value.int .i64 ver from (by rw[eTm];exact hd'.c (nd':=[]) 1 (by simp) rfl),show a'.eval (.tmp 76)=Value.bool flex from (by rw[eTm];exact hd'.c (nd':=[]) 2 (by simp) rfl),show a'.eval (.tmp 79)=Value.agg ct'.toArray from (by rw[eTm];exact hct)]) (Za (hFm.call w' A B ver flex _ ct' (atT l j4) (hrep.kept (hF84.tr hf') (by simp) (fun _ h=>h)) hrt' (fun b hb=>Nat.lt_of_lt_of_le (hA b hb) (hF84.tr hf').size) (fun b hb=>Nat.lt_of_lt_of_le (hB b hb) (hF84.tr hf').size) (by omega))) ?_;rintro x90 w90 ⟨fr90,ow90⟩;exact hK' x90 w90 (ow90.from hf'.size) fr90
            exact ZY
          intro a91 w91 k91 f91 hd_91;have g91_0:get a91 0 = .slice q fs.length cap:=by rw[k91.get 0 (by omega),g83_0]
          have g91_1:get a91 1 = .int .i64 ver:=by rw[k91.get 1 (by omega),g83_1]
          have g91_2:get a91 2 = .bool flex:=by rw[k91.get 2 (by omega),g83_2]
          have g91_3:get a91 3 = .agg ([.int .i64 n,sv,.bool nl,lv,uv]:List Value).toArray:=by rw[k91.get 3 (by omega),g83_3]
          have g91_7:get a91 7 = .pointer (some ⟨w.heap.size,0,none⟩):=by rw[k91.get 7 (by omega),g83_7]
          have g91_8:get a91 8 = .slice none 0 0:=by rw[k91.get 8 (by omega),g83_8]
          have g91_9:get a91 9=v9:=by rw[k91.get 9 (by omega),g83_9]
          have g91_10:get a91 10=u10:=by rw[k91.get 10 (by omega),g83_10]
          have g91_11:get a91 11 = .int .i64 (((knTo fs (.mk n s nl l u) encs k j4).length:Nat):Int):=by rw[k91.get 11 (by omega),g83_11]
          have g91_14:get a91 14 = .int .i64 (k:Int):=by rw[k91.get 14 (by omega),g83_14]
          have g91_21:get a91 21 = .slice q fs.length cap:=by rw[k91.get 21 (by omega),g83_21]
          have g91_22:get a91 22 = .int .i64 ((fs.length:Nat):Int):=by rw[k91.get 22 (by omega),g83_22]
          have g91_23:get a91 23 = .int .i64 (j:Int):=by rw[k91.get 23 (by omega),g83_23]
          have g91_51:get a91 51 = .int .i64 ((Z7 fs:Nat):Int):=by rw[k91.get 51 (by omega),g83_51]
          have g91_52:get a91 52 = .int .i64 (k:Int):=by rw[k91.get 52 (by omega),g83_52]
          have g91_55:get a91 55 = .slice q fs.length cap:=by rw[k91.get 55 (by omega),g83_55]
          have g91_56:get a91 56 = .int .i64 ((fs.length:Nat):Int):=by rw[k91.get 56 (by omega),g83_56]
          have g91_57:get a91 57 = .int .i64 (j4:Int):=by rw[k91.get 57 (by omega),g83_57]
          have hz91:a91.tmps.size=132:=k91.size.trans hz83;have hd91:a91.defers=[]:=k91.defers.trans hd83;have hF92:Fr [] w w91:=hF84.tr f91;have hL92_w68:Fr [] w68 w91:=hL84_w68.tr f91;have hL92_w83:Fr [] w83 w91:=(Fr.refl [] w83).tr f91;have rb93:=f91.range rb85 .nil;have rb94:=f91.range rb86 .nil;have hv:Own w91 (From w83.heap.size w91) 1 (get a91 80) (Zc fd ver flex (atT l j4)).length (Z0 (Zc fd ver flex (atT l j4))):=hd_91.at (d:=6) (by simp) rfl;obtain ⟨q17,c17,hs17⟩:=hv.sl;rw[hs17] at hv;refine wC (wAs (v:=.slice q17 ((Zc fd ver flex (atT l j4)).length) c17) (by rw[eTm,hs17]) ?_);refine wEk hz91 hd91 fun a95 ha95 hz95 hd95=>?_;have g95_0:=kP ha95 g91_0;have g95_1:=kP ha95 g91_1;have g95_2:=kP ha95 g91_2;have g95_3:=kP ha95 g91_3;have g95_7:=kP ha95 g91_7;have g95_8:=kP ha95 g91_8;have g95_9:=kP ha95 g91_9;have g95_10:=kP ha95 g91_10;have g95_11:=kP ha95 g91_11;have g95_14:=kP ha95 g91_14;have g95_17:get a95 17 = .slice q17 ((Zc fd ver flex (atT l j4)).length) c17:=kG ha95 hz91;have g95_21:=kP ha95 g91_21;have g95_22:=kP ha95 g91_22;have g95_23:=kP ha95 g91_23;have g95_51:=kP ha95 g91_51;have g95_52:=kP ha95 g91_52;have g95_55:=kP ha95 g91_55;have g95_56:=kP ha95 g91_56;have g95_57:=kP ha95 g91_57;refine hK88 a95 w91 ?_;refine wp_seq_k fun K96 hK96=>?_;have hm0:w54.heap.size≤w83.heap.size:=Nat.le_trans hSl4 hL84_w68.size;have hm1:w83.heap.size≤w91.heap.size:=hL92_w83.size;have hoB:Own w91 (Gap w54.heap.size w83.heap.size w91.heap.size w91) 1 u10 _ _:=hoA.upTo hL92_w83 (fun b hb=>.inl hb);have hvB:OctE w91 (fun b=>w83.heap.size≤b∧b < w91.heap.size) _ _:=hv.octE (by omega);have hxB:=ho4.upTo hL92_w68 (From.mono hL92_w68.size);have hSB:w91.heap.size≤w91.heap.size:=Nat.le_refl _;refine Z2 ?_;refine wC (wMv (v:=u10) (eK g95_10) ?_);refine wC (wMv (v:=.int .i64 (k:Int)) (eK g95_14) ?_);refine wC (wCv (k1:=.i64) (i:=(k:Int)) hT3_i64 hT76_u64 (eS hz95) ?_);rw[show (IntKind.u64.wrap ((k:Int):Int))=(((k:Nat):Int):Int) from by simp only[IntKind.wrap,IntKind.bits,IntKind.signed];simp;omega];refine wC (wCr (R:=fun vz wz=>Fr [] w91 wz∧Own wz (From w91.heap.size wz) 1 vz (uvW k).length (Z0 (uvW k))) (vs:=#[.int .u64 ((k:Nat):Int)]) hUv.enters (mX1 (eS hz95)) (Za (hUv.call w91 k (by omega))) ?_);rintro x97 w97 ⟨fr97,ow97⟩;have hF98:Fr [] w w97:=hF92.tr fr97;have rb99:=fr97.range rb93 .nil;have rb100:=fr97.range rb94 .nil;have hy101:=hvB.kept fr97 (by simp) (fun _ h=>h);have hx101:=hxB.upTo fr97 (From.mono fr97.size);have hS101:=Nat.le_trans hSB fr97.size;have hoo101:=hoB.upTo fr97 (Gap.mono fr97.size);rw[wCo];have ob102:=hoo101;have hSl102:w91.heap.size≤w97.heap.size:=hS101;refine Z0d hs_T22 hz_T22 (eS hz95) (eS hz95) ob102 (ow97.octE (by omega)) (by omega) ?_;rintro v102 w102 fa102 oa102 sp102 bk102;have ho102:Own w102 (Gap w54.heap.size w83.heap.size w91.heap.size w102) 1 v102 _ _:=oa102.imp_A (Z4F hSl102 fa102.size);have hF102:Fr [] w w102:=Z0G hF98 fa102 ob102 (fun b hb=>by rcases hb with hb | hb <;> omega);have rb103:=fa102.range rb99 (fun r hr=>.inl fun e=>by rcases ob102.spare_in r hr with h1 | h1 <;> omega);have hy104:=hy101.kept fa102 (A':=fun b=>w83.heap.size≤b∧b < w91.heap.size) (fun r hr hb=>by rcases ob102.spare_in r hr with h1 | h1 <;> omega) (fun _ h=>h);have hx104:=hx101.kept fa102 (A':=From w2.heap.size w102) (by intro r hr hb g o cap hv e;exfalso;have h2:=hb9 g (by rw[hv];rfl);rcases ob102.spare_in r hr with h1 | h1 <;> omega) (From.mono fa102.size);have hS104:=Nat.le_trans hS101 fa102.size;refine wC (wMv (v:=.slice q17 ((Zc fd ver flex (atT l j4)).length) c17) (eK g95_17) ?_);refine wC (Zs (n:=(Zc fd ver flex (atT l j4)).length) hsT22 (eS hz95) ?_);refine wC (wCv (k1:=.i64) (i:=(((Zc fd ver flex (atT l j4)).length:Nat):Int)) hT3_i64 hT76_u64 (eS hz95) ?_);rw[show (IntKind.u64.wrap ((((Zc fd ver flex (atT l j4)).length:Nat):Int):Int))=((((Zc fd ver flex (atT l j4)).length:Nat):Int):Int) from Z3M (by omega)];refine wC (wCr (R:=fun vz wz=>Fr [] w102 wz∧Own wz (From w102.heap.size wz) 1 vz (uvW ((Zc fd ver flex (atT l j4)).length)).length (Z0 (uvW ((Zc fd ver flex (atT l j4)).length)))) (vs:=#[.int .u64 (((Zc fd ver flex (atT l j4)).length:Nat):Int)]) hUv.enters (mX1 (eS hz95)) (Za (hUv.call w102 ((Zc fd ver flex (atT l j4)).length) (by omega))) ?_);rintro x105 w105 ⟨fr105,ow105⟩;have hF106:Fr [] w w105:=hF102.tr fr105;have rb107:=fr105.range rb103 .nil;have hy108:=hy104.kept fr105 (by simp) (fun _ h=>h);have hx108:=hx104.upTo fr105 (From.mono fr105.size);have hS108:=Nat.le_trans hS104 fr105.size;have hoo108:=ho102.upTo fr105 (Gap.mono fr105.size);rw[wCo];have ob109:=hoo108;have hSl109:w91.heap.size≤w105.heap.size:=hS108;refine Z0d hs_T22 hz_T22 (eS hz95) (eS hz95) ob109 (ow105.octE (by omega)) (by simp only[List.length_append];omega) ?_;rintro v109 w109 fa109 oa109 sp109 bk109;have ho109:Own w109 (Gap w54.heap.size w83.heap.size w91.heap.size w109) 1 v109 _ _:=oa109.imp_A (Z4F hSl109 fa109.size);have hF109:Fr [] w w109:=Z0G hF106 fa109 ob109 (fun b hb=>by rcases hb with hb | hb <;> omega);have rb110:=fa109.range rb107 (fun r hr=>.inl fun e=>by rcases ob109.spare_in r hr with h1 | h1 <;> omega);have hy111:=hy108.kept fa109 (A':=fun b=>w83.heap.size≤b∧b < w91.heap.size) (fun r hr hb=>by rcases ob109.spare_in r hr with h1 | h1 <;> omega) (fun _ h=>h);have hx111:=hx108.kept fa109 (A':=From w2.heap.size w109) (by intro r hr hb g o cap hv e;exfalso;have h2:=hb9 g (by rw[hv];rfl);rcases ob109.spare_in r hr with h1 | h1 <;> omega) (From.mono fa109.size);have hS111:=Nat.le_trans hS108 fa109.size;refine wC (wMv (v:=.slice q17 ((Zc fd ver flex (atT l j4)).length) c17) (eK g95_17) ?_);rw[wCo];have ob112:=ho109;have hSl112:w91.heap.size≤w109.heap.size:=hS111;refine Z0d hs_T22 hz_T22 (eS hz95) (eS hz95) ob112 hy111 (by simp only[List.length_append];omega) ?_;rintro v112 w112 fa112 oa112 sp112 bk112;have ho112:Own w112 (Gap w54.heap.size w83.heap.size w91.heap.size w112) 1 v112 _ _:=oa112.imp_A (Z4F hSl112 fa112.size);have hF112:Fr [] w w112:=Z0G hF109 fa112 ob112 (fun b hb=>by rcases hb with hb | hb <;> omega);have rb113:=fa112.range rb110 (fun r hr=>.inl fun e=>by rcases ob112.spare_in r hr with h1 | h1 <;> omega);have hy114:=hy111.kept fa112 (A':=fun b=>w83.heap.size≤b∧b < w91.heap.size) (fun r hr hb=>by rcases ob112.spare_in r hr with h1 | h1 <;> omega) (fun _ h=>h);have hx114:=hx111.kept fa112 (A':=From w2.heap.size w112) (by intro r hr hb g o cap hv e;exfalso;have h2:=hb9 g (by rw[hv];rfl);rcases ob112.spare_in r hr with h1 | h1 <;> omega) (From.mono fa112.size);have hS114:=Nat.le_trans hS111 fa112.size;refine wC (wAs (v:=v112) (eS hz95) ?_);refine wEk hz95 hd95 fun a115 ha115 hz115 hd115=>?_;have g115_0:=kP ha115 g95_0;have g115_1:=kP ha115 g95_1;have g115_2:=kP ha115 g95_2;have g115_3:=kP ha115 g95_3;have g115_7:=kP ha115 g95_7;have g115_8:=kP ha115 g95_8;have g115_9:=kP ha115 g95_9;have g115_10:get a115 10=v112:=kG ha115 hz95;have g115_11:=kP ha115 g95_11;have g115_14:=kP ha115 g95_14;have g115_21:=kP ha115 g95_21;have g115_22:=kP ha115 g95_22;have g115_23:=kP ha115 g95_23;have g115_51:=kP ha115 g95_51;have g115_52:=kP ha115 g95_52;have g115_55:=kP ha115 g95_55;have g115_56:=kP ha115 g95_56;have g115_57:=kP ha115 g95_57;have hkl1:(knTo fs (.mk n s nl l u) encs k (j4+1)).length=(knTo fs (.mk n s nl l u) encs k j4).length+1:=by rw[hks];simp
          refine hK96 a115 w112 ?_;refine Z2 ?_;refine wC (wMv (v:=.int .i64 (((knTo fs (.mk n s nl l u) encs k j4).length:Nat):Int)) (eK g115_11) ?_);refine wC (ZJ (k1:=.i64) (i:=(((knTo fs (.mk n s nl l u) encs k j4).length:Nat):Int)) (j:=1) (eS hz115) rfl ?_);rw[show (IntKind.i64.wrap (((((knTo fs (.mk n s nl l u) encs k j4).length:Nat):Int):Int)+(1:Int)):Int)=((((knTo fs (.mk n s nl l u) encs k (j4+1)).length:Nat):Int):Int) from by rw[hkl1];simp only[IntKind.wrap,IntKind.bits,IntKind.signed];simp;omega];refine wC (wAs (v:=.int .i64 (((knTo fs (.mk n s nl l u) encs k (j4+1)).length:Nat):Int)) (eS hz115) ?_);refine wEk hz115 hd115 fun a116 ha116 hz116 hd116=>?_;have g116_0:=kP ha116 g115_0;have g116_1:=kP ha116 g115_1;have g116_2:=kP ha116 g115_2;have g116_3:=kP ha116 g115_3;have g116_7:=kP ha116 g115_7;have g116_8:=kP ha116 g115_8;have g116_9:=kP ha116 g115_9;have g116_10:=kP ha116 g115_10;have g116_11:get a116 11 = .int .i64 (((knTo fs (.mk n s nl l u) encs k (j4+1)).length:Nat):Int):=kG ha116 hz115;have g116_14:=kP ha116 g115_14;have g116_21:=kP ha116 g115_21;have g116_22:=kP ha116 g115_22;have g116_23:=kP ha116 g115_23;have g116_51:=kP ha116 g115_51;have g116_52:=kP ha116 g115_52;have g116_55:=kP ha116 g115_55;have g116_56:=kP ha116 g115_56;have g116_57:=kP ha116 g115_57;refine hK73 a116 w112 ?_;refine Z2 ?_;refine wC (ZJ (k1:=.i64) (i:=(j4:Int)) (j:=1) (eK g116_57) rfl ?_);rw[show (IntKind.i64.wrap (((j4:Int):Int)+(1:Int)):Int)=(((j4+1:Nat):Int):Int) from by simp only[IntKind.wrap,IntKind.bits,IntKind.signed];simp;omega];refine wC (wMv (v:=.int .i64 ((j4+1:Nat):Int)) (eS hz116) ?_);refine wEk hz116 hd116 fun a117 ha117 hz117 hd117=>?_;have g117_0:=kP ha117 g116_0;have g117_1:=kP ha117 g116_1;have g117_2:=kP ha117 g116_2;have g117_3:=kP ha117 g116_3;have g117_7:=kP ha117 g116_7;have g117_8:=kP ha117 g116_8;have g117_9:=kP ha117 g116_9;have g117_10:=kP ha117 g116_10;have g117_11:=kP ha117 g116_11;have g117_14:=kP ha117 g116_14;have g117_21:=kP ha117 g116_21;have g117_22:=kP ha117 g116_22;have g117_23:=kP ha117 g116_23;have g117_51:=kP ha117 g116_51;have g117_52:=kP ha117 g116_52;have g117_55:=kP ha117 g116_55;have g117_56:=kP ha117 g116_56;have g117_57:get a117 57 = .int .i64 ((j4+1:Nat):Int):=kG ha117 hz116;refine ⟨m4 - 1,by omega,j4+1,_,hz117,hd117,g117_0,g117_1,g117_2,g117_3,g117_7,g117_8,g117_9,g117_10,g117_11,g117_14,g117_21,g117_22,g117_23,g117_51,g117_52,g117_55,g117_56,g117_57,by omega,hx114,?_,rb113,hF112,by omega⟩;rw[hpk];exact ho112.imp_A (fun b hb=>by rcases hb with hb | hb;exact ⟨hb.1,by omega⟩;exact ⟨by omega,hb.2⟩)
        have hkn:knAt fs (.mk n s nl l u) encs k j4=[]:=by simpa [knAt,hfd,hte,T.l] using hc87
        refine wp_skip ?_;refine hK73 a83 w83 ?_;refine Z2 ?_;refine wC (ZJ (k1:=.i64) (i:=(j4:Int)) (j:=1) (eK g83_57) rfl ?_);rw[show (IntKind.i64.wrap (((j4:Int):Int)+(1:Int)):Int)=(((j4+1:Nat):Int):Int) from by simp only[IntKind.wrap,IntKind.bits,IntKind.signed];simp;omega];refine wC (wMv (v:=.int .i64 ((j4+1:Nat):Int)) (eS hz83) ?_);refine wEk hz83 hd83 fun a118 ha118 hz118 hd118=>?_;have g118_0:=kP ha118 g83_0;have g118_1:=kP ha118 g83_1;have g118_2:=kP ha118 g83_2;have g118_3:=kP ha118 g83_3;have g118_7:=kP ha118 g83_7;have g118_8:=kP ha118 g83_8;have g118_9:=kP ha118 g83_9;have g118_10:=kP ha118 g83_10;have g118_11:=kP ha118 g83_11;have g118_14:=kP ha118 g83_14;have g118_21:=kP ha118 g83_21;have g118_22:=kP ha118 g83_22;have g118_23:=kP ha118 g83_23;have g118_51:=kP ha118 g83_51;have g118_52:=kP ha118 g83_52;have g118_55:=kP ha118 g83_55;have g118_56:=kP ha118 g83_56;have g118_57:get a118 57 = .int .i64 ((j4+1:Nat):Int):=kG ha118 hz83;rw[hkn,List.append_nil] at hks;rw[← hks] at hp4 g118_11;exact ⟨m4 - 1,by omega,j4+1,_,hz118,hd118,g118_0,g118_1,g118_2,g118_3,g118_7,g118_8,g118_9,g118_10,g118_11,g118_14,g118_21,g118_22,g118_23,g118_51,g118_52,g118_55,g118_56,g118_57,by omega,ho4.upTo hL84_w68 (From.mono hL84_w68.size),hp4.upTo hL84_w68 (From.mono hL84_w68.size),rb85,hF84,Nat.le_trans hSl4 hL84_w68.size⟩
      have hkn:knAt fs (.mk n s nl l u) encs k j4=[]:=by simp[knAt,hfd,hte]
      refine Z0n [spC [] (.pointer (some ⟨w68.heap.size,4,none⟩)),spC [0] (.int .i64 fd.tag),spC [] (.int .i64 (k:Int)),spC [1,2] (.bool false),spC [3] (.bool false),spC [4] (undef),spC [4] (undef),spC [4] (undef),spC [4,6,7] (undef),spC [4,5,8] (undef),spC [4,9] (undef),spC [4,10] (.bool false)] 62 [] hmx he17 (by simp[Z0B]) (by simp[spC,spR]) (by simp;omega) ⟨lCc _ _ _,lCc _ _ _,lCc _ _ _,lCc _ _ _,lCc _ _ _,lCc _ _ _,lCc _ _ _,lCc _ _ _,lCc _ _ _,lCc _ _ _,lCc _ _ _,lCc _ _ _,trivial⟩ ?_ ?_
      · refine oCs ?_ ?_
        · refine op_c fun a' w' hk' hf' hd' K' hK'=>?_;refine wFa (b:=w68.heap.size) (i:=0) (hFlT45.fld (by decide)) (by rw[eTm,hk'.get 16 (by omega),g80_16]) ?_;rw[show (0+4:Nat)=4 from rfl];exact hK'
        refine oCs ?_ ?_
        · refine op_c fun a' w' hk' hf' hd' K' hK'=>?_;refine wL0 (j:=4) (v:=.int .i64 fd.tag) hcT3 (by rw[eTm];exact hd'.c (nd':=[]) 0 (by simp) rfl) (hf'.range r78 .nil) rfl ?_;exact hK'
        refine oCs ?_ ?_
        · refine op_c fun a' w' hk' hf' hd' K' hK'=>?_;refine wMv (v:=.int .i64 (k:Int)) (by rw[eTm,hk'.get 14 (by omega),g80_14]) ?_;exact hK'
        refine oCs ?_ ?_
        · refine op_c fun a' w' hk' hf' hd' K' hK'=>?_;refine ZX (k1:=.i64) (i:=fd.tag) (j:=(k:Int)) hte (by rw[eTm];exact hd'.c (nd':=[0]) 1 (by simp) rfl) (by rw[eTm];exact hd'.c (nd':=[]) 2 (by simp) rfl) ?_;exact hK'
        refine oCs ?_ ?_
        · refine op_c fun a' w' hk' hf' hd' K' hK'=>?_;refine wMv (v:=.bool false) (by rw[eTm];exact hd'.c (nd':=[1,2]) 3 (by simp) rfl) ?_;exact hK'
        refine oCs ?_ ?_
        · exact Z0y rfl (by decide) (fun a w h=>h.c (nd':=[3]) 4 (by simp) rfl)
        refine oCs ?_ ?_
        · exact Z0y rfl (by decide) (fun a w h=>h.c (nd':=[3]) 4 (by simp) rfl)
        refine oCs ?_ ?_
        · exact Z0y rfl (by decide) (fun a w h=>h.c (nd':=[3]) 4 (by simp) rfl)
        refine oCs ?_ ?_
        · exact Z0y rfl (by decide) (fun a w h=>h.c (nd':=[3]) 4 (by simp) rfl)
        refine oCs ?_ ?_
        · exact Z0y rfl (by decide) (fun a w h=>h.c (nd':=[3]) 4 (by simp) rfl)
        refine oCs ?_ ?_
        · exact Z0y rfl (by decide) (fun a w h=>h.c (nd':=[3]) 4 (by simp) rfl)
        refine oCs ?_ ?_
        · refine op_c fun a' w' hk' hf' hd' K' hK'=>?_;refine ZL (v:=.bool false) (by rw[eTm];exact hd'.c (nd':=[3]) 4 (by simp) rfl) rfl ?_;exact hK'
        exact ZY
      intro a119 w119 k119 f119 hd_119;have g119_0:get a119 0 = .slice q fs.length cap:=by rw[k119.get 0 (by omega),g80_0]
      have g119_1:get a119 1 = .int .i64 ver:=by rw[k119.get 1 (by omega),g80_1]
      have g119_2:get a119 2 = .bool flex:=by rw[k119.get 2 (by omega),g80_2]
      have g119_3:get a119 3 = .agg ([.int .i64 n,sv,.bool nl,lv,uv]:List Value).toArray:=by rw[k119.get 3 (by omega),g80_3]
      have g119_7:get a119 7 = .pointer (some ⟨w.heap.size,0,none⟩):=by rw[k119.get 7 (by omega),g80_7]
      have g119_8:get a119 8 = .slice none 0 0:=by rw[k119.get 8 (by omega),g80_8]
      have g119_9:get a119 9=v9:=by rw[k119.get 9 (by omega),g80_9]
      have g119_10:get a119 10=u10:=by rw[k119.get 10 (by omega),g80_10]
      have g119_11:get a119 11 = .int .i64 (((knTo fs (.mk n s nl l u) encs k j4).length:Nat):Int):=by rw[k119.get 11 (by omega),g80_11]
      have g119_14:get a119 14 = .int .i64 (k:Int):=by rw[k119.get 14 (by omega),g80_14]
      have g119_21:get a119 21 = .slice q fs.length cap:=by rw[k119.get 21 (by omega),g80_21]
      have g119_22:get a119 22 = .int .i64 ((fs.length:Nat):Int):=by rw[k119.get 22 (by omega),g80_22]
      have g119_23:get a119 23 = .int .i64 (j:Int):=by rw[k119.get 23 (by omega),g80_23]
      have g119_51:get a119 51 = .int .i64 ((Z7 fs:Nat):Int):=by rw[k119.get 51 (by omega),g80_51]
      have g119_52:get a119 52 = .int .i64 (k:Int):=by rw[k119.get 52 (by omega),g80_52]
      have g119_55:get a119 55 = .slice q fs.length cap:=by rw[k119.get 55 (by omega),g80_55]
      have g119_56:get a119 56 = .int .i64 ((fs.length:Nat):Int):=by rw[k119.get 56 (by omega),g80_56]
      have g119_57:get a119 57 = .int .i64 (j4:Int):=by rw[k119.get 57 (by omega),g80_57]
      have hz119:a119.tmps.size=132:=k119.size.trans hz80;have hd119:a119.defers=[]:=k119.defers.trans hd80;have g119_73:get a119 73 = .bool false:=hd_119.c (nd':=[4,10]) 11 (by simp) rfl;have hF120:Fr [] w w119:=hF78.tr f119;have hL120_w68:Fr [] w68 w119:=hL78_w68.tr f119;have rb121:=f119.range rb79 .nil;have rb122:=f119.range r78 .nil;refine hK81 a119 w119 ?_;refine wp_cond_split (t:=false) (eK g119_73) (fun h=>by cases h) (fun _=>?_);refine wp_skip ?_;refine hK73 a119 w119 ?_;refine Z2 ?_;refine wC (ZJ (k1:=.i64) (i:=(j4:Int)) (j:=1) (eK g119_57) rfl ?_);rw[show (IntKind.i64.wrap (((j4:Int):Int)+(1:Int)):Int)=(((j4+1:Nat):Int):Int) from by simp only[IntKind.wrap,IntKind.bits,IntKind.signed];simp;omega];refine wC (wMv (v:=.int .i64 ((j4+1:Nat):Int)) (eS hz119) ?_);refine wEk hz119 hd119 fun a124 ha124 hz124 hd124=>?_;have g124_0:=kP ha124 g119_0;have g124_1:=kP ha124 g119_1;have g124_2:=kP ha124 g119_2;have g124_3:=kP ha124 g119_3;have g124_7:=kP ha124 g119_7;have g124_8:=kP ha124 g119_8;have g124_9:=kP ha124 g119_9;have g124_10:=kP ha124 g119_10;have g124_11:=kP ha124 g119_11;have g124_14:=kP ha124 g119_14;have g124_21:=kP ha124 g119_21;have g124_22:=kP ha124 g119_22;have g124_23:=kP ha124 g119_23;have g124_51:=kP ha124 g119_51;have g124_52:=kP ha124 g119_52;have g124_55:=kP ha124 g119_55;have g124_56:=kP ha124 g119_56;have g124_57:get a124 57 = .int .i64 ((j4+1:Nat):Int):=kG ha124 hz119;rw[hkn,List.append_nil] at hks;rw[← hks] at hp4 g124_11;exact ⟨m4 - 1,by omega,j4+1,_,hz124,hd124,g124_0,g124_1,g124_2,g124_3,g124_7,g124_8,g124_9,g124_10,g124_11,g124_14,g124_21,g124_22,g124_23,g124_51,g124_52,g124_55,g124_56,g124_57,by omega,ho4.upTo hL120_w68 (From.mono hL120_w68.size),hp4.upTo hL120_w68 (From.mono hL120_w68.size),rb121,hF120,Nat.le_trans hSl4 hL120_w68.size⟩
    have hj0:j4=fs.length:=by simp at hc72;omega
    rw[hj0,Z6M] at hp4 g70_11;refine wp_exit ?_;show K63 a70 w68
    refine hK63 a70 w68 ?_;refine Z2 ?_;refine wC (ZJ (k1:=.i64) (i:=(k:Int)) (j:=1) (eK g70_52) rfl ?_);rw[show (IntKind.i64.wrap (((k:Int):Int)+(1:Int)):Int)=(((k+1:Nat):Int):Int) from by simp only[IntKind.wrap,IntKind.bits,IntKind.signed];simp;omega];refine wC (wMv (v:=.int .i64 ((k+1:Nat):Int)) (eS hz70) ?_);refine wEk hz70 hd70 fun a125 ha125 hz125 hd125=>?_;have g125_0:=kP ha125 g70_0;have g125_1:=kP ha125 g70_1;have g125_2:=kP ha125 g70_2;have g125_3:=kP ha125 g70_3;have g125_7:=kP ha125 g70_7;have g125_8:=kP ha125 g70_8;have g125_9:=kP ha125 g70_9;have g125_10:=kP ha125 g70_10;have g125_11:=kP ha125 g70_11;have g125_21:=kP ha125 g70_21;have g125_22:=kP ha125 g70_22;have g125_23:=kP ha125 g70_23;have g125_51:=kP ha125 g70_51;have g125_52:get a125 52 = .int .i64 ((k+1:Nat):Int):=kG ha125 hz70;exact ⟨m2 - 1,by omega,k+1,_,hz125,hd125,g125_0,g125_1,g125_2,g125_3,g125_7,g125_8,g125_9,g125_10,g125_11,g125_21,g125_22,g125_23,g125_51,g125_52,by omega,ho4.upTo (Fr.refl [] w68) (From.mono (Fr.refl [] w68).size),hp4.upTo (Fr.refl [] w68) (From.mono (Fr.refl [] w68).size),hbl4,hfl4,Nat.le_trans hSl4 (Fr.refl [] w68).size⟩
  have hk0:k=Z7 fs:=by simp at hc62;omega
  rw[hk0,← Z5P] at ho10 g60_11;refine wp_exit ?_;show K52 a60 w58
  refine hK52 a60 w58 (tUp ?_);refine tId (wp_seq_k fun K126 hK126=>?_);refine wS fun K127 hK127=>?_;refine wC (wMv (v:=.slice q fs.length cap) (eK g60_0) ?_);refine wC (wFa (b:=w.heap.size) (i:=0) (hFlT26.fld (by decide)) (eK g60_7) ?_);rw[show (0+4:Nat)=4 from rfl];refine wC (wL0 (j:=4) (v:=uv) hcT24 (eS hz60) hbl3 rfl ?_);refine wC (wCr (R:=fun x wz=>Fr [] w58 wz∧Z1T wz (fun b=>B b∨From w58.heap.size wz b) x (ZA fs u)) (vs:=#[.slice q fs.length cap,uv]) hUn.enters (mX2 (eS hz60) (eS hz60)) ((hUn.call w58 A B _ fs uv u (hfs.kept hfl2 (by simp) (fun _ h=>h)) htg (hu.kept hfl2 (by simp) (fun _ h=>h)) (fun b hb=>Nat.lt_of_lt_of_le (hB b hb) hfl2.size)).mono (by rintro e wz ⟨x,rfl,h1,h2⟩;exact ⟨x,rfl,h1,h2⟩)) ?_);rintro x128 w128 ⟨fr128,hus128⟩;have hus:=hus128.kept (A':=fun b=>b < w2.heap.size∨(w58.heap.size≤b∧b < w128.heap.size)) (Fr.refl [] _) (by simp) (by rintro b (hb | hb);exact .inl (by have:=hB b hb;omega);exact .inr hb);obtain ⟨qu,cu,rfl,-,hub,-⟩:=hus.sl2;have hF129:Fr [] w w128:=hfl2.tr fr128;have hL129_w58:Fr [] w58 w128:=(Fr.refl [] w58).tr fr128;have rb130:=fr128.range hbl3 .nil;have hm23:w58.heap.size≤w128.heap.size:=fr128.size;refine wC (Zs (n:=(ZA fs u).length) hsT24 (eS hz60) ?_);refine wC (wMv (v:=.int .i64 0) rfl ?_);refine wEk hz60 hd60 fun a131 ha131 hz131 hd131=>?_;have g131_9:=kP ha131 g60_9;have g131_10:=kP ha131 g60_10;have g131_11:=kP ha131 g60_11;have g131_100:get a131 100 = .slice qu ((ZA fs u).length) cu:=kG ha131 hz60;have g131_101:get a131 101 = .int .i64 (((ZA fs u).length:Nat):Int):=kG ha131 hz60;have g131_102:get a131 102 = .int .i64 0:=kG ha131 hz60;have hm22:w54.heap.size≤w58.heap.size:=Nat.le_trans hSl2 (Fr.refl [] w58).size;have hx6:=ho2.upTo hL129_w58 (From.mono hL129_w58.size);have hp6:Own w128 (Gap w54.heap.size w58.heap.size w128.heap.size w128) 1 v10 _ _:=(ho10.upTo (Fr.refl [] w58) (From.mono (Fr.refl [] w58).size)).upTo fr128 (fun b hb=>.inl hb);refine hK127 a131 w128 ?_;have hul:(ZD fs (.mk n s nl l u)).length=(ZA fs u).length:=by simp[ZD,T.u]
  have hp0:Own w128 (Gap w54.heap.size w58.heap.size w128.heap.size w128) 1 v10 ((Zl fs (.mk n s nl l u) encs).flatMap ZP++((ZD fs (.mk n s nl l u)).take 0).flatMap ZP).length (Z0 ((Zl fs (.mk n s nl l u) encs).flatMap ZP++((ZD fs (.mk n s nl l u)).take 0).flatMap ZP)):=by rw[show (Zl fs (.mk n s nl l u) encs).flatMap ZP++((ZD fs (.mk n s nl l u)).take 0).flatMap ZP=(Zl fs (.mk n s nl l u) encs).flatMap ZP from by simp];exact hp6
  refine wp_block (wp_loop_ghost (fun (m3:Nat) a' w'=>∃ (j:Nat) (z10:Value),a'.tmps.size=132∧a'.defers=[]∧get a' 9=v9∧get a' 10=z10∧get a' 11 = .int .i64 (((Zl fs (.mk n s nl l u) encs).length+j:Nat):Int)∧get a' 100 = .slice qu ((ZA fs u).length) cu∧get a' 101 = .int .i64 (((ZA fs u).length:Nat):Int)∧get a' 102 = .int .i64 (j:Int)∧j+m3=(ZA fs u).length∧Own w' (From w2.heap.size w') 1 v9 ((Z0R fs ver encs fs.length)).length (Z0 (Z0R fs ver encs fs.length))∧Own w' (Gap w54.heap.size w58.heap.size w128.heap.size w') 1 z10 (((Zl fs (.mk n s nl l u) encs).flatMap ZP++((ZD fs (.mk n s nl l u)).take j).flatMap ZP)).length (Z0 ((Zl fs (.mk n s nl l u) encs).flatMap ZP++((ZD fs (.mk n s nl l u)).take j).flatMap ZP))∧Z1T w' (fun b=>b < w2.heap.size∨(w58.heap.size≤b∧b < w128.heap.size)) (.slice qu (ZA fs u).length cu) (ZA fs u)∧Fr [] w w'∧w128.heap.size≤w'.heap.size) ((ZA fs u).length) ?_ ?_)
  · exact ⟨0,v10,hz131,hd131,g131_9,g131_10,g131_11,g131_100,g131_101,g131_102,by omega,hx6,hp0,hus,hF129,Nat.le_refl _⟩
  rintro m3 a132 w132 ⟨j,z10,hz132,hd132,g132_9,g132_10,g132_11,g132_100,g132_101,g132_102,hjm6,ho9,hz10o,hus6,hfl6,hSl6⟩;refine wS fun K133 hK133=>?_;refine wC (Z08 (k1:=.i64) (i:=(j:Int)) (j:=(((ZA fs u).length:Nat):Int)) (eK g132_102) (eK g132_101) ?_);refine wEk hz132 hd132 fun a134 ha134 hz134 hd134=>?_;have g134_9:=kP ha134 g132_9;have g134_10:=kP ha134 g132_10;have g134_11:=kP ha134 g132_11;have g134_100:=kP ha134 g132_100;have g134_101:=kP ha134 g132_101;have g134_102:=kP ha134 g132_102;have g134_103:get a134 103 = .bool (decide (((j:Int):Int) < ((((ZA fs u).length:Nat):Int):Int))):=kG ha134 hz132;refine hK133 a134 w132 ?_;refine wp_seq_k fun K135 hK135=>?_;refine wp_cond_split (t:=decide (((j:Int):Int) < ((((ZA fs u).length:Nat):Int):Int))) (eK g134_103) (fun hc136=>?_) (fun hc136=>?_)
  · have hjl : j < (ZA fs u).length := by simpa using hc136
    obtain ⟨⟨kk,x⟩,hp⟩:∃ p,(ZA fs u)[j]?=some p:=⟨(ZA fs u)[j],by simp[hjl]⟩;obtain ⟨qu',cu',hqe,-,-,hku⟩:=hus6.sl2;obtain ⟨bl,ol,xv,hq,hbl7,hkk,hrl,hox⟩:=hku j kk x hp
    cases hqe
    have htk:=Z7R (t:=(.mk n s nl l u)) (j:=j) (show (ZD fs (.mk n s nl l u))[j]?=some (kk,Zd x) from by simp only[ZD,List.getElem?_map,T.u,hp];rfl);have hpl:=Z5s (fs:=fs) (t:=(.mk n s nl l u)) (j+1);rw[htk,List.length_append] at hpl;have hpw:(ZP (kk,Zd x)).length=(uvW kk).length+((uvW (Zd x).length).length+(Zd x).length):=by simp[ZP]
    have hpkl:((Zl fs (.mk n s nl l u) encs).flatMap ZP++((ZD fs (.mk n s nl l u)).take j).flatMap ZP).length=((Zl fs (.mk n s nl l u) encs).flatMap ZP).length+(((ZD fs (.mk n s nl l u)).take j).flatMap ZP).length:=by rw[List.length_append]
    refine wp_skip ?_;refine hK135 a134 w132 ?_;refine wp_seq_k fun K137 hK137=>?_;refine Zm ?_;refine wS fun K138 hK138=>?_;refine wC (Z14 (b:=bl) (o:=ol) (i:=j) hs_T24 (by rw[eTm,g134_100,hq]) (eK g134_102) hjl ?_);refine wC (Z8 (cs:=[.int .u32 ((kk:Nat):Int),xv]) (b:=bl) (o:=ol+j * 2) hFlT61 rfl (eS hz134) ((Fr.refl [] w132).range hrl .nil) ?_);refine wC (Z0A hFlT61 ?_);rintro w139 f139 sz139 r139 th139;have hF140:Fr [] w w139:=hfl6.tr f139;have hL140_w132:Fr [] w132 w139:=(Fr.refl [] w132).tr f139;refine wC (Z0g (cs:=[.int .u32 ((kk:Nat):Int),xv]) (o:=0) hFlT61 rfl (eS hz134) (eS hz134) (by intro u hu;simp at hu;rcases hu with rfl | rfl <;> first | rfl | exact hox.one) th139 ?_);rintro w141 f141 sz141 r141 th141;have hF141:Fr [] w w141:=hF140.trans f141 (fun r hr=>.inl (by simp at hr;subst hr;have:=hfl6.size;simp only;omega));have hL141_w132:Fr [] w132 w141:=hL140_w132.trans f141 (fun r hr=>.inl (by simp at hr;subst hr;have:=(Fr.refl [] w132).size;simp only;omega));refine wEk hz134 hd134 fun a142 ha142 hz142 hd142=>?_;have g142_9:=kP ha142 g134_9;have g142_10:=kP ha142 g134_10;have g142_11:=kP ha142 g134_11;have g142_19:get a142 19 = .pointer (some ⟨w132.heap.size,0,none⟩):=kG ha142 hz134;have g142_100:=kP ha142 g134_100;have g142_101:=kP ha142 g134_101;have g142_102:=kP ha142 g134_102;refine hK138 a142 w141 ?_;refine wS fun K143 hK143=>?_;refine wC (wFa (b:=w132.heap.size) (i:=0) (hFlT61.fld (by decide)) (eK g142_19) ?_);rw[show (0+1:Nat)=1 from rfl];refine wC (wL0 (j:=1) (v:=xv) hcT22 (eS hz142) r141 rfl ?_);refine wC (wCr (R:=fun y wz=>OctE wz (fun b=>b < w2.heap.size∨(w58.heap.size≤b∧b < w128.heap.size)) y (Zd x)∧w141=wz) (vs:=#[xv]) hWh.enters (mX1 (eS hz142)) ((hWh.call w141 _ xv x (hox.kept hL141_w132 (by simp) (fun _ h=>h))).mono (by rintro e wz ⟨y,rfl,h1,rfl⟩;exact ⟨y,rfl,h1,rfl⟩)) ?_);rintro x144 _ ⟨hy,rfl⟩;obtain ⟨q144,c144,rfl,-,-,-⟩:=hy.slice2;refine wC (wAs (v:=.slice q144 ((Zd x).length) c144) (eS hz142) ?_);refine wEk hz142 hd142 fun a145 ha145 hz145 hd145=>?_;have g145_9:=kP ha145 g142_9;have g145_10:=kP ha145 g142_10;have g145_11:=kP ha145 g142_11;have g145_19:=kP ha145 g142_19;have g145_20:get a145 20 = .slice q144 ((Zd x).length) c144:=kG ha145 hz142;have g145_100:=kP ha145 g142_100;have g145_101:=kP ha145 g142_101;have g145_102:=kP ha145 g142_102;refine hK143 a145 w141 ?_;refine wp_seq_k fun K146 hK146=>?_;have hoA:=hz10o.upTo hL141_w132 (Gap.mono hL141_w132.size);have hSA:=Nat.le_trans hSl6 hL141_w132.size;have hx9A:=ho9.upTo hL141_w132 (From.mono hL141_w132.size);have hyA:=hy.kept (Fr.refl [] w141) (by simp) (fun _ h=>h);have husA:=hus6.kept hL141_w132 (by simp) (fun _ h=>h);refine Z2 ?_;refine wC (wMv (v:=z10) (eK g145_10) ?_);refine wC (wFa (b:=w132.heap.size) (i:=0) (hFlT61.fld (by decide)) (eK g145_19) ?_);rw[show (0+0:Nat)=0 from rfl];refine wC (wL0 (j:=0) (v:=.int .u32 ((kk:Nat):Int)) hcT59 (eS hz145) r141 rfl ?_);refine wC (wCv (k1:=.u32) (i:=((kk:Nat):Int)) hT59_u32 hT76_u64 (eS hz145) ?_);rw[show (IntKind.u64.wrap (((kk:Nat):Int):Int))=(((kk:Nat):Int):Int) from by simp only[IntKind.wrap,IntKind.bits,IntKind.signed];simp;omega];refine wC (wCr (R:=fun vz wz=>Fr [] w141 wz∧Own wz (From w141.heap.size wz) 1 vz (uvW kk).length (Z0 (uvW kk))) (vs:=#[.int .u64 ((kk:Nat):Int)]) hUv.enters (mX1 (eS hz145)) (Za (hUv.call w141 kk (by omega))) ?_);rintro x147 w147 ⟨fr147,ow147⟩;have hF148:Fr [] w w147:=hF141.tr fr147;have rb149:=fr147.range r141 .nil;have hy150:=hyA.kept fr147 (by simp) (fun _ h=>h);have hu150:=husA.kept fr147 (by simp) (fun _ h=>h);have hx150:=hx9A.upTo fr147 (From.mono fr147.size);have hS150:=Nat.le_trans hSA fr147.size;have hoo150:=hoA.upTo fr147 (Gap.mono fr147.size);rw[wCo];have ob151:=hoo150;have hSl151:w128.heap.size≤w147.heap.size:=hS150;refine Z0d hs_T22 hz_T22 (eS hz145) (eS hz145) ob151 (ow147.octE (by omega)) (by omega) ?_;rintro v151 w151 fa151 oa151 sp151 bk151;have ho151:Own w151 (Gap w54.heap.size w58.heap.size w128.heap.size w151) 1 v151 _ _:=oa151.imp_A (Z4F hSl151 fa151.size);have hF151:Fr [] w w151:=Z0G hF148 fa151 ob151 (fun b hb=>by rcases hb with hb | hb <;> omega);have hy152:=hy150.kept fa151 (A':=fun b=>b < w2.heap.size∨(w58.heap.size≤b∧b < w128.heap.size)) (fun r hr hb=>by rcases ob151.spare_in r hr with h1 | h1 <;> omega) (fun _ h=>h);have hu152:=hu150.kept fa151 (A':=fun b=>b < w2.heap.size∨(w58.heap.size≤b∧b < w128.heap.size)) (fun r hr hb=>by rcases ob151.spare_in r hr with h1 | h1 <;> omega) (fun _ h=>h);have hx152:=hx150.kept fa151 (A':=From w2.heap.size w151) (by intro r hr hb g o cap hv e;exfalso;have h2:=hb9 g (by rw[hv];rfl);rcases ob151.spare_in r hr with h1 | h1 <;> omega) (From.mono fa151.size);have hS152:=Nat.le_trans hS150 fa151.size;refine wC (wMv (v:=.slice q144 ((Zd x).length) c144) (eK g145_20) ?_);refine wC (Zs (n:=(Zd x).length) hsT22 (eS hz145) ?_);refine wC (wCv (k1:=.i64) (i:=(((Zd x).length:Nat):Int)) hT3_i64 hT76_u64 (eS hz145) ?_);rw[show (IntKind.u64.wrap ((((Zd x).length:Nat):Int):Int))=((((Zd x).length:Nat):Int):Int) from Z3M (by simp[Zd];omega)];refine wC (wCr (R:=fun vz wz=>Fr [] w151 wz∧Own wz (From w151.heap.size wz) 1 vz (uvW ((Zd x).length)).length (Z0 (uvW ((Zd x).length)))) (vs:=#[.int .u64 (((Zd x).length:Nat):Int)]) hUv.enters (mX1 (eS hz145)) (Za (hUv.call w151 ((Zd x).length) (by simp[Zd];omega))) ?_);rintro x153 w153 ⟨fr153,ow153⟩;have hF154:Fr [] w w153:=hF151.tr fr153;have hy155:=hy152.kept fr153 (by simp) (fun _ h=>h);have hu155:=hu152.kept fr153 (by simp) (fun _ h=>h);have hx155:=hx152.upTo fr153 (From.mono fr153.size);have hS155:=Nat.le_trans hS152 fr153.size;have hoo155:=ho151.upTo fr153 (Gap.mono fr153.size);rw[wCo];have ob156:=hoo155;have hSl156:w128.heap.size≤w153.heap.size:=hS155;refine Z0d hs_T22 hz_T22 (eS hz145) (eS hz145) ob156 (ow153.octE (by omega)) (by rw[List.length_append];omega) ?_;rintro v156 w156 fa156 oa156 sp156 bk156;have ho156:Own w156 (Gap w54.heap.size w58.heap.size w128.heap.size w156) 1 v156 _ _:=oa156.imp_A (Z4F hSl156 fa156.size);have hF156:Fr [] w w156:=Z0G hF154 fa156 ob156 (fun b hb=>by rcases hb with hb | hb <;> omega);have hy157:=hy155.kept fa156 (A':=fun b=>b < w2.heap.size∨(w58.heap.size≤b∧b < w128.heap.size)) (fun r hr hb=>by rcases ob156.spare_in r hr with h1 | h1 <;> omega) (fun _ h=>h);have hu157:=hu155.kept fa156 (A':=fun b=>b < w2.heap.size∨(w58.heap.size≤b∧b < w128.heap.size)) (fun r hr hb=>by rcases ob156.spare_in r hr with h1 | h1 <;> omega) (fun _ h=>h);have hx157:=hx155.kept fa156 (A':=From w2.heap.size w156) (by intro r hr hb g o cap hv e;exfalso;have h2:=hb9 g (by rw[hv];rfl);rcases ob156.spare_in r hr with h1 | h1 <;> omega) (From.mono fa156.size);have hS157:=Nat.le_trans hS155 fa156.size;refine wC (wMv (v:=.slice q144 ((Zd x).length) c144) (eK g145_20) ?_);rw[wCo];have ob158:=ho156;have hSl158:w128.heap.size≤w156.heap.size:=hS157;refine Z0d hs_T22 hz_T22 (eS hz145) (eS hz145) ob158 hy157 (by rw[List.length_append,List.length_append];omega) ?_;rintro v158 w158 fa158 oa158 sp158 bk158;have ho158:Own w158 (Gap w54.heap.size w58.heap.size w128.heap.size w158) 1 v158 _ _:=oa158.imp_A (Z4F hSl158 fa158.size);have hF158:Fr [] w w158:=Z0G hF156 fa158 ob158 (fun b hb=>by rcases hb with hb | hb <;> omega);have hy159:=hy157.kept fa158 (A':=fun b=>b < w2.heap.size∨(w58.heap.size≤b∧b < w128.heap.size)) (fun r hr hb=>by rcases ob158.spare_in r hr with h1 | h1 <;> omega) (fun _ h=>h);have hu159:=hu157.kept fa158 (A':=fun b=>b < w2.heap.size∨(w58.heap.size≤b∧b < w128.heap.size)) (fun r hr hb=>by rcases ob158.spare_in r hr with h1 | h1 <;> omega) (fun _ h=>h);have hx159:=hx157.kept fa158 (A':=From w2.heap.size w158) (by intro r hr hb g o cap hv e;exfalso;have h2:=hb9 g (by rw[hv];rfl);rcases ob158.spare_in r hr with h1 | h1 <;> omega) (From.mono fa158.size);have hS159:=Nat.le_trans hS157 fa158.size;refine wC (wAs (v:=v158) (eS hz145) ?_);refine wEk hz145 hd145 fun a160 ha160 hz160 hd160=>?_;have g160_9:=kP ha160 g145_9;have g160_10:get a160 10=v158:=kG ha160 hz145;have g160_11:=kP ha160 g145_11;have g160_100:=kP ha160 g145_100;have g160_101:=kP ha160 g145_101;have g160_102:=kP ha160 g145_102;refine hK146 a160 w158 ?_;refine Z2 ?_;refine wC (wMv (v:=.int .i64 (((Zl fs (.mk n s nl l u) encs).length+j:Nat):Int)) (eK g160_11) ?_);refine wC (ZJ (k1:=.i64) (i:=(((Zl fs (.mk n s nl l u) encs).length+j:Nat):Int)) (j:=1) (eS hz160) rfl ?_);rw[show (IntKind.i64.wrap (((((Zl fs (.mk n s nl l u) encs).length+j:Nat):Int):Int)+(1:Int)):Int)=((((Zl fs (.mk n s nl l u) encs).length+(j+1):Nat):Int):Int) from by simp only[IntKind.wrap,IntKind.bits,IntKind.signed];simp;omega];refine wC (wAs (v:=.int .i64 (((Zl fs (.mk n s nl l u) encs).length+(j+1):Nat):Int)) (eS hz160) ?_);refine wEk hz160 hd160 fun a161 ha161 hz161 hd161=>?_;have g161_9:=kP ha161 g160_9;have g161_10:=kP ha161 g160_10;have g161_11:get a161 11 = .int .i64 (((Zl fs (.mk n s nl l u) encs).length+(j+1):Nat):Int):=kG ha161 hz160;have g161_100:=kP ha161 g160_100;have g161_101:=kP ha161 g160_101;have g161_102:=kP ha161 g160_102;refine hK137 a161 w158 ?_;refine Z2 ?_;refine wC (ZJ (k1:=.i64) (i:=(j:Int)) (j:=1) (eK g161_102) rfl ?_);rw[show (IntKind.i64.wrap (((j:Int):Int)+(1:Int)):Int)=(((j+1:Nat):Int):Int) from by simp only[IntKind.wrap,IntKind.bits,IntKind.signed];simp;omega];refine wC (wMv (v:=.int .i64 ((j+1:Nat):Int)) (eS hz161) ?_);refine wEk hz161 hd161 fun a162 ha162 hz162 hd162=>?_;have g162_9:=kP ha162 g161_9;have g162_10:=kP ha162 g161_10;have g162_11:=kP ha162 g161_11;have g162_100:=kP ha162 g161_100;have g162_101:=kP ha162 g161_101;have g162_102:get a162 102 = .int .i64 ((j+1:Nat):Int):=kG ha162 hz161;refine ⟨m3 - 1,by omega,j+1,_,hz162,hd162,g162_9,g162_10,g162_11,g162_100,g162_101,g162_102,by omega,hx159,?_,hu159,hF158,hS159⟩;rw[htk,show (Zl fs (.mk n s nl l u) encs).flatMap ZP++(((ZD fs (.mk n s nl l u)).take j).flatMap ZP++ZP (kk,Zd x))=((((Zl fs (.mk n s nl l u) encs).flatMap ZP++((ZD fs (.mk n s nl l u)).take j).flatMap ZP)++uvW kk)++uvW (Zd x).length)++Zd x from by simp[ZP]];exact ho158
  have hj0:j=(ZA fs u).length:=by simp at hc136;omega
  rw[hj0,← hul,List.take_length] at hz10o;rw[hj0,← hul] at g134_11;refine wp_exit ?_;show K126 a134 w132
  refine hK126 a134 w132 (tUp ?_);refine tId (wp_seq_k fun K163 hK163=>?_);have hx9:=ho9.upTo (Fr.refl [] w132) (From.mono (Fr.refl [] w132).size);have hx10:=hz10o.upTo (Fr.refl [] w132) (Gap.mono (Fr.refl [] w132).size);have hSx:=Nat.le_trans hSl6 (Fr.refl [] w132).size;have hunl:(ZA fs u).length≤4294967296:=hub;have hU:=hul;have hppl:((Zl fs (.mk n s nl l u) encs).flatMap ZP++(ZD fs (.mk n s nl l u)).flatMap ZP).length=((Zl fs (.mk n s nl l u) encs).flatMap ZP).length+((ZD fs (.mk n s nl l u)).flatMap ZP).length:=by rw[List.length_append]
  refine Z2 ?_;refine wC (wMv (v:=v9) (eK g134_9) ?_);refine wC (wMv (v:=.int .i64 (((Zl fs (.mk n s nl l u) encs).length+(ZD fs (.mk n s nl l u)).length:Nat):Int)) (eK g134_11) ?_);refine wC (wCv (k1:=.i64) (i:=(((Zl fs (.mk n s nl l u) encs).length+(ZD fs (.mk n s nl l u)).length:Nat):Int)) hT3_i64 hT76_u64 (eS hz134) ?_);rw[show (IntKind.u64.wrap ((((Zl fs (.mk n s nl l u) encs).length+(ZD fs (.mk n s nl l u)).length:Nat):Int):Int))=((((Zl fs (.mk n s nl l u) encs).length+(ZD fs (.mk n s nl l u)).length:Nat):Int):Int) from Z3M (by omega)];refine wC (wCr (R:=fun vz wz=>Fr [] w132 wz∧Own wz (From w132.heap.size wz) 1 vz (uvW ((Zl fs (.mk n s nl l u) encs).length+(ZD fs (.mk n s nl l u)).length)).length (Z0 (uvW ((Zl fs (.mk n s nl l u) encs).length+(ZD fs (.mk n s nl l u)).length)))) (vs:=#[.int .u64 (((Zl fs (.mk n s nl l u) encs).length+(ZD fs (.mk n s nl l u)).length:Nat):Int)]) hUv.enters (mX1 (eS hz134)) (Za (hUv.call w132 ((Zl fs (.mk n s nl l u) encs).length+(ZD fs (.mk n s nl l u)).length) (by omega))) ?_);rintro x164 w164 ⟨fr164,ow164⟩;have hF165:Fr [] w w164:=hfl6.tr fr164;have hy9:=hx9.upTo fr164 (From.mono fr164.size);have hy10:=hx10.upTo fr164 (Gap.mono fr164.size);have hSy:=Nat.le_trans hSx fr164.size;rw[wCo];have ob166:=hy9;have hSl166:w2.heap.size≤w164.heap.size:=(by omega);refine Z0d hs_T22 hz_T22 (eS hz134) (eS hz134) ob166 (ow164.octE (by omega)) (by omega) ?_;rintro v166 w166 fa166 oa166 sp166 bk166;have ho166:=oa166.imp_A (Z32 hSl166 fa166.size);have hF166:Fr [] w w166:=Z0G hF165 fa166 (ob166.from (s0:=w.heap.size) (by omega)) (fun b hb=>hb.1);have hz10:Own w166 (Gap w54.heap.size w58.heap.size w128.heap.size w166) 1 z10 _ _:=hy10.kept fa166 (by intro r hr hb g o cap hv e;exfalso;have h1:=hb9 r.b (Z4y r hr);rcases hb with h2 | h2 <;> omega) (Gap.mono fa166.size);have ha1:=ho166;have hSz:w2.heap.size≤w166.heap.size:=by have:=fa166.size;omega
  refine wC (wMv (v:=z10) (eK g134_10) ?_);rw[wCo];have ob167:=ha1;have hSl167:w2.heap.size≤w166.heap.size:=hSz;refine Z0d hs_T22 hz_T22 (eS hz134) (eS hz134) ob167 (hz10.octE (by omega)) (by simp only[List.length_append];simp only[List.length_append] at hppl;omega) ?_;rintro v167 w167 fa167 oa167 sp167 bk167;have ho167:=oa167.imp_A (Z32 hSl167 fa167.size);have hF167:Fr [] w w167:=Z0G hF166 fa167 (ob167.from (s0:=w.heap.size) (by omega)) (fun b hb=>hb.1);refine wC (wAs (v:=v167) (eS hz134) ?_);refine wEk hz134 hd134 fun a168 ha168 hz168 hd168=>?_;have g168_8:get a168 8=v167:=kG ha168 hz134;refine hK163 a168 w167 (tUp ?_);refine wp_ret ?_;rw[hPW,hfx,if_pos rfl,← List.append_assoc];exact ⟨hd168,_,rIs hres g168_8,_,rfl,hF167,ho167.from (by omega)⟩
end Go.Kq

namespace Go.Kq
open Go Go.Proofs Go.ChangeShapes Go.WideShapes Go.RowKit
section
variable {H:Type} {enc:TypeId × Value→H} {P:Program}
theorem Z5H {w:World} {b o:Nat}:∀ (zs:List Int),(∀ i,i < zs.length→w.cell? ⟨b,o+i,none⟩=some (.int .u8 (zs.getD i 0)))→(∀ n ∈ zs,(Lit.int .u8 n).wf=true) →
    w.rangeAt b o (Z0 (zs.map fun z=>UInt8.ofNat z.toNat)):=by
  intro zs h hw j v hv;simp only[Z0,List.map_map,List.getElem?_map,Option.map_eq_some_iff] at hv;obtain ⟨z,hz,rfl⟩:=hv;have hj:j < zs.length:=(List.getElem?_eq_some_iff.1 hz).1;rw[h j hj];have hzz:zs.getD j 0=z:=by rw[List.getD,hz];rfl
  have hwz:=hw z (List.mem_of_getElem? hz);simp only[Lit.wf] at hwz;have hb:0≤z∧z≤255:=by simpa [IntKind.min,IntKind.max,IntKind.signed,IntKind.bits] using hwz
  rw[hzz];simp only[Function.comp_apply,UInt8.toNat_ofNat',Option.some.injEq,Value.int.injEq,true_and];omega
theorem Z6s {W:World} {name nm:String} {d:DataW Unit} {g:Nat} {ti:TypeId} {ms:Array (String × TypeId)} (hg:P.globalNamed name=some g) (hty:(P.globals[g]?).map (·.type)=some ti) (hi:P.underlying ti=some (.interface ms))
    (h:laidMet P [(name,.iface nm d)] W):∃ u v,W.cell? ⟨g,0,none⟩=some (.iface u v):=by
  obtain ⟨ps,⟨g',t',cs,fuel,p,q,hg',ht',hvar,hd,_,_⟩,_⟩:=h;obtain rfl:=Option.some.inj (hg.symm.trans hg');obtain rfl:=Option.some.inj (hty.symm.trans ht');obtain ⟨l⟩:=cs;obtain ⟨_,u,v,hl,_⟩:=iface_of_trod hi hd;have:l=[.iface u v]:=by simpa using hl
  subst this;exact ⟨u,v,World.var?_cell hg hvar 0⟩
theorem Z2T (hl:laidOutB P=true) {W W':World} {base:Nat} {sp':Nat→Bool} :
    ∀ {ts : List TypeId} {vs : List Value} {ds : List (DataW H)} {ps : List MemPlace}, (∀ t ∈ ts, P.readableRec t = true ∧ t < P.types.size) → DataW.TrodAll enc P W base (fun _ => true) true ts vs ds ps →
      (∀ p ∈ ps,W.sameAt W' p)→(∀ p ∈ ps,sp' p.block=true)→DataW.TrodAll enc P W' base sp' true ts vs ds ps
  | [], _, _, _, _, h, _, _ => by
    obtain ⟨rfl,rfl,rfl⟩:=trodAll_nil h;exact h
  | t :: ts, _, _, _, ht, h, hs, hp => by
    obtain ⟨v,vs1,d,ds1,a,b,rfl,rfl,rfl,h1,h2⟩:=trodAll_cons h;exact ⟨a,b,WideElems.Trod_stays hl (ht t (by simp)).1 (ht t (by simp)).2 h1 (fun p hp'=>hs p (List.mem_append_left _ hp')) (fun p hp'=>hp p (List.mem_append_left _ hp')),
      Z2T hl (fun t ht'=>ht t (by simp[ht'])) h2 (fun p hp'=>hs p (List.mem_append_right _ hp')) (fun p hp'=>hp p (List.mem_append_right _ hp')),rfl⟩
theorem Z8b (hl:laidOutB P=true) {f:Func} {s:ChangeSpec} {apart fresh handsOn again:Bool} {W W':World} {args:Array Value} {ds gs:List (DataW H)} {before p:List MemPlace} {rt:TypeId}
    (hW:DataW.Whole enc P f.params.toList s.vars apart W args.toList ds gs before) (hv:s.vars=[]) (hA:DataW.TrodAll enc P W 0 (fun _=>true) true f.params.toList args.toList ds p) (hbp:before=p) (hgs:gs=[])
    (hs:s.fn H (ds++gs)={ results:=[.lit (.bool true)],args:=ds }) (hrt:f.resultTypes = #[rt]) (hb:P.underlying rt=some .bool)
    (hrd:∀ t ∈ f.params.toList,P.readableRec t=true∧t < P.types.size) (hF:Fr [] W W') :
    s.post enc P f apart fresh handsOn again W args (.bool true) W':=by
  subst hbp;have hbl:=hF.below;have hlt:∀ x ∈ before,x.block < W.heap.size:=fun x hx=>hW.lt x hx;have hold:∀ x ∈ before,(fun b=>decide (b < W.heap.size)) x.block=true:=fun x hx=>by simpa using hlt x hx
  have hres:∀ (b:Nat) (sp:Nat→Bool) (hd:Bool),DataW.TrodAll enc P W' b sp hd f.resultTypes.toList ((Value.bool true).resultList f.resultTypes.size) (s.fn H (ds++gs)).results []:=by
    intro b sp hd;rw[hs,hrt];exact trodAll_cons_mk (shut_bool hb true) trodAll_mk0
  have hargs:∀ sp:Nat→Bool,(∀ x ∈ before,sp x.block=true)→DataW.TrodAll enc P W' 0 sp true f.params.toList args.toList (s.fn H (ds++gs)).args before:=by
    intro sp hsp;rw[hs];exact Z2T hl hrd hA (fun x hx=>hbl.same (hlt x hx)) hsp
  have hvars:∀ sp:Nat→Bool,DataW.TrodVars enc P W' sp s.vars (s.fn H (ds++gs)).vars []:=by
    intro sp;rw[hv,hs];exact (rfl:([]:List MemPlace)=[])
  refine ⟨ds,gs,before,[],before,[],hW,hres _ _ _,hargs _ hold,hvars _,World.keptBut_mono (fun x hx=>⟨hx,?_⟩) (hbl.frame (· ∈ before)),fun _=>?_⟩
  · exact Or.inr (Or.inl hx)
  obtain ⟨_,_,_,_,_,hz,hn⟩:=hW;refine ⟨?_,_,_,([]++before)++[],⟨[]++before,[],trodAll_append (hargs _ (fun _ _=>rfl)) (hres _ _ _),hvars _,rfl,?_,?_⟩,?_⟩
  · exact ok_one (by rw[hrt]) rfl (okWide_bool_mk hb _)
  · intro b off hp;have hin : MemPlace.cell b off ∈ before := by simpa using hp
    rw[hbl.frozen (hlt _ hin)];exact hz b off hin
  · intro ha
    simpa using hn ha
  intro x hx _
  simpa using hx
end
end Go.Kq

namespace Go.Kq
open Go Go.Proofs Go.ChangeShapes Go.WideShapes Go.RowKit
theorem Z8B {w:World} {a:Addr} {v:Value} (h:w.cell? a=some v):a.spot=none∧a.block < w.heap.size:=by
  unfold World.cell? at h
  split at h
  · rename_i c e f hb
    refine ⟨?_,ZB hb⟩
    cases hs:a.spot with
    | none=>rfl
    | some x=>simp[hs] at h
  simp at h
theorem Z6Y {w:World} {base:Nat} {a:Addr} {n:Nat} {cs:List Value} (h:w.cells? base a n=some cs) (hn:0 < n):a.spot=none∧a.block < w.heap.size:=by
  obtain ⟨_,h1,h2⟩:=World.cells?_some h;have h3:=h2 0 hn;have h4:∃ v,cs[0]?=some v:=⟨cs[0]'(by omega),by simp⟩;obtain ⟨v,hv⟩:=h4;rw[hv] at h3;exact Z8B (a:=a.add 0) h3
structure Bulk {H:Type} (bk:DataW H→Nat) (bks:List (DataW H)→Nat):Prop where
  lit:∀ l,1≤bk (.lit l)
  nil:1≤bk .nil
  sl:∀ es ss,bk (.slice es ss)=bks es+bks ss+1
  agg:∀ ps,bk (.agg ps)=bks ps+1
  n:bks []=0
  c:∀ d r,bks (d::r)=bk d+bks r
theorem Bulk.lits {H:Type} {bk:DataW H→Nat} {bks:List (DataW H)→Nat} (h:Bulk bk bks) (k:IntKind):∀ zs:List Int,zs.length≤bks (lits k zs)
  | []=>by simp[ChangeShapes.lits,h.n]
  | z :: zs => by
    have h1:=Bulk.lits h k zs;have h2:=h.lit (.int k z);simp only[ChangeShapes.lits,List.map_cons,h.c,List.length_cons] at h1 ⊢;omega
section
variable {H:Type} {enc:TypeId × Value→H} {P:Program} {bk:DataW H→Nat} {bks:List (DataW H)→Nat}
theorem Z2E {W:World} {t e:TypeId} {fuel:Nat} {cs:List Value} {x:DataW H × List MemPlace} (hbk:Bulk bk bks) (ht:P.underlying t=some (.slice e)) (he:P.underlying e=some (.int .u8)) (hc:P.cellsOf e=1)
    (h:DataW.trod enc P W 0 (fun _=>true) true fuel t cs=some x) (hb:bk x.1≤4294967296):∃ v xs,cs=[v]∧OctE W (fun b=>b < W.heap.size) v xs∧xs.length+1≤bk x.1:=by
  rcases open_ints ht he hc h with ⟨rfl,rfl⟩ | ⟨a,len,cap,zs,rfl,_,hl,hm,hz,rfl,hcell,hwz⟩
  · exact ⟨_,[],rfl,.nil,by simpa using hbk.nil⟩
  simp only[if_true] at hz
  by_cases hc0:cap=0
  · subst hc0;obtain rfl : len = 0 := by omega
    exact ⟨_,[],rfl,.inr ⟨⟨a,rfl⟩,rfl⟩,by simp only[hbk.sl,List.length_nil];omega⟩
  obtain ⟨hsp,hbl⟩:a.spot=none∧a.block < W.heap.size:=Z8B (a:=a.add 0) (hcell 0 (by omega));obtain ⟨b,o,spot⟩:=a;simp only at hsp hbl;subst hsp;have hr:=Z5H (b:=b) (o:=o) zs (fun i hi=>by have:=hcell i hi;rwa [Addr.add_lit] at this) hwz;have h1:=hbk.lits .u8 (zs.take len);have h2:=hbk.sl (lits .u8 (zs.take len)) (lits .u8 (zs.drop len));have hlen:(zs.take len).length=len:=by simp;omega
  simp only[h2] at hb;refine ⟨_,(zs.take len).map fun z=>UInt8.ofNat z.toNat,rfl,.inl ⟨some _,.inr ⟨b,o,cap,_,hbl,?_,⟨?_,?_⟩,?_,rfl⟩,rfl⟩,?_⟩
  · rw[List.length_map,hlen]
  · rw[List.length_map,hlen];exact hl
  · rw[List.length_map];omega
  · have := Z2d hr 0 len
    simpa [Z2C,Z2D,List.map_take] using this
  rw[List.length_map,h2];omega
theorem Z58 (hbk:Bulk bk bks):∀ {l:List (DataW H)} {i:Nat} {d:DataW H},l[i]?=some d→bk d≤bks l
  | [],_,_,h=>by simp at h
  | e::l,0,d,h=>by simp at h;subst h;rw[hbk.c];omega
  | e::l,i+1,d,h=>by have:=Z58 hbk (l:=l) (i:=i) (by simpa using h);rw[hbk.c];omega
theorem Z35 {W:World} {t e:TypeId} {fuel:Nat} {v:Value} {x:DataW H × List MemPlace} (hbk:Bulk bk bks) (ht:P.underlying t=some (.slice e))
    (hpos:0 < P.cellsOf e) (h:DataW.trod enc P W 0 (fun _=>true) true fuel t [v]=some x) :
    ((v = .slice none 0 0∨Void v)∧1≤bk x.1)∨∃ b o len cap n,∃ ds:List (DataW H × List MemPlace),fuel=n+1∧v = .slice (some ⟨b,o,none⟩) len cap∧b < W.heap.size∧len≤cap∧ds.length=len∧bks (ds.map (·.1))+1≤bk x.1 ∧
      ∀ i,i < len→∃ es d,W.rangeAt b (o+i * P.cellsOf e) es∧es.length=P.cellsOf e∧ds[i]?=some d∧DataW.trod enc P W 0 (fun _=>true) true n e es=some d:=by
  rcases DataW.trod_slice ht h with ⟨h1,rfl⟩ | ⟨a,len,cap,elems,rest,n,rfl,hv,rfl,hb,hl,hm,hlen,hel,hsr,_⟩
  · left;simp at h1;exact ⟨.inl h1,hbk.nil⟩
  simp at hv;subst hv
  by_cases hc0:cap=0
  · subst hc0;obtain rfl : len = 0 := by omega
    exact .inl ⟨.inr ⟨a,rfl⟩,by simp only[hbk.sl];omega⟩
  right
  obtain ⟨hsp,hbl⟩:a.spot=none∧a.block < W.heap.size:=by
    by_cases hl0:len=0
    · obtain ⟨h1,h2⟩:=hsr rfl;have h3:=h2 0 (by omega);have h4:∃ y,rest[0]?=some y:=⟨rest[0]'(by omega),by simp⟩;obtain ⟨y,hy⟩:=h4;rw[hy,Option.bind_eq_some_iff] at h3;obtain ⟨es,h5,_⟩:=h3;exact Z6Y (a:=a) (by simpa [hl0,Addr.add] using h5) hpos
    have h3:=hel 0 (by omega);have h4:∃ y,elems[0]?=some y:=⟨elems[0]'(by omega),by simp⟩;obtain ⟨y,hy⟩:=h4;rw[hy,Option.bind_eq_some_iff] at h3;obtain ⟨es,h5,_⟩:=h3;exact Z6Y (a:=a) (by simpa [Addr.add] using h5) hpos
  obtain ⟨b,o,spot⟩:=a;simp only at hsp hbl;subst hsp;refine ⟨b,o,len,cap,n,elems,rfl,rfl,hbl,hl,hlen,by rw[hbk.sl];omega,fun i hi=>?_⟩;have h2:=hel i hi;have hge:elems[i]?=some elems[i]:=by simp[hlen,hi]
  rw[hge,Option.bind_eq_some_iff] at h2;obtain ⟨es,h3,h4⟩:=h2;obtain ⟨_,h5,h6⟩:=World.cells?_some h3;refine ⟨es,elems[i],fun j u hj=>?_,h5,hge,h4⟩;have hjl:=(List.getElem?_eq_some_iff.1 hj).1;have:=h6 j (by omega);rw[Addr.add_mid,Addr.add_mid] at this;rw[this];exact hj
theorem Z6m {α:Type}:∀ {len:Nat} {R:Nat→α→Prop},(∀ i,i < len→∃ y,R i y)→∃ l:List α,l.length=len∧∀ i y,l[i]?=some y→R i y
  | 0,R,_=>⟨[],rfl,by simp⟩
  | n + 1, R, h => by
    obtain ⟨y,hy⟩:=h 0 (by omega);obtain ⟨l,h1,h2⟩:=Z6m (len:=n) (R:=fun i y=>R (i+1) y) fun i hi=>h (i+1) (by omega);refine ⟨y::l,by simp[h1],fun i z hz=>?_⟩
    cases i with
    | zero=>simp at hz;subst hz;exact hy
    | succ i=>exact h2 i z (by simpa using hz)
theorem Z7V (hbk:Bulk bk bks) {α:Type} {f:α→Nat}:∀ {l:List α} {ds:List (DataW H × List MemPlace)},l.length=ds.length→(∀ (i:Nat) (y:α) (d:DataW H × List MemPlace),l[i]?=some y→ds[i]?=some d→f y≤bk d.1)→(l.map f).sum≤bks (ds.map (·.1))
  | [],[],_,_=>by simp[hbk.n]
  | [],_::_,h,_=>by simp at h
  | _::_,[],h,_=>by simp at h
  | y :: l, d :: ds, h, hl => by
    have h1:=hl 0 y d rfl rfl;have h2:=Z7V hbk (l:=l) (ds:=ds) (by simpa using h) fun i y d hy hd=>hl (i+1) y d (by simpa using hy) (by simpa using hd);simp only[List.map_cons,List.sum_cons,hbk.c];omega
def Z0l (u:List (Nat × List UInt8)):Nat:=(u.map fun p=>p.2.length+1).sum
theorem Z5t {W:World} {t e t32 tS e8:TypeId} {fs:Array Field} {fuel:Nat} {v:Value} {x:DataW H × List MemPlace} (hbk:Bulk bk bks) (ht:P.underlying t=some (.slice e)) (he:P.underlying e=some (.struct fs)) (hc:P.cellsOf e=2)
    (hf0:fs[0]?.map (fun f=>(f.type,f.offset))=some (t32,0)) (hf1:fs[1]?.map (fun f=>(f.type,f.offset))=some (tS,1)) (hc0:P.cellsOf t32=1) (hc1:P.cellsOf tS=1) (h32:P.underlying t32=some (.int .u32))
    (hS:P.underlying tS=some (.slice e8)) (h8:P.underlying e8=some (.int .u8)) (hc8:P.cellsOf e8=1)
    (h:DataW.trod enc P W 0 (fun _=>true) true fuel t [v]=some x) (hb:bk x.1≤4294967296):∃ u,Z1T W (fun b=>b < W.heap.size) v u∧Z0l u+1≤bk x.1∧∀ p ∈ u,p.1 < 4294967296:=by
  rcases Z35 hbk ht (by omega) h with ⟨hv0,h1⟩ | ⟨b,o,len,cap,n,ds,rfl,rfl,hbl,hl,hdl,hbd,hel⟩
  · exact ⟨[],.inl ⟨hv0,rfl⟩,by simpa [Z0l] using h1,by simp⟩
  have each:∀ i,i < len→∃ y:Nat × List UInt8,y.1 < 4294967296∧(∃ xv,W.rangeAt b (o+i * 2) [.int .u32 y.1,xv]∧OctE W (fun b=>b < W.heap.size) xv y.2)∧∀ d,ds[i]?=some d→y.2.length+1≤bk d.1:=by
    intro i hi;obtain ⟨es,d,hr,hle,hd,htr⟩:=hel i hi;rw[hc] at hr hle
    match es,hle with
    | [c0, c1], _ =>
      obtain ⟨xs,m,rfl,rfl,_,hxl,hxs⟩:=DataW.trod_struct he htr;obtain ⟨f0,hf0',e0⟩:=Option.map_eq_some_iff.1 hf0;obtain ⟨f1,hf1',e1⟩:=Option.map_eq_some_iff.1 hf1;simp only[Prod.mk.injEq] at e0 e1;have q0:=hxs 0 f0 hf0';have q1:=hxs 1 f1 hf1';rw[e0.1,e0.2,hc0] at q0;rw[e1.1,e1.2,hc1] at q1;simp only[List.drop_zero,List.take_succ_cons,List.take_zero,List.drop_succ_cons] at q0 q1;have hn0:∃ y0,xs[0]?=some y0:=by
        have:=(Array.getElem?_eq_some_iff.1 hf0').1;exact ⟨xs[0]'(by omega),by simp⟩
      have hn1:∃ y1,xs[1]?=some y1:=by
        have:=(Array.getElem?_eq_some_iff.1 hf1').1;exact ⟨xs[1]'(by omega),by simp⟩
      obtain ⟨y0,hy0⟩:=hn0;obtain ⟨y1,hy1⟩:=hn1;rw[hy0] at q0;rw[hy1] at q1;obtain ⟨k,hk,_,hw⟩:=DataW.trod_int h32 q0;simp at hk;subst hk
      have hdb:bk (DataW.agg (xs.map (·.1)))≤4294967296:=by
        have h5:=Z58 hbk (l:=ds.map (·.1)) (i:=i) (d:=DataW.agg (xs.map (·.1))) (by rw[List.getElem?_map,hd];rfl);omega
      have hy1b:bk y1.1+1≤bk (DataW.agg (xs.map (·.1))):=by
        rw[hbk.agg];have:=Z58 hbk (l:=xs.map (·.1)) (i:=1) (d:=y1.1) (by rw[List.getElem?_map,hy1];rfl);omega
      rw[Zn,Zz] at hr;obtain ⟨v1,xs1,hv1,ho,hl1⟩:=Z2E hbk hS h8 hc8 q1 (by omega);simp at hv1;subst hv1
      have hk0:0≤k∧k < 4294967296:=by
        simp[Lit.wf,IntKind.min,IntKind.max,IntKind.signed,IntKind.bits] at hw;omega
      obtain ⟨k',rfl⟩:=Int.eq_ofNat_of_zero_le hk0.1;refine ⟨(k',xs1),by simp only;omega,⟨c1,by rw[Zn,Zz];exact hr,ho⟩,?_⟩;intro d' hd';rw[hd] at hd'
      cases hd'
      simp only;omega
  obtain ⟨u,hu1,hu2⟩:=Z6m each;have hsum:=Z7V hbk (f:=fun p:Nat × List UInt8=>p.2.length+1) (l:=u) (ds:=ds) (by omega) fun i y d hy hd=>(hu2 i y hy).2.2 d hd;have hlen:u.length≤(u.map fun p=>p.2.length+1).sum:=by
    clear hu1 hu2 hsum
    induction u with
    | nil=>simp
    | cons p u ih=>simp only[List.map_cons,List.sum_cons,List.length_cons];omega
  refine ⟨u,.inr ⟨b,o,cap,hbl,by rw[hu1],⟨by omega,by omega⟩,fun i k xx hi=>?_⟩,by simp only[Z0l];omega,?_⟩
  · obtain ⟨g1,⟨xv,g2,g3⟩,_⟩:=hu2 i _ hi;exact ⟨xv,g1,g2,g3⟩
  intro p hp;obtain ⟨i,hi⟩:=List.getElem?_of_mem hp;exact (hu2 i p hi).1
end
mutual
/-- How much a tree weighs. -/
def tw:T→Nat
  | .mk _ s _ l u=>1+s.length+tws l+Z0l u
def tws:List T→Nat
  | []=>0
  | t::r=>tw t+tws r
end
theorem Z6d:∀ l:List T,tws l=(l.map tw).sum
  | []=>rfl
  | t::r=>by rw[tws,Z6d r];simp
inductive ZR:T→Prop where
  | mk {n:Int} {s:List UInt8} {nl:Bool} {l:List T} {u:List (Nat × List UInt8)} (hu:∀ p ∈ u,p.1 < 4294967296) (hl:∀ y ∈ l,ZR y):ZR (.mk n s nl l u)
structure TIds (P:Program) (TT TL tN tS tB tU tG t32 t8:TypeId) (fs gs:Array Field):Prop where
  tt:P.underlying TT=some (.struct fs)
  c5:P.cellsOf TT=5
  sz:fs.size=5
  f0:fs[0]?.map (fun f=>(f.type,f.offset))=some (tN,0)
  f1:fs[1]?.map (fun f=>(f.type,f.offset))=some (tS,1)
  f2:fs[2]?.map (fun f=>(f.type,f.offset))=some (tB,2)
  f3:fs[3]?.map (fun f=>(f.type,f.offset))=some (TL,3)
  f4:fs[4]?.map (fun f=>(f.type,f.offset))=some (tU,4)
  cN:P.cellsOf tN=1
  cS:P.cellsOf tS=1
  cB:P.cellsOf tB=1
  cL:P.cellsOf TL=1
  cU:P.cellsOf tU=1
  n:P.underlying tN=some (.int .i64)
  s:P.underlying tS=some (.slice t8)
  b:P.underlying tB=some .bool
  l:P.underlying TL=some (.slice TT)
  u:P.underlying tU=some (.slice tG)
  u8:P.underlying t8=some (.int .u8)
  c8:P.cellsOf t8=1
  g:P.underlying tG=some (.struct gs)
  cG:P.cellsOf tG=2
  g0:gs[0]?.map (fun f=>(f.type,f.offset))=some (t32,0)
  g1:gs[1]?.map (fun f=>(f.type,f.offset))=some (tS,1)
  c32:P.cellsOf t32=1
  u32:P.underlying t32=some (.int .u32)
section
variable {H:Type} {enc:TypeId × Value→H} {P:Program} {bk:DataW H→Nat} {bks:List (DataW H)→Nat}
theorem Z5U {fs:Array Field} {cs:List Value} {xs:List (DataW H × List MemPlace)} {W:World} {m i o:Nat} {t:TypeId} (h:fs[i]?.map (fun f=>(f.type,f.offset))=some (t,o)) (hc:P.cellsOf t=1) (hl:xs.length=fs.size)
    (hxs:∀ (i:Nat) (f:Field),fs[i]?=some f→DataW.trod enc P W 0 (fun _=>true) true m f.type ((cs.drop f.offset).take (P.cellsOf f.type))=xs[i]?):∃ y,xs[i]?=some y∧DataW.trod enc P W 0 (fun _=>true) true m t ((cs.drop o).take 1)=some y:=by
  obtain ⟨f,hf,e⟩:=Option.map_eq_some_iff.1 h;simp only[Prod.mk.injEq] at e;have q:=hxs i f hf;rw[e.1,e.2,hc] at q;have:=(Array.getElem?_eq_some_iff.1 hf).1;exact ⟨xs[i]'(by omega),by simp,by rw[q];simp⟩
theorem Z5r {TT TL tN tS tB tU tG t32 t8:TypeId} {fs gs:Array Field} {W:World} (hbk:Bulk bk bks) (I:TIds P TT TL tN tS tB tU tG t32 t8 fs gs) :
    ∀ (fuel:Nat) (cs:List Value) (x:DataW H × List MemPlace),DataW.trod enc P W 0 (fun _=>true) true fuel TT cs=some x→bk x.1≤4294967296→∃ t,RepT W (fun b=>b < W.heap.size) cs t∧tw t≤bk x.1∧ZR t:=by
  intro fuel
  induction fuel using Nat.strongRecOn with
  | _ fuel ih =>
    intro cs x h hb;obtain ⟨xs,m,rfl,rfl,hcl,hxl,hxs⟩:=DataW.trod_struct I.tt h;rw[I.c5] at hcl
    match cs,hcl with
    | [c0, c1, c2, c3, c4], _ =>
      obtain ⟨y0,hy0,q0⟩:=Z5U (P:=P) I.f0 I.cN hxl hxs;obtain ⟨y1,hy1,q1⟩:=Z5U (P:=P) I.f1 I.cS hxl hxs;obtain ⟨y2,hy2,q2⟩:=Z5U (P:=P) I.f2 I.cB hxl hxs;obtain ⟨y3,hy3,q3⟩:=Z5U (P:=P) I.f3 I.cL hxl hxs;obtain ⟨y4,hy4,q4⟩:=Z5U (P:=P) I.f4 I.cU hxl hxs;simp only[List.drop_zero,List.take_succ_cons,List.take_zero,List.drop_succ_cons] at q0 q1 q2 q3 q4;rw[I.sz] at hxl;have hxe:xs=[y0,y1,y2,y3,y4]:=by
        match xs,hxl with
        | [a0,a1,a2,a3,a4],_=>simp at hy0 hy1 hy2 hy3 hy4;simp[hy0,hy1,hy2,hy3,hy4]
      subst hxe;simp only[List.map_cons,List.map_nil,hbk.agg,hbk.c,hbk.n] at hb ⊢;obtain ⟨n,hn,_,hwn⟩:=DataW.trod_int I.n q0;simp at hn;subst hn
      obtain ⟨nl,hnl,_⟩:=DataW.trod_bool I.b q2;simp at hnl;subst hnl
      obtain ⟨v1,s,hv1,ho,hsl⟩:=Z2E hbk I.s I.u8 I.c8 q1 (by omega);simp at hv1;subst hv1
      obtain ⟨u,hu,huw,huk⟩:=Z5t hbk I.u I.g I.cG I.g0 I.g1 I.c32 I.cS I.u32 I.s I.u8 I.c8 q4 (by omega);have hn64 : -9223372036854775808≤n∧n≤9223372036854775807:=by
        simpa [Lit.wf,IntKind.min,IntKind.max,IntKind.signed,IntKind.bits] using hwn
      have hL:∃ l,Z0J W (fun b=>b < W.heap.size) c3 l∧tws l+1≤bk y3.1∧∀ y ∈ l,ZR y:=by
        rcases Z35 hbk I.l (by rw[I.c5];omega) q3 with ⟨hv0,h1⟩ | ⟨b,o,len,cap,k,ds,rfl,rfl,hbl,hl,hdl,hbd,hel⟩
        · exact ⟨[],.inl ⟨hv0,rfl⟩,by simpa [tws] using h1,by simp⟩
        have each:∀ i,i < len→∃ t,(RepT W (fun b=>b < W.heap.size) (Z4h W b (o+i * 5) 5) t∧W.rangeAt b (o+i * 5) (Z4h W b (o+i * 5) 5))∧(∀ d,ds[i]?=some d→tw t≤bk d.1)∧ZR t:=by
          intro i hi;obtain ⟨es,d,hr,hle,hd,htr⟩:=hel i hi;rw[I.c5] at hr hle;have hd5:=Z58 hbk (l:=ds.map (·.1)) (i:=i) (d:=d.1) (by rw[List.getElem?_map,hd];rfl);obtain ⟨t,h1,h2,h3⟩:=ih k (by omega) es d htr (by omega);have hce:=Z4Y hr;rw[hle] at hce;rw[← hce];exact ⟨t,⟨h1,hr⟩,fun d' hd'=>by rw[hd] at hd';cases hd';exact h2,h3⟩
        obtain ⟨l,hl1,hl2⟩:=Z6m each;have hsum:=Z7V hbk (f:=tw) (l:=l) (ds:=ds) (by omega) fun i y d hy hd=>(hl2 i y hy).2.1 d hd;have hlen:l.length≤(l.map tw).sum:=by
          clear hl1 hl2 hsum
          induction l with
          | nil=>simp
          | cons p l ih =>
            have:1≤tw p:=by cases p;rw[tw];omega
            simp only[List.map_cons,List.sum_cons,List.length_cons];omega
        rw[← Z6d] at hsum hlen;refine ⟨l,.inr ⟨b,o,cap,hbl,by rw[hl1],⟨by omega,by omega⟩,fun i=>Z4h W b (o+i * 5) 5,fun i y hi=>(hl2 i y hi).1.2,fun i y hi=>(hl2 i y hi).1.1⟩,by omega,fun y hy=>?_⟩;obtain ⟨i,hi⟩:=List.getElem?_of_mem hy;exact (hl2 i y hi).2.2
      obtain ⟨l,hl,hlw,hlk⟩:=hL;refine ⟨.mk n s nl l u,Z0O.2 ⟨_,_,_,rfl,hn64,ho,hl,hu⟩,?_,.mk huk hlk⟩;rw[tw];omega
end
end Go.Kq

namespace Go.Kq
open Go
structure Z8P (l:List (Nat × List UInt8)):Prop where
  rise:l.Pairwise fun a b=>a.1 < b.1
  key:∀ p ∈ l,p.1 < 4294967296
  few:∀ p ∈ l,p.2.length≤32767
  len:l.length < 4294967296
def vTag (p:Nat × List UInt8):Nat × V:=(p.1,.s p.2)
theorem Z3A:∀ (l:List (Nat × List UInt8)) (x:V) (rest:List UInt8),(∀ p ∈ l,p.1 < 4294967296∧p.2.length≤32767)→l.Pairwise (fun a b=>a.1 < b.1)→(∀ q ∈ Z0b x,∀ p ∈ l,q.1 < p.1) →
    ∃ y,Z2c l.length x ⟨Zr l++rest,false,false⟩=(y,⟨rest,false,false⟩)∧Z0b y=Z0b x++l.map vTag
  | [],x,rest,_,_,_=>⟨x,rfl,by simp⟩
  | p :: l, x, rest, h, hp, hx => by
    obtain ⟨h1,h2⟩:=h p (by simp);have e1:Zr (p::l)++rest=uvW p.1++(uvW p.2.length++(p.2++(Zr l++rest))):=by simp[Zr,tagW]
    obtain ⟨y,h3,_,h4⟩:=Z0w (o:=p.2) (rest:=Zr l++rest) (l:=p.2.length) (nl:=false) rfl (by simp);have h5:=h4 rfl;subst h5;have hset:Z0b (Z2p x p.1 (.s p.2))=Z0b x++[vTag p]:=by
      rw[Z2p,Z0b,Z2g fun q hq=>Nat.ne_of_lt (hx q hq p (by simp))];rfl
    obtain ⟨y,h6,h7⟩:=Z3A l (Z2p x p.1 (.s p.2)) rest (fun q hq=>h q (by simp[hq])) (List.pairwise_cons.1 hp).2 (by
      intro q hq r hr;rw[hset] at hq
      rcases List.mem_append.1 hq with hq | hq
      · exact hx q hq r (by simp[hr])
      · simp[vTag] at hq;subst hq;exact (List.pairwise_cons.1 hp).1 r hr)
    refine ⟨y,?_,by rw[h7,hset];simp⟩;rw[e1,List.length_cons];simp only[Z2c,Z0k h1,Z0k (show p.2.length < 4294967296 by omega),h3,V.oct];exact h6
theorem insKv_le {p:Nat × V}:∀ {l:List (Nat × V)},(∀ q ∈ l,p.1≤q.1)→Z4o p l=p::l
  | [],_=>rfl
  | q::r,h=>by rw[Z4o,if_pos (h q (by simp))]
theorem Z5x:∀ {l:List (Nat × V)},l.Pairwise (fun a b=>a.1 < b.1)→Z0o l=l
  | [],_=>rfl
  | p :: l, h => by
    have h1:=List.pairwise_cons.1 h;show Z4o p (Z0o l)=p::l
    rw[Z5x h1.2,insKv_le fun q hq=>Nat.le_of_lt (h1.1 q hq)]
theorem Z4U {y:V} {l:List (Nat × List UInt8)} (h:Z0b y=l.map vTag) (hp:l.Pairwise fun a b=>a.1 < b.1):ZV y=l:=by
  unfold ZV;rw[h,Z5x (List.pairwise_map.2 hp),List.map_map];have:(fun p:Nat × V=>(p.1,p.2.octs)) ∘ vTag=id:=by funext p;rfl
  rw[this,List.map_id]
theorem inv_tags {l:List (Nat × List UInt8)} (h:Z8P l) {ver:Int}:Inv Z1p ver true Z3H (uvW l.length++Zr l):=by
  intro rest nl hn;have hnl:=Z10 hn (by simp[Z4u]);subst hnl;obtain ⟨y,h1,h2⟩:=Z3A l .nil rest (fun p hp=>⟨h.key p hp,h.few p hp⟩) h.rise (by simp[Z0b]);have h3:ZV y=l:=Z4U (by rw[h2];simp[Z0b]) h.rise;refine ⟨y,?_,by rw[Z3H,h3]⟩;simp only[Z1p,if_true,Z2q,List.append_assoc,Z0k h.len,h1]
theorem Z8p {l:List (Nat × List UInt8)} {fl:Bool} (h:fl=true→Z8P l) {ver:Int}:Inv Z1p ver fl (fun x=>if fl then Z3H x else []) (if fl then uvW l.length++Zr l else []):=by
  cases fl with
  | true=>exact inv_tags (h rfl)
  | false=>intro rest nl _;exact ⟨.nil,by simp[Z1p],rfl⟩
theorem Z7q {out:List (Nat × List UInt8)} {k:Nat} (h:out.Pairwise fun a b=>a.1 < b.1):(∀ p ∈ out.take (Z0i out k),p.1 < k)∧(∀ p ∈ out.drop (Z0i out k),k≤p.1):=by
  induction out with
  | nil=>simp[Z0i]
  | cons q out ih =>
    have h1:=List.pairwise_cons.1 h
    by_cases hq:q.1 < k
    · have e : Z0i (q :: out) k = Z0i out k + 1 := by simp [Z0i, List.takeWhile_cons, hq]
      rw[e];obtain ⟨i1,i2⟩:=ih h1.2;exact ⟨by intro p hp;rcases List.mem_cons.1 (by simpa using hp) with rfl | hp;exact hq;exact i1 p hp,by simpa using i2⟩
    have e:Z0i (q::out) k=0:=by simp[Z0i,List.takeWhile_cons,hq]
    rw[e];refine ⟨by simp,?_⟩;intro p hp
    rcases List.mem_cons.1 (by simpa using hp) with rfl | hp
    · omega
    have:=h1.1 p hp;omega
theorem Z6p {least:Nat} {out:List (Nat × List UInt8)} {t:Nat × List UInt8} (h:out.Pairwise fun a b=>a.1 < b.1):(ZW least out t).Pairwise fun a b=>a.1 < b.1:=by
  unfold ZW
  split
  · exact h
  split
  · exact h
  rename_i hne
  obtain ⟨i1,i2⟩:=Z7q (k:=t.1) h;have hd:∀ p ∈ out.drop (Z0i out t.1),t.1 < p.1:=by
    intro p hp;have h2:=i2 p hp
    rcases Nat.lt_or_ge t.1 p.1 with h3 | h3
    · exact h3
    exfalso
    have hpe:p.1=t.1:=by omega
    cases hdr:out.drop (Z0i out t.1) with
    | nil=>rw[hdr] at hp;simp at hp
    | cons q r =>
      have hq:out[Z0i out t.1]?=some q:=by
        have:=congrArg (fun l=>l[0]?) hdr
        simpa using this
      have hpw:=List.Pairwise.sublist (List.drop_sublist (Z0i out t.1) out) h;rw[hdr] at hpw hp;have hq2:=i2 q (by rw[hdr];simp)
      rcases List.mem_cons.1 hp with rfl | hp
      · exact hne (by rw[hq];simp[hpe])
      have:=(List.pairwise_cons.1 hpw).1 p hp;omega
  rw[List.pairwise_append];refine ⟨h.sublist (List.take_sublist _ _),List.pairwise_cons.2 ⟨hd,h.sublist (List.drop_sublist _ _)⟩,?_⟩;intro a ha b hb;have h1:=i1 a ha
  rcases List.mem_cons.1 hb with rfl | hb
  · exact h1
  have:=hd b hb;omega
theorem Z7p {least:Nat} {out:List (Nat × List UInt8)} {t p:Nat × List UInt8} (h:p ∈ ZW least out t):p ∈ out∨p=t:=by
  unfold ZW at h
  split at h
  · exact .inl h
  split at h
  · exact .inl h
  rcases List.mem_append.1 h with h | h
  · exact .inl (List.mem_of_mem_take h)
  rcases List.mem_cons.1 h with rfl | h
  · exact .inr rfl
  exact .inl (List.mem_of_mem_drop h)
theorem Z4d {least:Nat}:∀ (u out:List (Nat × List UInt8)),out.Pairwise (fun a b=>a.1 < b.1)→(u.foldl (ZW least) out).Pairwise (fun a b=>a.1 < b.1)∧(∀ p ∈ u.foldl (ZW least) out,p ∈ out∨p ∈ u)∧(u.foldl (ZW least) out).length≤out.length+u.length
  | [],out,h=>⟨h,fun p hp=>.inl hp,by simp⟩
  | t :: u, out, h => by
    obtain ⟨h1,h2,h3⟩:=Z4d u (ZW least out t) (Z6p h);refine ⟨h1,fun p hp=>?_,?_⟩
    · rcases h2 p hp with h | h
      · rcases Z7p h with h | h
        · exact .inl h
        exact .inr (by simp[h])
      exact .inr (by simp[h])
    have:=Z2i least out t;simp only[List.foldl_cons,List.length_cons];omega
theorem Z6b {fs:List Fd} {t:T} (hk:∀ p ∈ t.u,p.1 < 4294967296):Z8P (ZD fs t):=by
  obtain ⟨h1,h2,h3⟩:=Z4d (least:=Z7 fs) (t.u.take 32767) [] (by simp);refine ⟨?_,?_,?_,?_⟩
  · exact List.pairwise_map.2 h1
  · intro p hp;obtain ⟨q, hq, rfl⟩ := List.mem_map.1 hp
    rcases h2 q hq with h | h
    · simp at h
    exact hk q (List.mem_of_mem_take h)
  · intro p hp;obtain ⟨q,hq,rfl⟩:=List.mem_map.1 hp;simp[Zd];omega
  unfold ZD ZA;rw[List.length_map];simp at h3
  omega
end Go.Kq

namespace Go.Kq
open Go
def Z3s:List Fd→Int→Bool→List T→Nat→List UInt8
  | [],_,_,_,_=>[]
  | f::fs,ver,flex,ts,i=>(if f.has ver then Zc f ver flex (atT ts i) else [])++Z3s fs ver flex ts (i+1)
theorem Z70:∀ (fs:List Fd) (ver:Int) (flex:Bool) (ts:List T) (j:Nat),(∀ f ∈ fs,f.tag < 0)→Z0R fs ver (ZZ fs ver flex ts j) fs.length=Z3s fs ver flex ts j
  | [],_,_,_,_,_=>rfl
  | f :: fs, ver, flex, ts, j, h => by
    have ih:=Z70 fs ver flex ts (j+1) fun g hg=>h g (by simp[hg]);have hf:=h f (by simp);rw[Z3s,← ih,Z0R,List.length_cons,List.range_succ_eq_map,List.flatMap_cons,List.flatMap_map,ZZ];simp[Z0R,hf]
theorem Z3h {fs:List Fd} {ver:Int} {flex:Bool} {t:T} (h:∀ f ∈ fs,f.tag < 0):Z07 fs ver flex t=Z3s fs ver flex t.l 0++(if flex then uvW (ZD fs t).length++Zr (ZD fs t) else []):=by
  have hk:Zl fs t (ZZ fs ver flex t.l 0)=[]:=by simp[Zl,Z2H h]
  have hp:∀ l:List (Nat × List UInt8),l.flatMap ZP=Zr l:=fun l=>by
    simp only[Zr,List.flatMap];congr 1
  rw[Z07,Z8k,hk,Z70 _ _ _ _ _ h]
  cases flex <;> simp[hp]
section
variable {ver:Int} {flex:Bool} {t:T} {nul of:Int} {sub:T→List UInt8}
theorem Z8w:ZF 1 nul of sub ver flex t=fxW t.n 1:=by simp[ZF,Zh,Zg]
theorem Z3q:ZF 2 nul of sub ver flex t=fxW t.n 2:=by simp[ZF,Zh,Zg]
theorem Z7v:ZF 3 nul of sub ver flex t=fxW t.n 4:=by simp[ZF,Zh,Zg]
theorem Z6r:ZF 0 nul of sub ver flex t=[UInt8.ofNat (t.n % 2).toNat]:=by simp[ZF,Zh]
theorem Z6K (h:nul < 0):Z0Y nul ver t=false:=by
  have:¬ nul≥0:=by omega
  simp[Z0Y,this]
theorem Z4M (h:Z0Y nul ver t=false):ZF 8 nul of sub ver flex t=if flex then uvW ((Zd t.s).length+1)++Zd t.s else fxW (Zd t.s).length 2++Zd t.s:=by
  cases flex <;> simp[ZF,Zh,Zi,h]
theorem Z6q (h:Z0Y nul ver t=true):ZF 8 nul of sub ver flex t=if flex then [0] else fxW (-1) 2:=by
  cases flex <;> simp[ZF,Zh,Zi,h]
theorem Z2b (s:List UInt8):(Zd s).length≤32767:=by simp[Zd];omega
end
theorem Z8E {g:Rd} {fl:Int→Bool} {gs:Int→List (V→List UInt8)} {ver:Int} {W:List UInt8} (h:InvL g ver (fl ver) (gs ver) W):Z5Y g fl (fun ver=>apSt ((fun _=>[])::gs ver)) ver W=some W:=by
  obtain ⟨xs,h1,h2⟩:=h [] W.isEmpty (by intro h;simpa using h);rw[List.append_nil] at h1;simp[Z5Y,h1,apSt,Z3J,h2]
end Go.Kq

namespace Go.Kq
open Go
theorem Z4T {n:Nat} (h:n < 4294967296):(uvW n).length≤5:=Z6D 5 n (by omega) (by simp only[Nat.reducePow];omega)
mutual
/-- So many Z0 a piece. -/
def kF:Fd→Nat
  | .mk _ _ _ _ _ _ _ sub=>kFs sub+40
def kFs:List Fd→Nat
  | []=>0
  | f::fs=>kF f+kFs fs
end
mutual
/-- No field is a tag. -/
def freeF:Fd→Bool
  | .mk _ _ _ _ tag _ _ sub=>decide (tag < 0) && Z4G sub
def Z4G:List Fd→Bool
  | []=>true
  | f::fs=>freeF f && Z4G fs
end
theorem Z3o:∀ {fs:List Fd},Z4G fs=true→∀ f ∈ fs,f.tag < 0
  | [],_,_,h=>by simp at h
  | g :: fs, h, f, hf => by
    rw[Z4G,Bool.and_eq_true] at h
    rcases List.mem_cons.1 hf with rfl | hf
    · cases f;simp[freeF] at h;exact h.1.1
    exact Z3o h.2 f hf
theorem Z7Q (t:T):1≤tw t:=by cases t;rw[tw];omega
theorem tw_eq (t:T):tw t=1+t.s.length+tws t.l+Z0l t.u:=by cases t;rw[tw];rfl
theorem ZR.u {t:T} (h:ZR t):∀ p ∈ t.u,p.1 < 4294967296:=by cases h;assumption
theorem ZR.l {t:T} (h:ZR t):∀ y ∈ t.l,ZR y:=by cases h;assumption
theorem ZR.zero:ZR .zero:=.mk (by simp) (by simp)
theorem ZR.at {l:List T} (h:∀ y ∈ l,ZR y) (i:Nat):ZR (atT l i):=by
  unfold atT
  cases hi:l[i]? with
  | none=>exact .zero
  | some y=>exact h y (List.mem_of_getElem? hi)
theorem Z3r {flex null:Bool} {n size:Nat} (h:n≤32767) (hs:size≤4):(Zi flex null n size).length≤5:=by
  unfold Zi;have:=Z4T (n:=n+1) (by omega)
  split
  · simp
  split
  · omega
  split <;> simp only[fxL] <;> omega
theorem Z6A {kind:Int} {sub:T→List UInt8} {null flex:Bool} {t:T} {S:Nat} (hS:(sub t).length≤S * tw t):(Zh kind sub null flex t).length≤(S+19) * tw t:=by
  have h1:=Z7Q t;have h2:=tw_eq t;rw[Nat.add_mul];have h3:(if null then [] else Zd t.s).length≤t.s.length:=by cases null <;> simp[Zd];omega
  have h4:(if null then [] else Zd t.s).length≤32767:=by cases null <;> simp[Zd];omega
  unfold Zh
  split
  · simp;omega
  split
  · simp only[Z3U,List.length_append,List.length_take,List.length_replicate];omega
  split
  · rw[List.length_append];have:=Z3r (flex:=flex) (null:=null) (size:=2) h4 (by omega);omega
  split
  · rw[List.length_append];have:=Z3r (flex:=flex) (null:=null) (size:=4) h4 (by omega);omega
  split
  · omega
  have:Zg kind≤8:=by unfold Zg;repeat' split <;> try omega
  rw[fxL];omega
theorem tws_take (l:List T) (n:Nat):((l.take n).map tw).sum≤tws l:=by
  rw[Z6d]
  induction l generalizing n with
  | nil=>simp
  | cons y l ih =>
    cases n with
    | zero=>simp
    | succ n=>have:=ih n;simp only[List.take_succ_cons,List.map_cons,List.sum_cons];omega
theorem Z8v {f:T→List UInt8} {S:Nat}:∀ {l:List T},(∀ y ∈ l,(f y).length≤S * tw y)→(l.flatMap f).length≤S * (l.map tw).sum
  | [],_=>by simp
  | y :: l, h => by
    have h1:=h y (by simp);have h2:=Z8v (f:=f) (S:=S) (l:=l) fun z hz=>h z (by simp[hz]);simp only[List.flatMap_cons,List.length_append,List.map_cons,List.sum_cons,Nat.mul_add];omega
theorem Z5v (a b:List (Nat × List UInt8)):Z0l (a++b)=Z0l a+Z0l b:=by simp[Z0l]
theorem Z7U (least:Nat) (out:List (Nat × List UInt8)) (t:Nat × List UInt8):Z0l (ZW least out t)≤Z0l out+(t.2.length+1):=by
  unfold ZW
  split
  · omega
  split
  · omega
  have h1:Z0l out=Z0l (out.take (Z0i out t.1))+Z0l (out.drop (Z0i out t.1)):=by rw[← Z5v,List.take_append_drop]
  rw[Z5v];have h2:Z0l (t::out.drop (Z0i out t.1))=t.2.length+1+Z0l (out.drop (Z0i out t.1)):=by simp[Z0l]
  omega
theorem Z3Y (least:Nat):∀ (u out:List (Nat × List UInt8)),Z0l (u.foldl (ZW least) out)≤Z0l out+Z0l u
  | [],out=>by simp
  | t :: u, out => by
    have h1:=Z7U least out t;have h2:=Z3Y least u (ZW least out t);have h3:Z0l (t::u)=t.2.length+1+Z0l u:=by simp[Z0l]
    rw[List.foldl_cons];omega
theorem Z4x:∀ (u:List (Nat × List UInt8)) (n:Nat),Z0l (u.take n)≤Z0l u
  | [],n=>by simp
  | p::u,0=>by simp[Z0l]
  | p::u,n+1=>by have:=Z4x u n;simp[Z0l] at this ⊢;omega
theorem Z3X:∀ u:List (Nat × List UInt8),Z0l (u.map fun p=>(p.1,Zd p.2))≤Z0l u
  | []=>by simp
  | p :: u => by
    have:=Z3X u;simp[Z0l,Zd] at this ⊢;omega
theorem unksW_wt {fs:List Fd} {t:T}:Z0l (ZD fs t)≤Z0l t.u:=by
  unfold ZD ZA;have h1:=Z3X ((t.u.take 32767).foldl (ZW (Z7 fs)) []);have h2:=Z3Y (Z7 fs) (t.u.take 32767) [];have h3:=Z4x t.u 32767;have h4:Z0l []=0:=rfl;omega
theorem Z6G:∀ {l:List (Nat × List UInt8)},(∀ p ∈ l,p.1 < 4294967296∧p.2.length≤32767)→(Zr l).length≤10 * Z0l l
  | [],_=>by simp[Zr]
  | p :: l, h => by
    have h1:=Z6G (l:=l) fun q hq=>h q (by simp[hq]);obtain ⟨h2,h3⟩:=h p (by simp);have h4:=Z4T h2;have h5:=Z4T (n:=p.2.length) (by omega);simp[Zr,tagW,Z0l] at h1 ⊢
    omega
end Go.Kq

namespace Go.Kq
open Go Go.Proofs
mutual
/-- Tags are numbers that a uvarint holds; a field with a tag is no bool, no uuid, no part. -/
def Fd.okK:Fd→Bool | .mk kind _ _ _ tag _ _ sub=>decide (tag < 4294967295) && (decide (tag < 0) || (decide (kind ≠ 0) && decide (kind ≠ 7) && decide (kind ≠ 10))) && Z31 sub
def Z31:List Fd→Bool
  | []=>true
  | f::fs=>f.okK && Z31 fs
end
theorem Z1A:∀ {fs:List Fd},Z31 fs=true→∀ f ∈ fs,f.okK=true
  | [],_,_,h=>by simp at h
  | g :: fs, h, f, hf => by
    rw[Z31,Bool.and_eq_true] at h
    rcases List.mem_cons.1 hf with rfl | hf
    · exact h.1
    exact Z1A h.2 f hf
theorem Z5F {f:Fd} (h:f.okK=true):f.tag < 4294967295∧(0≤f.tag→¬ f.kind=0∧¬ f.kind=7∧¬ f.kind=10)∧Z31 f.sub=true:=by
  cases f with
  | mk kind fr to nul tag df of sub =>
    rw[Fd.okK] at h;simp only[Bool.and_eq_true,Bool.or_eq_true,decide_eq_true_eq] at h;refine ⟨h.1.1,fun h0=>?_,h.2⟩
    rcases h.1.2 with h1 | h1
    · have h0':0≤tag:=h0;omega
    exact ⟨h1.1.1,h1.1.2,h1.2⟩
mutual
/-- Every part is written as the reference writes it: the functions call one another. -/
theorem Z3g {P:Program} {fp fv ff fu:FuncId} (hp:∀ fs:List Fd,(∀ f ∈ fs,f.tag < 4294967295)→(∀ fd ∈ fs,Z1b P ff fd (Zc fd))→(∀ fd ∈ fs,0≤fd.tag→Z2u P fu fd)→Z1U P fp fs (Z07 fs))
    (hu:∀ fd:Fd,¬ fd.kind=0→¬ fd.kind=7→¬ fd.kind=10→Z2u P fu fd)
    (hv:∀ (fs:List Fd) (sub:Int→Bool→T→List UInt8),Z1U P fp fs sub→Z2t P fv fs sub)
    (hf:∀ (fd:Fd) (sub:Int→Bool→T→List UInt8),Z2t P fv fd.sub sub→Z1U P fp fd.sub sub→Z1b P ff fd (fun ver flex t=>ZF fd.kind fd.nul fd.of (sub ver flex) ver flex t)) :
    ∀ fs:List Fd,Z31 fs=true→∀ fd ∈ fs,Z1b P ff fd (Zc fd)
  | [],_,_,h=>by simp at h
  | g :: fs, h, fd, hm => by
    rw[Z31,Bool.and_eq_true] at h
    rcases List.mem_cons.1 hm with e | hm
    · rw[e];exact Z7s hp hu hv hf g h.1
    exact Z3g hp hu hv hf fs h.2 fd hm
theorem Z7s {P:Program} {fp fv ff fu:FuncId} (hp:∀ fs:List Fd,(∀ f ∈ fs,f.tag < 4294967295)→(∀ fd ∈ fs,Z1b P ff fd (Zc fd))→(∀ fd ∈ fs,0≤fd.tag→Z2u P fu fd)→Z1U P fp fs (Z07 fs))
    (hu:∀ fd:Fd,¬ fd.kind=0→¬ fd.kind=7→¬ fd.kind=10→Z2u P fu fd)
    (hv:∀ (fs:List Fd) (sub:Int→Bool→T→List UInt8),Z1U P fp fs sub→Z2t P fv fs sub)
    (hf:∀ (fd:Fd) (sub:Int→Bool→T→List UInt8),Z2t P fv fd.sub sub→Z1U P fp fd.sub sub→Z1b P ff fd (fun ver flex t=>ZF fd.kind fd.nul fd.of (sub ver flex) ver flex t)) :
    ∀ fd:Fd,fd.okK=true→Z1b P ff fd (Zc fd)
  | .mk kind fr to nul tag df of sub, h => by
    have h1:=(Z5F h).2.2;have hP:Z1U P fp sub (Z07 sub):=hp sub (fun f hf=>(Z5F (Z1A h1 f hf)).1) (Z3g hp hu hv hf sub h1) fun f hf h0=>by
      have:=(Z5F (Z1A h1 f hf)).2.1 h0;exact hu f this.1 this.2.1 this.2.2
    exact (hf (.mk kind fr to nul tag df of sub) (Z07 sub) (hv sub _ hP) hP).congr fun ver flex t=>(Z06 _ ver flex t).symm
end
theorem Z8d {P:Program} {fp fv ff fu:FuncId} (hp:∀ fs:List Fd,(∀ f ∈ fs,f.tag < 4294967295)→(∀ fd ∈ fs,Z1b P ff fd (Zc fd))→(∀ fd ∈ fs,0≤fd.tag→Z2u P fu fd)→Z1U P fp fs (Z07 fs))
    (hu:∀ fd:Fd,¬ fd.kind=0→¬ fd.kind=7→¬ fd.kind=10→Z2u P fu fd)
    (hv:∀ (fs:List Fd) (sub:Int→Bool→T→List UInt8),Z1U P fp fs sub→Z2t P fv fs sub)
    (hf:∀ (fd:Fd) (sub:Int→Bool→T→List UInt8),Z2t P fv fd.sub sub→Z1U P fp fd.sub sub→Z1b P ff fd (fun ver flex t=>ZF fd.kind fd.nul fd.of (sub ver flex) ver flex t))
    (fs:List Fd) (h:Z31 fs=true):Z1U P fp fs (Z07 fs) :=
  hp fs (fun f hf=>(Z5F (Z1A h f hf)).1) (Z3g hp hu hv hf fs h) fun f hf h0=>by
    have:=(Z5F (Z1A h f hf)).2.1 h0;exact hu f this.1 this.2.1 this.2.2
end Go.Kq

namespace Go.Kq
open Go Go.Proofs
def Z11:List Fd→Int→Bool→List T→Nat→List UInt8
  | [],_,_,_,_=>[]
  | f::fs,ver,flex,ts,i=>(if decide (f.tag < 0) && f.has ver then Zc f ver flex (atT ts i) else [])++Z11 fs ver flex ts (i+1)
def knL:List Fd→Int→Bool→List T→Nat→List (Nat × List UInt8)
  | [],_,_,_,_=>[]
  | f::fs,ver,flex,ts,i=>(if decide (f.tag=0) && !Z02 f (atT ts i) then [(0,Zc f ver flex (atT ts i))] else [])++knL fs ver flex ts (i+1)
theorem Z57:∀ (fs:List Fd) (ver:Int) (flex:Bool) (ts:List T) (j:Nat),Z0R fs ver (ZZ fs ver flex ts j) fs.length=Z11 fs ver flex ts j
  | [],_,_,_,_=>rfl
  | f :: fs, ver, flex, ts, j => by
    have ih:=Z57 fs ver flex ts (j+1);rw[Z11,← ih,Z0R,List.length_cons,List.range_succ_eq_map,List.flatMap_cons,List.flatMap_map,ZZ];simp[Z0R]
theorem knL_eq:∀ (fs:List Fd) (ver:Int) (flex:Bool) (ts us:List T) (j:Nat),us=ts.drop j →
    ((List.range fs.length).flatMap fun i=>match fs[i]? with
      | some f=>if decide (f.tag=((0:Nat):Int)) && !Z02 f (atT us i) then [((0:Nat),(ZZ fs ver flex ts j).getD i [])] else []
      | none=>[])=knL fs ver flex ts j
  | [],_,_,_,_,_,_=>rfl
  | f :: fs, ver, flex, ts, us, j, hu => by
    have ih:=knL_eq fs ver flex ts (us.drop 1) (j+1) (by rw[hu,List.drop_drop]);have e0:atT us 0=atT ts j:=by rw[hu];unfold atT;rw[List.getElem?_drop];simp
    have e1:∀ i,atT us (i+1)=atT (us.drop 1) i:=fun i=>by unfold atT;rw[List.getElem?_drop];congr 2;omega
    rw[knL,← ih,List.length_cons,List.range_succ_eq_map,List.flatMap_cons,List.flatMap_map,ZZ];simp only[List.getElem?_cons_zero,List.getElem?_cons_succ,List.getD_cons_zero,List.getD_cons_succ,e0,e1]
    congr 1
theorem partW_kn {fs:List Fd} {ver:Int} {flex:Bool} {t:T} (h:Z7 fs=1) :
    Z07 fs ver flex t=Z11 fs ver flex t.l 0++(if flex then uvW (knL fs ver flex t.l 0++ZD fs t).length++Zr (knL fs ver flex t.l 0++ZD fs t) else []):=by
  have hp:∀ l:List (Nat × List UInt8),l.flatMap ZP=Zr l:=fun l=>by
    simp only[Zr,List.flatMap];congr 1
  have hk:Zl fs t (ZZ fs ver flex t.l 0)=knL fs ver flex t.l 0:=by
    rw[← knL_eq fs ver flex t.l t.l 0 (by simp)];unfold Zl;rw[h,show List.range 1=[0] from rfl,List.flatMap_cons,List.flatMap_nil,List.append_nil]
    rfl
  rw[Z07,Z8k,hk,Z57]
  cases flex <;> simp[hp]
theorem Z6C {n:Nat} (h:n < 18446744073709551616):(uvW n).length≤10:=Z6D 10 n (by omega) (by simp only[Nat.reducePow];omega)
theorem knL_len {fs:List Fd} {ver:Int} {flex:Bool} {ts:List T} {i:Nat}:(knL fs ver flex ts i).length≤fs.length:=by
  induction fs generalizing i with
  | nil=>simp[knL]
  | cons f fs ih =>
    have:=ih (i:=i+1);rw[knL,List.length_append,List.length_cons]
    split <;> simp only[List.length_cons,List.length_nil] <;> omega
theorem both_le {fs:List Fd} {ver:Int} {flex:Bool} {ts:List T} {i:Nat} (h:∀ j f,fs[j]?=some f→(Zc f ver flex (atT ts (i+j))).length < 18446744073709551616) :
    (Z11 fs ver flex ts i).length+(Zr (knL fs ver flex ts i)).length≤((ZZ fs ver flex ts i).map List.length).sum+15 * fs.length:=by
  induction fs generalizing i with
  | nil=>simp[knL,Zr,Z11]
  | cons f fs ih =>
    have h1:=ih (i:=i+1) fun j g hg=>by
      have:=h (j+1) g (by simpa using hg)
      rwa [show i+1+j=i+(j+1) from by omega]
    have h2:=Z6C (h 0 f (by simp));have h3:=Z4T (n:=0) (by omega);rw[Nat.add_zero] at h2;rw[knL,Z11,ZZ,List.map_cons,List.sum_cons,List.length_cons];have ha:∀ a b:List (Nat × List UInt8),Zr (a++b)=Zr a++Zr b:=fun a b=>by simp[Zr]
    rw[ha,List.length_append,List.length_append];have e1:(Zr [(0,Zc f ver flex (atT ts i))]).length=(uvW 0).length+((uvW (Zc f ver flex (atT ts i)).length).length+(Zc f ver flex (atT ts i)).length):=by simp[Zr,tagW]
    have e2:(Zr []).length=0:=rfl
    by_cases ht:f.tag < 0
    · have ht0 : ¬ f.tag = 0 := by omega
      simp only[ht0,decide_false,Bool.false_and,Bool.false_eq_true,if_false,e2]
      split
      · omega
      simp only[List.length_nil];omega
    simp only[ht,decide_false,Bool.false_and,Bool.false_eq_true,if_false,List.length_nil]
    split
    · omega
    omega
theorem known_le {fs:List Fd} {k:Nat}:Z7 fs≤k→∀ f ∈ fs,f.tag < k:=by
  induction fs with
  | nil=>simp
  | cons g fs ih =>
    intro h f hf;rw[Z7] at h
    rcases List.mem_cons.1 hf with rfl | hf
    · split at h <;> omega
    exact ih (by split at h <;> omega) f hf
theorem Z6N {fs:List Fd} {ver:Int} {flex:Bool} {ts:List T} (h:∀ f ∈ fs,f.tag < 0):∀ i,knL fs ver flex ts i=[]:=by
  induction fs with
  | nil=>intro i;rfl
  | cons f fs ih =>
    intro i;have:=h f (by simp);rw[knL,ih (fun g hg=>h g (by simp[hg])),List.append_nil,if_neg (by simp;omega)]
theorem Z44 {fs:List Fd} {ver:Int} {flex:Bool} {t:T} (h:Z7 fs≤1) :
    Z07 fs ver flex t=Z11 fs ver flex t.l 0++(if flex then uvW (knL fs ver flex t.l 0++ZD fs t).length++Zr (knL fs ver flex t.l 0++ZD fs t) else []):=by
  by_cases h1:Z7 fs=1
  · exact partW_kn h1
  have h0:∀ f ∈ fs,f.tag < 0:=fun f hf=>by have:=known_le (k:=0) (by omega) f hf;simpa using this
  have hp:∀ l:List (Nat × List UInt8),l.flatMap ZP=Zr l:=fun l=>by
    simp only[Zr,List.flatMap];congr 1
  have hk:Zl fs t (ZZ fs ver flex t.l 0)=[]:=by simp[Zl,Z2H h0]
  rw[Z6N h0,Z07,Z8k,hk,Z57]
  cases flex <;> simp[hp]
mutual
/-- So many Z0 a piece, tags among them. -/
def kGn:Fd→Nat
  | .mk _ _ _ _ _ _ _ sub=>kGs sub+40
def kGs:List Fd→Nat
  | []=>0
  | f::fs=>kGn f+15+kGs fs
end
theorem Z8j:∀ fs:List Fd,15 * fs.length≤kGs fs
  | []=>by simp[kGs]
  | f::fs=>by have:=Z8j fs;rw[kGs,List.length_cons];omega
mutual
/-- One tag at most, the tag nought, in every part. -/
def okB:Fd→Bool | .mk _ _ _ _ _ _ _ sub=>decide (Z7 sub≤1) && okBl sub
def okBl:List Fd→Bool
  | []=>true
  | f::fs=>okB f && okBl fs
end
theorem Z3G {ver:Int} {flex:Bool} {M:Nat}:∀ {fs:List Fd} {ts:List T} {i:Nat},(∀ f ∈ fs,∀ y,ZR y→tw y≤M→(Zc f ver flex y).length≤kGn f * tw y)→(∀ y ∈ ts,ZR y)→1+tws (ts.drop i)≤M→((ZZ fs ver flex ts i).map List.length).sum+15 * fs.length≤kGs fs * (1+tws (ts.drop i))
  | [],ts,i,_,_,_=>by simp[ZZ]
  | f :: fs, ts, i, h, hk, hM => by
    have h3:tw (atT ts i)+tws (ts.drop (i+1))≤1+tws (ts.drop i):=by
      unfold atT
      cases hi:ts[i]? with
      | none =>
        have:ts.length≤i:=by simpa using hi
        rw[List.drop_of_length_le this,List.drop_of_length_le (by omega)];have e:tw T.zero=1:=rfl;simp only[Option.getD_none];rw[e];omega
      | some y =>
        obtain ⟨hl,rfl⟩:=List.getElem?_eq_some_iff.1 hi;rw[List.drop_eq_getElem_cons hl,tws];simp only[Option.getD_some];omega
    have hp:=Z7Q (atT ts i);have h1:=Z3G (M:=M) (fs:=fs) (ts:=ts) (i:=i+1) (fun g hg=>h g (by simp[hg])) hk (by omega);have h2:(Zc f ver flex (atT ts i)).length≤kGn f * tw (atT ts i):=h f (by simp) _ (ZR.at hk i) (by omega);have h4:kGn f * tw (atT ts i)≤kGn f * (1+tws (ts.drop i)):=Nat.mul_le_mul_left _ (by omega);have h5:kGs fs * (1+tws (ts.drop (i+1)))≤kGs fs * (1+tws (ts.drop i)):=Nat.mul_le_mul_left _ (by omega);rw[ZZ,List.map_cons,List.sum_cons,kGs,List.length_cons,Nat.add_mul,Nat.add_mul];omega
theorem Z8g:∀ {l:List Nat} {x:Nat},x ∈ l→x≤l.sum
  | y :: l, x, h => by
    rw[List.sum_cons]
    rcases List.mem_cons.1 h with rfl | h
    · omega
    have:=Z8g h;omega
theorem Z26 {fs:List Fd} {ver:Int} {flex:Bool} {t:T} (hf:Z7 fs≤1) (hk:ZR t) (hs:tw t≤1048576) (hK:kGs fs≤1048576) (h:∀ f ∈ fs,∀ y,ZR y→tw y≤1048576→(Zc f ver flex y).length≤kGn f * tw y):(Z07 fs ver flex t).length≤(kGs fs+20) * tw t:=by
  have h2:=tw_eq t;have h1:=Z3G (i:=0) h hk.l (by rw[List.drop_zero];omega);have hu:=Z6b (fs:=fs) hk.u;rw[List.drop_zero] at h1;have h4:kGs fs * (1+tws t.l)≤kGs fs * tw t:=Nat.mul_le_mul_left _ (by omega);have h6:kGs fs * tw t≤1048576 * 1048576:=Nat.mul_le_mul hK hs;have hb:=both_le (fs:=fs) (ver:=ver) (flex:=flex) (ts:=t.l) (i:=0) fun j f hj=>by
    have:(Zc f ver flex (atT t.l (0+j))).length≤((ZZ fs ver flex t.l 0).map List.length).sum:=by
      rw[← Z2k fs ver flex t.l 0 j f hj];rw[List.getD_eq_getElem?_getD]
      cases hx:(ZZ fs ver flex t.l 0)[j]? with
      | none=>simp
      | some x =>
        have hm:=List.mem_of_getElem? hx;simp only[Option.getD_some];exact Z8g (List.mem_map_of_mem hm)
    omega
  rw[Z44 hf,List.length_append];have ha:∀ a b:List (Nat × List UInt8),Zr (a++b)=Zr a++Zr b:=fun a b=>by simp[Zr]
  have h3:(if flex then uvW (knL fs ver flex t.l 0++ZD fs t).length++Zr (knL fs ver flex t.l 0++ZD fs t) else []).length≤10+(Zr (knL fs ver flex t.l 0)).length+10 * Z0l t.u:=by
    split
    · have e1 := knL_len (fs := fs) (ver := ver) (flex := flex) (ts := t.l) (i := 0);have e2 := Z8j fs;have e3 := hu.len;have := Z6C (n := (knL fs ver flex t.l 0 ++ ZD fs t).length) (by rw [List.length_append]; omega);have := Z6G (l := ZD fs t) fun p hp => ⟨hu.key p hp, hu.few p hp⟩;have := unksW_wt (fs := fs) (t := t);have e5 : (Zr (knL fs ver flex t.l 0 ++ ZD fs t)).length = (Zr (knL fs ver flex t.l 0)).length + (Zr (ZD fs t)).length := by rw [ha, List.length_append]
      rw[List.length_append,e5];omega
    simp
  rw[Nat.add_mul];omega
theorem tw_mem:∀ {l:List T} {y:T},y ∈ l→tw y≤tws l
  | z :: l, y, h => by
    rw[tws]
    rcases List.mem_cons.1 h with rfl | h
    · omega
    have:=tw_mem h;omega
theorem Z7u {kind nul of:Int} {sub:T→List UInt8} {ver:Int} {flex:Bool} {t:T} {S:Nat} (hk:ZR t) (hS:∀ y,ZR y→tw y≤tw t→(sub y).length≤S * tw y):(ZF kind nul of sub ver flex t).length≤(S+20) * tw t:=by
  have h1:=Z7Q t;have h2:=tw_eq t;unfold ZF
  split
  · rw [List.length_append];have h3 : (Z0s (Z0Y nul ver t) t).length ≤ 32767 := by unfold Z0s; split <;> simp; omega
    have h4:=Z3r (flex:=flex) (null:=Z0Y nul ver t) (size:=4) h3 (by omega);have h5:((Z0s (Z0Y nul ver t) t).flatMap (Zh of sub false flex)).length≤(S+19) * ((Z0s (Z0Y nul ver t) t).map tw).sum:=by
      refine Z8v fun y hy=>?_;have hm:y ∈ t.l:=by
        unfold Z0s at hy
        split at hy
        · simp at hy
        exact List.mem_of_mem_take hy
      exact Z6A (hS y (hk.l y hm) (by have:=tw_mem hm;omega))
    have h6:((Z0s (Z0Y nul ver t) t).map tw).sum≤tws t.l:=by
      unfold Z0s
      split
      · simp
      exact tws_take _ _
    have h7:=Nat.mul_le_mul_left (S+19) (show ((Z0s (Z0Y nul ver t) t).map tw).sum≤tw t - 1 by omega);have h8:(S+20) * tw t=(S+20) * (tw t - 1)+(S+20):=by
      conv=>lhs;rw[show tw t=(tw t - 1)+1 from by omega,Nat.mul_succ]
    have h9:(S+20) * (tw t - 1)=(S+19) * (tw t - 1)+(tw t - 1):=by rw[Nat.succ_mul (S+19)]
    omega
  split
  · have := hS t hk (Nat.le_refl _);rw [Nat.add_mul]
    split
    · simp;omega
    simp only[List.length_cons];omega
  have:=Z6A (kind:=kind) (null:=Z0Y nul ver t) (flex:=flex) (hS t hk (Nat.le_refl _));rw[Nat.add_mul] at this ⊢;omega
mutual
theorem Z7t:∀ (f:Fd),okB f=true→kGn f≤1048576→∀ (ver:Int) (flex:Bool) (t:T),ZR t→tw t≤1048576→(Zc f ver flex t).length≤kGn f * tw t
  | .mk kind fr to nul tag df of sub, h, hK, ver, flex, t, hk, ht => by
    rw[okB,Bool.and_eq_true,decide_eq_true_eq] at h;rw[kGn] at hK;rw[Z06,kGn];exact Z7u (S:=kGs sub+20) hk fun y hy hty=>Z26 h.1 hy (by omega) (show kGs sub≤1048576 by omega) (Z2L sub h.2 (by omega) ver flex)
theorem Z2L:∀ (fs:List Fd),okBl fs=true→kGs fs≤1048576→∀ (ver:Int) (flex:Bool),∀ f ∈ fs,∀ y,ZR y→tw y≤1048576→(Zc f ver flex y).length≤kGn f * tw y
  | [],_,_,_,_,f,hf=>by simp at hf
  | g :: fs, h, hK, ver, flex, f, hf => by
    rw[okBl,Bool.and_eq_true] at h;rw[kGs] at hK;intro y hy hty
    by_cases e:f=g
    · rw[e];exact Z7t g h.1 (by omega) ver flex y hy hty
    exact Z2L fs h.2 (by omega) ver flex f (by rcases List.mem_cons.1 hf with hf | hf;exact absurd hf e;exact hf) y hy hty
end
theorem Z7X {fs:List Fd} {t:T} (hf:(decide (Z7 fs≤1) && okBl fs)=true) (hk:ZR t) (hw:tw t≤1048576) (hK:kGs fs+20≤2048):ZR t∧∀ ver flex,(Z07 fs ver flex t).length≤2147483648:=by
  rw[Bool.and_eq_true,decide_eq_true_eq] at hf;refine ⟨hk,fun ver flex=>?_⟩;have h1:=Z26 (ver:=ver) (flex:=flex) hf.1 hk hw (by omega) (Z2L fs hf.2 (by omega) ver flex);have h2:=Nat.mul_le_mul hK hw;omega
end Go.Kq

namespace Go.Kq
open Go Go.Proofs
structure Leaf (P:Program) (f:FuncId) (ty:Ty) (g:V→List UInt8):Prop where
  one:ty.size=1
  call:∀ (e:AE) (cv:Value) (x:V),Rep e.w0 e.B ty [cv] x→Z0W P e f cv (g x)
theorem Leaf.int {P:Program} {f:FuncId} {kd:IntKind} {sz:Nat} (h:ApI P f kd sz):Leaf P f (.int kd) (Z0N sz) :=
  ⟨rfl,fun e cv x hr=>by obtain ⟨i,hi,rfl,h1,h2⟩:=hr;simp at hi;subst hi;exact Z0W.int h h1 h2⟩
theorem Leaf.bool {P:Program} {f:FuncId} (h:ApB P f):Leaf P f .bool Z36 :=
  ⟨rfl,fun e cv x hr=>by
    obtain ⟨b,hi,rfl⟩:=hr;simp at hi;subst hi
    have:=Z0W.bool (e:=e) (b:=b) h
    cases b <;> exact this⟩
theorem Leaf.str {P:Program} {f:FuncId} {g:V→List UInt8} (h:ApV P f .str g):Leaf P f .str g:=⟨rfl,fun _ _ _ hr=>Z0W.val h hr⟩
theorem Leaf.pstr {P:Program} {f:FuncId} {g:V→List UInt8} (h:ApV P f .pstr g):Leaf P f .pstr g:=⟨rfl,fun _ _ _ hr=>Z0W.val h hr⟩
theorem Z4w {x:V} (h:(Z3H x).length < 4294967296):(ZV x).length < 4294967296:=by
  have:=Z3W (ZV x);simp only[Z3H,List.length_append] at h;omega
section
variable {P:Program} {N n n2 n3 n4 m s L R id id1 id2 id3 id4 b0 b1 pb po fi o:Nat} {e:AE} {c:Ctx} {k k1 k2:Code} {ty:Ty} {g g1 g2:V→List UInt8} {S T:TypeId}
  {t0 t1 t2 t3 t4 t5 t6 t7 t8 t9:TypeId} {p0 p1 p2 p3 p4 p5 p6 p7 p8 p9:String} {e0 e1 e2 e3 e4 e5 e6 e7 e8 e9:Array Edge}
theorem Z0H (hs:(s,Value.pointer (some ⟨pb,po,none⟩)) ∈ c) (hF:Zp P S fi o=true) (hT:scal P T=true) (hB:e.B pb) (h1:ty.size=1)
    (hb:(c.free n [L,1] && decide (L < n) && decide (1 < n) && decide (n+3 < N) && decide (L ≠ 1))=true) (h:∀ cv x,Rep e.w0 e.B ty [cv] x→ApC P N e ((L,cv)::c) k (g x)) {x:V} (hx:FA e pb (po+o) ty x) :
    ApC P N e c (.seq (Code.region id ⟨[oM n s t0 p0 e0,⟨some (n+1),.nilCheck (.tmp n),t1,p1,e1,none⟩,oF (n+2) S (n+1) fi t2 p2 e2,oL (n+3) T (n+2) t3 p3 e3,
      oT L (n+3) t4 p4 e4]⟩ false) k) (g x):=by
  obtain ⟨cv,hc,hr⟩:=hx.one h1;exact ApC.load hs hF hT hc hB hb (h cv x hr)
theorem Z0p {cv:Value} {x:V} {f:FuncId} {ats:Array TypeId} (hf:Leaf P f ty g) (hr:Rep e.w0 e.B ty [cv] x) (hL:(L,cv) ∈ c) (hb:(c.free n [1] && decide (1 < n) && decide (n+2 < N))=true) :
    ApC P N e c (Code.region id ⟨[oM n 1 t0 p0 e0,oM (n+1) L t1 p1 e1,oC (n+2) f #[.tmp n,.tmp (n+1)] ats t2 p2 e2,oT 1 (n+2) t3 p3 e3]⟩ false) (g x) :=
  ApC.call hL (hf.call e cv x hr) hb
theorem ak_len {t:Ty} {cv:Value} {x:V} {f:FuncId} {ats:Array TypeId} {lg:Nat→List UInt8} (hf:ApL P f lg) (hr:Rep e.w0 e.B (.arr t) [cv] x) (hn:x.items.length < 4294967295) (hL:(L,cv) ∈ c) (hT:slTy P T=true) (hb:(c.free n [1] && decide (1 < n) && decide (n+3 < N))=true) :
    ApC P N e c (Code.region id ⟨[oM n 1 t0 p0 e0,oM (n+1) L t1 p1 e1,⟨some (n+2),.call ⟨.builtin .len,#[.tmp (n+1)],#[T]⟩,t2,p2,e2,none⟩,
      oC (n+3) f #[.tmp n,.tmp (n+2)] ats t3 p3 e3,oT 1 (n+3) t4 p4 e4]⟩ false) (lg x.items.length):=by
  obtain ⟨q,cap,rfl,_,_,_⟩:=Z5b hr;exact ApC.len hL hT (Z0W.len hf hn) hb
theorem Z8L {t:Ty} {cv:Value} {x:V} {TI TI' TI2 TI3:TypeId} {m' q':Nat} {body:Code} (hr:Rep e.w0 e.B (.arr t) [cv] x) (hL:(L,cv) ∈ c) (hT:slTy P T=true)
    (hb:(c.free n [1] && decide (1 < n) && decide (n+2 < N) && decide (n+3≤m') && decide (m' < N) && decide (n+3≤q') && decide (q' < N))=true)
    (h:∀ (i:Nat) (y:V) (b o ln cap:Nat),i < ln→(L,Value.slice (some ⟨b,o,none⟩) ln cap) ∈ c→e.B b→FA e b (o+i * t.size) t y→ApC P N e ((n+2,.int .i64 i)::(n+1,.int .i64 ln)::c) body (g y)) :
    ApC P N e c (.seq (Code.region id ⟨[oM n L t0 p0 e0,⟨some (n+1),.call ⟨.builtin .len,#[.tmp n],#[T]⟩,t1,p1,e1,none⟩,⟨some (n+2),.move (.const (.int .i64 0)),t2,p2,e2,none⟩]⟩ false) (.block b0 (.loop (.seq (Code.region id1 ⟨[⟨some m',.binOp .lss TI (.tmp (n+2)) (.tmp (n+1)) TI',t3,p3,e3,none⟩]⟩ false) (.seq (.cond (.tmp m') .skip (.exit b0)) (.seq (.block b1 body) (Code.region id2 ⟨[⟨some q',.binOp .add TI2 (.tmp (n+2)) (.const (.int .i64 1)) TI3,t4,p4,e4,none⟩,⟨some (n+2),.move (.tmp q'),t5,p5,e5,none⟩]⟩ false))))))) (x.items.map g).flatten:=by
  obtain ⟨q,cap,rfl,_,hl,hel⟩:=Z5b hr;refine ApC.loop hL hT hl hb fun i y hy=>?_;have hil:i < x.items.length:=(List.getElem?_eq_some_iff.1 hy).1;obtain ⟨qa,rfl⟩:∃ qa,q=some qa:=by
    cases q with
    | some qa=>exact ⟨qa,rfl⟩
    | none=>cases x <;> simp_all [V.isNil,V.items]
  obtain ⟨b,o,rfl,hB,hels⟩:=hel _ rfl;obtain ⟨es,h1,_,h2⟩:=hels i y hy;exact h i y b o _ cap hil hL hB ⟨es,h1,h2⟩
theorem Z72 {x:V} {t:Ty} {cv:Value} {lg:List UInt8} {ys:List UInt8} (hg:x.items.length≤ys.length) (h:x.items.length < 4294967295→ApC P N e c k (lg++ys)) (hl:1≤lg.length):ApC P N e c k (lg++ys):=by
  refine ApC.fits fun hf=>h ?_;rw[List.length_append] at hf;omega
theorem ApS.st {tys:List Ty} {gs:List (V→List UInt8)} (h:ApS P N e c k pb o tys gs) {x:V} (hx:FA e pb o (.st tys) x):ApC P N e c k (apSt gs x):=by
  obtain ⟨cs,h1,xs,rfl,h2⟩:=hx;exact h xs ⟨cs,h1,h2⟩
end
end Go.Kq

namespace Go.Kq
open Go
def Fat (ty:Ty) (g:V→List UInt8):Prop:=∀ (w:World) (A:Nat→Prop) (cs:List Value) (x:V),Rep w A ty cs x→1≤(g x).length
def FatL (tys:List Ty) (gs:List (V→List UInt8)):Prop:=∀ (w:World) (A:Nat→Prop) (cs:List Value) (xs:List V),Reps w A tys cs xs→1≤(Z3J gs xs).length
theorem Z55 {ty:Ty} {g:V→List UInt8} (h:∀ x,1≤(g x).length):Fat ty g:=fun _ _ _ x _=>h x
theorem Z60 (x:V):1≤(Z1t x).length:=by simp only[Z1t,List.length_append,fxL];omega
theorem Z4O (x:V):1≤(Z0q x).length:=by have:=Z1m (x.octs.length+1);simp only[Z0q,List.length_append];omega
theorem Z8H (n:Nat):1≤(Z3u n).length:=by simp only[Z3u,fxL];omega
theorem Z7A (n:Nat):1≤(Z2s n).length:=Z1m _
theorem Z6e {b:Bool} {l1 l2:List UInt8} (h1:1≤l1.length) (h2:1≤l2.length):1≤(if b then l1 else l2).length:=by cases b <;> simpa
theorem Z1L {l1 l2:List UInt8} (h1:1≤l1.length):1≤(l1++l2).length:=by rw[List.length_append];omega
theorem Z8z {ty:Ty} {b:Bool} {g1 g2:V→List UInt8} (h1:Fat ty g1) (h2:Fat ty g2):Fat ty (fun x=>if b then g1 x else g2 x):=by
  intro w A cs x h;exact Z6e (h1 w A cs x h) (h2 w A cs x h)
theorem Z8x {ty:Ty} {tys:List Ty} {g:V→List UInt8} {gs:List (V→List UInt8)} (h:Fat ty g):FatL (ty::tys) (g::gs):=by
  rintro w A cs xs ⟨c1,c2,x,r,rfl,rfl,h1,h2⟩;exact Z1L (h w A c1 x h1)
theorem fat_st {tys:List Ty} {gs:List (V→List UInt8)} (h:FatL tys gs):Fat (.st tys) (apSt gs):=by
  rintro w A cs x ⟨xs,rfl,h1⟩;exact h w A cs xs h1
theorem Z73 {w:World} {A:Nat→Prop} {t:Ty} {g:V→List UInt8} {cv:Value} {x:V} (hr:Rep w A (.arr t) [cv] x) (h:Fat t g):x.items.length≤(x.items.map g).flatten.length:=by
  have h1:=Z2K (os:=x.items.map g) (by
    intro o ho;obtain ⟨y,hy,rfl⟩:=List.mem_map.1 ho
    rcases hr with ⟨_,rfl⟩ | ⟨b,o,cap,xs,_,_,_,rfl,hel⟩
    · simp[V.items] at hy
    · obtain ⟨i,hi⟩:=List.getElem?_of_mem hy;obtain ⟨es,_,_,h2⟩:=hel i y hi;exact h w A es y h2)
  simpa using h1
end Go.Kq

namespace Go.Kq
open Go
section
variable {ver:Int} {fl:Bool} {y t:T} {fr to nul tag df of:Int} {sub:List Fd}
theorem Z18 {f:Fd} {fs:List Fd} {r g:Rd} {a:V→List UInt8} {gs:List (V→List UInt8)} {ts:List T} {i:Nat} {tl:List UInt8} (h1:Inv r ver fl a (if f.has ver then Zc f ver fl (atT ts i) else [])) (h2:InvL g ver fl gs (Z3s fs ver fl ts (i+1)++tl)) :
    InvL (ZM r g) ver fl (a::gs) (Z3s (f::fs) ver fl ts i++tl):=by
  rw[Z3s,List.append_assoc];exact Z5R h1 h2
theorem Z6S {g:Rd} {gs:List (V→List UInt8)} {ts:List T} {i:Nat} {tl:List UInt8} (h:InvL g ver fl gs tl):InvL g ver fl gs (Z3s [] ver fl ts i++tl):=h
theorem Z4D {fs:List Fd} (hk:ZR t):InvL (ZM Z1p Z4n) ver fl [fun x=>if fl then Z3H x else []] (if fl then uvW (ZD fs t).length++Zr (ZD fs t) else []):=by
  have h:=Z5R (Z8p (fl:=fl) (ver:=ver) fun _=>Z6b (fs:=fs) hk.u) invl_nil
  rwa [List.append_nil] at h
theorem inv_part {fs:List Fd} {g:Rd} {gs:List (V→List UInt8)} (hf:Z4G fs=true) (h:InvL g ver fl gs (Z3s fs ver fl t.l 0++(if fl then uvW (ZD fs t).length++Zr (ZD fs t) else []))):InvL g ver fl gs (Z07 fs ver fl t):=by
  rw[Z3h (Z3o hf)];exact h
theorem Z28 {f:Fd} {r:Rd} {a:V→List UInt8} (hh:f.has ver=true) (h:Inv r ver fl a (Zc f ver fl y)):Inv r ver fl a (if f.has ver then Zc f ver fl y else []):=by rw[if_pos hh];exact h
theorem Z2h {f:Fd} {r:Rd} {a:V→List UInt8} {p:Int→Bool} {dv:V} (hp:f.has ver=p ver) (h:Inv r ver fl a (Zc f ver fl y)):Inv (rdIf p dv r) ver fl (fun x=>if p ver then a x else []) (if f.has ver then Zc f ver fl y else []):=by
  rw[hp];exact inv_if fun _=>h
theorem Z1r {kind:Int} (hv:0≤ver) (h1:fr≤0) (h2:to < 0):Fd.has (.mk kind fr to nul tag df of sub) ver=true:=by
  show (decide (fr≤ver) && (decide (to < 0) || decide (ver≤to)))=true
  simp only[Bool.and_eq_true,Bool.or_eq_true,decide_eq_true_eq];omega
theorem Z4E {kind:Int} (h2:to < 0):Fd.has (.mk kind fr to nul tag df of sub) ver=decide (ver≥fr):=by
  show (decide (fr≤ver) && (decide (to < 0) || decide (ver≤to)))=_
  rw[Bool.eq_iff_iff];simp only[Bool.and_eq_true,Bool.or_eq_true,decide_eq_true_eq];omega
theorem Z5W (i:Int):fxW i 1=[UInt8.ofNat (i % 256).toNat]:=by simp[fxW]
theorem inv_i8 {i:Int}:Inv (ZT fun _ _=>gI8) ver fl (Z0N 1) (fxW i 1):=by
  intro rest nl _;refine ⟨.n (IntKind.i8.wrap (((UInt8.ofNat (i % 256).toNat).toNat:Nat):Int)),?_,?_⟩
  · simp[ZT,gI8,Z5W]
  simp only[Z0N,Z5W,Z4v]
  congr 2
  simp[IntKind.wrap,IntKind.signed,IntKind.bits];split <;> omega
def Z5Z (x:V):List UInt8:=x.octs
theorem Z5p (s:List UInt8):(Z3U s).length=16:=by simp only[Z3U,List.length_append,List.length_take,List.length_replicate];omega
theorem inv_uuid {s:List UInt8} (h:s.length=16):Inv (ZT fun _ _=>Z4a) ver fl Z5Z s:=by
  intro rest nl hn;have hnl:=Z10 hn (by intro e;rw[e] at h;simp at h);subst hnl;obtain ⟨y,h1,_,h3⟩:=Z0w (o:=s) (rest:=rest) (l:=16) (nl:=false) (by rw[h];rfl) (by simp);refine ⟨.s s,?_,rfl⟩;simp only[ZT,Z4a,h1,h3 rfl,Option.getD_some]
theorem invf_i8:Inv (ZT fun _ _=>gI8) ver fl (Z0N 1) (Zc (.mk 1 fr to nul tag df of sub) ver fl y):=by rw[Z06,show Fd.kind (.mk 1 fr to nul tag df of sub)=1 from rfl,Z8w];exact inv_i8
theorem Z53:Inv (ZT fun _ _=>gNum .i16 2) ver fl (Z0N 2) (Zc (.mk 2 fr to nul tag df of sub) ver fl y):=by rw[Z06,show Fd.kind (.mk 2 fr to nul tag df of sub)=2 from rfl,Z3q];exact inv_i16
theorem Z6R:Inv (ZT fun _ _=>gNum .i32 4) ver fl (Z0N 4) (Zc (.mk 3 fr to nul tag df of sub) ver fl y):=by rw[Z06,show Fd.kind (.mk 3 fr to nul tag df of sub)=3 from rfl,Z7v];exact inv_i32
theorem Z5T:Inv (ZT fun _ _=>Z3I) ver fl Z36 (Zc (.mk 0 fr to nul tag df of sub) ver fl y):=by rw[Z06,show Fd.kind (.mk 0 fr to nul tag df of sub)=0 from rfl,Z6r];exact inv_bool (by omega)
theorem Z8n:Inv (ZT fun _ _=>Z4a) ver fl Z5Z (Zc (.mk 7 fr to nul tag df of sub) ver fl y):=by
  rw[Z06,show Fd.kind (.mk 7 fr to nul tag df of sub)=7 from rfl,show ZF 7 _ _ _ ver fl y=Z3U y.s from by simp[ZF,Zh]];exact inv_uuid (Z5p _)
theorem Z6Q (hn:nul < 0):Inv (ZT fun _ fl st=>if fl then Z4c st else gStr st) ver fl (fun x=>if fl then Z0q x else Z1t x) (Zc (.mk 8 fr to nul tag df of sub) ver fl y):=by
  rw[Z06,show Fd.kind (.mk 8 fr to nul tag df of sub)=8 from rfl,Z4M (Z6K (show Fd.nul (.mk 8 fr to nul tag df of sub) < 0 from hn))];exact Z6o (fun _=>inv_cstr (Z2b _)) (fun _=>inv_str (Z2b _))
theorem Z5S:Inv (ZT fun _ fl st=>if fl then Z1B st else Z3m st) ver fl (fun x=>if fl then Z0U x else Z1Q x) (Zc (.mk 8 fr to nul tag df of sub) ver fl y):=by
  rw[Z06,show Fd.kind (.mk 8 fr to nul tag df of sub)=8 from rfl]
  cases h:Z0Y (Fd.nul (.mk 8 fr to nul tag df of sub)) ver y with
  | true=>rw[Z6q h];exact Z6o (fun _=>Z7o) (fun _=>Z8t)
  | false=>rw[Z4M h];exact Z6o (fun _=>Z8u (Z2b _)) (fun _=>inv_nstr (Z2b _))
theorem invf_arr {ge:Rd} {ga:V→List UInt8} (hn:nul < 0) (he:∀ z ∈ y.l,Inv ge ver fl ga (Zh of (Z07 sub ver fl) false fl z)) (h1:∀ z,1≤(Zh of (Z07 sub ver fl) false fl z).length) :
    Inv (Z4W (fun _ fl st=>if fl then Z0V st else Z3n st) ge) ver fl (fun x=>(if fl then Z2s x.items.length else Z3u x.items.length)++(x.items.map ga).flatten) (Zc (.mk 11 fr to nul tag df of sub) ver fl y):=by
  have e:Zc (.mk 11 fr to nul tag df of sub) ver fl y=(if fl then uvW ((y.l.take 32767).length+1) else fxW (y.l.take 32767).length 4)++((y.l.take 32767).map (Zh of (Z07 sub ver fl) false fl)).flatten:=by
    rw[Z06];have h0:Z0Y nul ver y=false:=Z6K hn;show ZF 11 nul of (Z07 sub ver fl) ver fl y=_
    simp only[ZF,if_true,h0,Z0s,List.flatMap]
    cases fl <;> simp[Zi]
  rw[e];have hl:(y.l.take 32767).length≤32767:=by simp;omega
  refine inv_arr (la:=fun n=>if fl then Z2s n else Z3u n) ?_ ?_ ?_ ?_
  · rw [List.length_map]
    cases fl
    · exact Z5N hl
    exact len_uv hl
  · rw[List.length_map];cases fl <;> rfl
  · intro o ho;obtain ⟨z,hz,rfl⟩:=List.mem_map.1 ho;exact he z (List.mem_of_mem_take hz)
  intro o ho;obtain ⟨z,hz,rfl⟩:=List.mem_map.1 ho;exact h1 z
theorem inv_el {ge:Rd} {gs:List (V→List UInt8)} {s:T→List UInt8} (h:InvL ge ver fl gs (s y)):Inv ge ver fl (apSt gs) (Zh 10 s false fl y):=by
  have e:Zh 10 s false fl y=s y:=by simp[Zh]
  rw[e];exact inv_st h
theorem Z2M {null:Bool} {n size:Nat} (h:0 < size):1≤(Zi fl null n size).length:=by
  unfold Zi
  split
  · simp
  split
  · exact Z1m _
  split <;> simp only[fxL] <;> omega
theorem Z7c (k:Int):0 < Zg k:=by unfold Zg;repeat' split <;> try omega
theorem Z7L {kind:Int} {s:T→List UInt8} {null:Bool} (h:kind ≠ 10):1≤(Zh kind s null fl y).length:=by
  unfold Zh
  split
  · simp
  split
  · rw[Z5p];omega
  split
  · exact Z1L (Z2M (by omega))
  split
  · exact Z1L (Z2M (by omega))
  rw[fxL];exact Z7c kind
theorem Z3S {s:T→List UInt8} {null:Bool} (h:1≤(s y).length):1≤(Zh 10 s null fl y).length:=by
  have e:Zh 10 s null fl y=s y:=by simp[Zh]
  rw[e];exact h
theorem Z4L {kind:Int} (h:kind ≠ 10):1≤(Zc (.mk kind fr to nul tag df of sub) ver fl y).length:=by
  rw[Z06];show 1≤(ZF kind nul of (Z07 sub ver fl) ver fl y).length
  unfold ZF
  split
  · exact Z1L (Z2M (by omega))
  rw[if_neg (by intro e;exact h e.1)];exact Z7L h
theorem Z8C {f:Fd} {fs:List Fd} {ts:List T} {i:Nat} (hh:f.has ver=true) (h:1≤(Zc f ver fl (atT ts i)).length):1≤(Z3s (f::fs) ver fl ts i).length:=by
  rw[Z3s,if_pos hh];exact Z1L h
theorem part_pos {fs:List Fd} (hf:Z4G fs=true) (h:1≤(Z3s fs ver fl t.l 0).length):1≤(Z07 fs ver fl t).length:=by
  rw[Z3h (Z3o hf)];exact Z1L h
end
end Go.Kq

namespace Go.Kq
open Go Go.Proofs
def Z4p (b:Bool) (n:Nat):List UInt8:=if b then fxW (-1) 4 else fxW n 4
def Z3F (b:Bool) (n:Nat):List UInt8:=if b then uvW 0 else uvW (n+1)
theorem Z4b (b:Bool) (n:Nat):(Z4p b n).length=4:=by unfold Z4p;split <;> exact fxL _ _
theorem Z7r (b:Bool) (n:Nat):1≤(Z3F b n).length:=by unfold Z3F;split <;> exact Z1m _
def Z2r (x:V):List UInt8:=Z4p x.isNil x.items.length
def Z1M (x:V):List UInt8:=Z3F x.isNil x.items.length
theorem Z7z (x:V):1≤(Z2r x).length:=by have:=Z4b x.isNil x.items.length;unfold Z2r;omega
theorem Z6t (x:V):1≤(Z1M x).length:=Z7r _ _
structure ApLN (P:Program) (f:FuncId) (g:Bool→Nat→List UInt8):Prop where
  enters:Enters P f
  call:∀ (w:World) (A:Nat→Prop) (dst:Value) (xs:List UInt8) (n:Nat) (b:Bool),Own w A 1 dst xs.length (Z0 xs)→n < 4294967295→(xs++g b n).length≤4294967296→Calls P f #[dst,.int .i64 n,.bool b] w (Apd w A dst (xs++g b n))
section
variable {P:Program} {N:Nat} {e:AE} {c:Ctx} {id n L s:Nat} {t0 t1 t2 t3 t4 t5 t6:TypeId} {p0 p1 p2 p3 p4 p5 p6:String} {e0 e1 e2 e3 e4 e5 e6:Array Edge}
theorem Z8M {t:Ty} {cv:Value} {x:V} {f:FuncId} {ats:Array TypeId} {T U1 U2:TypeId} {lg:Bool→Nat→List UInt8} (hf:ApLN P f lg) (hr:Rep e.w0 e.B (.arr t) [cv] x) (hn:x.items.length < 4294967295) (hL:(L,cv) ∈ c) (hT:slTy P T=true) (hU:slTy P U1=true)
    (hb:(c.free n [1] && decide (1 < n) && decide (n+5 < N))=true) :
    ApC P N e c (Code.region id ⟨[oM n 1 t0 p0 e0,oM (n+1) L t1 p1 e1,⟨some (n+2),.call ⟨.builtin .len,#[.tmp (n+1)],#[T]⟩,t2,p2,e2,none⟩,
      oM (n+3) L t3 p3 e3,⟨some (n+4),.binOp .eql U1 (.tmp (n+3)) (.const (.slice none 0 0)) U2,t4,p4,e4,none⟩,
      oC (n+5) f #[.tmp n,.tmp (n+2),.tmp (n+4)] ats t5 p5 e5,oT 1 (n+5) t6 p6 e6]⟩ false) (lg x.isNil x.items.length):=by
  obtain ⟨q,cap,rfl,hnil,_,_⟩:=Z5b hr;intro K Q a w v xs hN hd hc hv hst hbd hK;simp only[Bool.and_eq_true,decide_eq_true_eq] at hb;obtain ⟨⟨b1,b2⟩,b3⟩:=hb;have hLn:=(Ctx.lt b1 hL).1;simp only at hLn;refine Z2 ?_;refine wC (wMv (v:=v) (by rw[eTm];exact hv) ?_);refine wC (wMv (v:=.slice q x.items.length cap) (by rw[eTm,gR];exact hc _ hL) ?_);refine wC (Zs hT (q:=q) (n:=x.items.length) (cap:=cap) (by rw[eTm,gQ]) ?_);refine wC (wMv (v:=.slice q x.items.length cap) (by rw[eTm,gR,gR,gR];exact hc _ hL) ?_);refine wC (wp_eqNil hU (q:=q) (l:=x.items.length) (c:=cap) (by rw[eTm,gQ]) ?_);rw[show q.isNone=x.isNil from hnil,wCo];refine wCr (vs:=#[v,.int .i64 x.items.length,.bool x.isNil]) hf.enters (by simp only[List.map_toArray,List.map_cons,List.map_nil,eTm];rw[gR,gR,gR,gR,gQ,gR,gR,gQ,gQ]) (Apd.ret (hf.call w _ v xs _ _ hst.own hn (by omega))) ?_;intro v' w' hr;refine wC (wAs (v:=v') (by rw[eTm,gQ]) ?_);rw[wNi];exact ApC.done (c:=c) (by simp only[sPu];exact hN) (by simp only[dPu];exact hd) (Ctx.on_put (Ctx.on_put (Ctx.on_put (Ctx.on_put (Ctx.on_put (Ctx.on_put (Ctx.on_put hc b1 (.inl (by omega))) b1 (.inl (by omega))) b1 (.inl (by omega))) b1 (.inl (by omega))) b1 (.inl (by omega))) b1 (.inl (by omega))) b1 (.inr (by simp))) (gQ) hst hK hr
end
section
variable {ver:Int} {fl:Bool} {y:T} {fr to nul tag df of:Int} {sub:List Fd}
theorem rd_null (fl:Bool) (rest:List UInt8) (nl:Bool):(if fl then Z0V else Z3n) ⟨(if fl then [0] else fxW (-1) 4)++rest,nl,false⟩=(.n (-1),⟨rest,nl,false⟩):=by
  cases fl
  · have : IntKind.i32.wrap ((Lib.beNat (fxW (-1) 4) : Nat) : Int) = -1 := by rw [Z59]; rfl
    have h0:¬ ((rest.length:Int) < -1):=by omega
    simp[Z3n,Z0j,Z25,this,h0]
  have e:IntKind.i32.wrap (IntKind.i32.wrap ((0:Nat):Int) - 1) = -1:=by decide
  have h0:¬ ((rest.length:Int) < -1):=by omega
  rw[show (if true=true then [0] else fxW (-1) 4:List UInt8)=uvW 0 from by rw[Z3K];rfl];simp only[if_true,Z0V,Z16,Z0k (show 0 < 4294967296 by omega),e,h0,if_false]
theorem inv_arrN {ge:Rd} {ver:Int} {fl:Bool} {a:V→List UInt8} {vn:Int} {lo:List UInt8} {os:List (List UInt8)} (hv:0≤ver) (hvn:vn≤0)
    (hlo:lo=if fl then uvW (os.length+1) else fxW os.length 4) (hl:LenI (if fl then Z0V else Z3n) lo os.length) (ho:∀ o ∈ os,Inv ge ver fl a o) (h1:∀ o ∈ os,1≤o.length) :
    Inv (Z1e vn (fun _ fl st=>if fl then Z0V st else Z3n st) ge) ver fl (fun x=>(if fl then Z1M x else Z2r x)++(x.items.map a).flatten) (lo++os.flatten):=by
  intro rest nl hn;have hnl:=Z10 hn (by simp[hl.1]);subst hnl;have h2:=hl.2 (os.flatten++rest) (by rw[List.length_append];have:=Z2K h1;omega);have h2':(if fl then Z0V ⟨lo++(os.flatten++rest),false,false⟩ else Z3n ⟨lo++(os.flatten++rest),false,false⟩)=(.n os.length,⟨os.flatten++rest,false,false⟩):=by
    rw[← h2];cases fl <;> rfl
  obtain ⟨xs,h3,h4,h5⟩:=Z3d os rest ho;simp only[Z1e,List.append_assoc,h2']
  by_cases h0:os.length=0
  · have:os=[]:=List.eq_nil_of_length_eq_zero h0;subst this;refine ⟨.l [],by simp,?_⟩;rw[hlo];cases fl <;> simp[V.items,V.isNil,Z1M,Z2r,Z3F,Z4p]
  refine ⟨.l xs,?_,?_⟩
  · have h6 : (0 : Int) < os.length := by omega
    have h7:os ≠ []:=by rintro rfl;exact h0 rfl
    simp[h7,h3]
  rw[hlo];cases fl <;> simp[V.items,V.isNil,Z1M,Z2r,Z3F,Z4p,h4,h5]
theorem Z8o {ge:Rd} {ga:V→List UInt8} {vn:Int} (hv:0≤ver) (hvn:vn≤0) (he:∀ z ∈ y.l,Inv ge ver fl ga (Zh of (Z07 sub ver fl) false fl z)) (h1:∀ z,1≤(Zh of (Z07 sub ver fl) false fl z).length) :
    Inv (Z1e vn (fun _ fl st=>if fl then Z0V st else Z3n st) ge) ver fl (fun x=>(if fl then Z1M x else Z2r x)++(x.items.map ga).flatten) (Zc (.mk 11 fr to nul tag df of sub) ver fl y):=by
  rw[Z06]
  cases h0:Z0Y nul ver y with
  | true =>
    have e:ZF (Fd.mk 11 fr to nul tag df of sub).kind (Fd.mk 11 fr to nul tag df of sub).nul (Fd.mk 11 fr to nul tag df of sub).of (Z07 (Fd.mk 11 fr to nul tag df of sub).sub ver fl) ver fl y=if fl then [0] else fxW (-1) 4:=by
      show ZF 11 nul of (Z07 sub ver fl) ver fl y=_
      simp only[ZF,if_true,h0,Z0s]
      cases fl <;> simp[Zi]
    rw[e];intro rest nl hn;have hr:=rd_null fl rest nl;have hr':(if fl then Z0V ⟨(if fl then [0] else fxW (-1) 4)++rest,nl,false⟩ else Z3n ⟨(if fl then [0] else fxW (-1) 4)++rest,nl,false⟩)=(.n (-1),⟨rest,nl,false⟩):=by rw[← hr];cases fl <;> rfl
    refine ⟨.nil,?_,?_⟩
    · simp only[Z1e,hr'];have hq:decide (ver < vn)=false:=decide_eq_false (by omega);simp[hq]
    cases fl <;> simp[V.items,V.isNil,Z1M,Z2r,Z3F,Z4p,Z3K]
  | false =>
    have e:ZF (Fd.mk 11 fr to nul tag df of sub).kind (Fd.mk 11 fr to nul tag df of sub).nul (Fd.mk 11 fr to nul tag df of sub).of (Z07 (Fd.mk 11 fr to nul tag df of sub).sub ver fl) ver fl y=(if fl then uvW ((y.l.take 32767).length+1) else fxW (y.l.take 32767).length 4)++((y.l.take 32767).map (Zh of (Z07 sub ver fl) false fl)).flatten:=by
      show ZF 11 nul of (Z07 sub ver fl) ver fl y=_
      simp only[ZF,if_true,h0,Z0s,List.flatMap]
      cases fl <;> simp[Zi]
    rw[e];have hl:(y.l.take 32767).length≤32767:=by simp;omega
    refine inv_arrN hv hvn (by rw[List.length_map]) ?_ ?_ ?_
    · rw [List.length_map]
      cases fl
      · exact Z5N hl
      exact len_uv hl
    · intro o ho;obtain ⟨z,hz,rfl⟩:=List.mem_map.1 ho;exact he z (List.mem_of_mem_take hz)
    intro o ho;obtain ⟨z,hz,rfl⟩:=List.mem_map.1 ho;exact h1 z
end
theorem ap_nlen {P:Program} {f:FuncId} {fn:Func} {T3 T21:TypeId} {f85:FuncId} {ct0:Array TypeId} {ct1:Array TypeId} {i0 i1 i2 i3:Nat} {t0 t1 t2 t3 t4 t5 t6 t7 t8 t9:TypeId} {p0 p1 p2 p3 p4 p5 p6 p7 p8 p9:String} {e0 e1 e2 e3 e4 e5 e6 e7 e8 e9:Array Edge} {te:TypeId}
    (hf:P.funcs[f]?=some fn) (hname:nG fn=false) (hres:fn.results = #[.tmp 6]) (hN:fn.ntmps=14)
    (hbody:fn.body=some (.seq (Code.region i0 ⟨[oA 6 (.const (.slice none 0 0)) t0 p0 e0]⟩ false) (.seq (.seq (Code.region i1 ⟨[oM 7 2 t1 p1 e1]⟩ false) (.cond (.tmp 7) (.seq (Code.region i2 ⟨[oM 8 0 t2 p2 e2,
    oC 9 f85 #[(.tmp 8),(.const (.int .i32 (-1)))] ct0 t3 p3 e3,
    oT 6 9 t4 p4 e4]⟩ false) .ret) .skip)) (.seq (Code.region i3 ⟨[oM 10 0 t5 p5 e5,
    oM 11 1 t6 p6 e6,⟨some 12,.convert T3 T21 (.tmp 11),t7,p7,e7,none⟩,
    oC 13 f85 #[(.tmp 10),(.tmp 12)] ct1 t8 p8 e8,
    oT 6 13 t9 p9 e9]⟩ false) .ret))))
    (hT3_i64:Zk P T3 .i64=true) (hT21_i32:Zk P T21 .i32=true) (hC:ApI P f85 .i32 4):ApLN P f Z4p:=by
  refine ⟨enters_of hf hname hbody,?_⟩;intro w A dst xs n b own hn hb;refine calls_of_wp hf hbody ?_;generalize ha0:({ tmps:=#[dst,Value.int .i64 ((n:Nat):Int),Value.bool b]++Array.replicate (fn.ntmps - (#[dst,Value.int .i64 ((n:Nat):Int),Value.bool b]:Array Value).size) undef,defers:=[] }:Act)=a0;have hz0:a0.tmps.size=14:=by subst ha0;simp[hN]
  have hd0:a0.defers=[]:=by subst ha0;rfl
  have g0_0:get a0 0=dst:=by subst ha0;exact gAr rfl
  have g0_1:get a0 1 = .int .i64 ((n:Nat):Int):=by subst ha0;exact gAr rfl
  have g0_2:get a0 2 = .bool b:=by subst ha0;exact gAr rfl
  have hi0:∀ r ∈ Z1 dst 1,r.In (Z1 dst 1) w:=fun r h=>Rng.in_self h;have ho0:Own w (fun b=>A b∨(w.heap.size≤b∧b < w.heap.size)) 1 dst xs.length (Z0 xs):=own.imp_A fun _ h=>.inl h;refine wT fun K1 hK1=>?_;refine wC (wAs (v:=.slice none 0 0) rfl ?_);refine wEk hz0 hd0 fun a2 ha2 hz2 hd2=>?_;have g2_0:=kP ha2 g0_0;have g2_1:=kP ha2 g0_1;have g2_2:=kP ha2 g0_2;refine hK1 a2 w (tUp ?_);refine tId (wp_seq_k fun K3 hK3=>?_);refine wS fun K4 hK4=>?_;refine wC (wMv (v:=.bool b) (eK g2_2) ?_);refine wEk hz2 hd2 fun a5 ha5 hz5 hd5=>?_;have g5_0:=kP ha5 g2_0;have g5_1:=kP ha5 g2_1;have g5_7:get a5 7 = .bool b:=kG ha5 hz2;refine hK4 a5 w ?_;refine wp_cond_split (t:=b) (eK g5_7) (fun hc6=>?_) (fun hc6=>?_)
  · have hbb:b=true:=hc6;refine wS fun K7 hK7=>?_;refine wC (wMv (v:=dst) (eK g5_0) ?_);refine wC (wCr (R:=fun vz wz=>Fr (Z1 dst 1) w wz∧Own wz (fun b=>(fun b=>A b∨(w.heap.size≤b∧b < w.heap.size)) b∨(w.heap.size≤b∧b < wz.heap.size)) 1 vz (xs++(fxW (-1) 4)).length (Z0 (xs++(fxW (-1) 4)))∧∀ r ∈ Z1 vz 1,r.In (Z1 dst 1) w) (vs:=#[dst,.int .i32 (-1)]) hC.enters (by simp only[List.map_toArray,List.map_cons,List.map_nil];rw[eTm,sZ hz5 (by decide),show (a5.put (some 8) dst).eval (.const (.int .i32 (-1)))=Value.int .i32 (-1) from rfl]) (Apd.ret (hC.call w (fun b=>A b∨(w.heap.size≤b∧b < w.heap.size)) _ _ (-1) ho0 (by decide) (by decide) (by have:(Z4p b n).length=4:=Z4b b n;rw[List.length_append] at hb;omega))) ?_);rintro v8 w8 ⟨f8,ho8,hi8⟩;have h9:Fr (Z1 dst 1) w w8:=(Fr.refl (Z1 dst 1) w).trans f8 hi0;have o9:Own w8 (fun b=>A b∨(w.heap.size≤b∧b < w8.heap.size)) 1 v8 (xs++(fxW (-1) 4)).length (Z0 (xs++(fxW (-1) 4))):=ho8.imp_A (Z0a (Fr.refl (Z1 dst 1) w).size f8.size);have i9:∀ r ∈ Z1 v8 1,r.In (Z1 dst 1) w:=fun r hr=>Rng.in_trans (hi8 r hr) hi0 (Fr.refl (Z1 dst 1) w).size;refine wC (wAs (v:=v8) (eS hz5) ?_);refine wEk hz5 hd5 fun a10 ha10 hz10 hd10=>?_;have g10_6:get a10 6=v8:=kG ha10 hz5;refine hK7 a10 w8 ?_;refine wp_ret ?_;refine ⟨hd10,_,rIs hres g10_6,_,rfl,h9,?_,i9⟩;have ho:=o9;subst hbb;exact ho
  have hbb:b=false:=hc6;refine wp_skip ?_;refine hK3 a5 w (tUp ?_);refine wT fun K11 hK11=>?_;refine wC (wMv (v:=dst) (eK g5_0) ?_);refine wC (wMv (v:=.int .i64 ((n:Nat):Int)) (eK g5_1) ?_);refine wC (wCv (k1:=.i64) (i:=((n:Nat):Int)) hT3_i64 hT21_i32 (eS hz5) ?_);refine wC (wCr (R:=fun vz wz=>Fr (Z1 dst 1) w wz∧Own wz (fun b=>(fun b=>A b∨(w.heap.size≤b∧b < w.heap.size)) b∨(w.heap.size≤b∧b < wz.heap.size)) 1 vz (xs++(fxW (IntKind.i32.wrap ((n:Nat):Int)) 4)).length (Z0 (xs++(fxW (IntKind.i32.wrap ((n:Nat):Int)) 4)))∧∀ r ∈ Z1 vz 1,r.In (Z1 dst 1) w) (vs:=#[dst,.int .i32 (IntKind.i32.wrap (((n:Nat):Int):Int))]) hC.enters (mX2 (eS hz5) (eS hz5)) (Apd.ret (hC.call w (fun b=>A b∨(w.heap.size≤b∧b < w.heap.size)) _ _ _ ho0 (w32 _).1 (w32 _).2 (by have:(Z4p b n).length=4:=Z4b b n;rw[List.length_append] at hb;omega))) ?_);rintro v12 w12 ⟨f12,ho12,hi12⟩;have h13:Fr (Z1 dst 1) w w12:=(Fr.refl (Z1 dst 1) w).trans f12 hi0;have o13:Own w12 (fun b=>A b∨(w.heap.size≤b∧b < w12.heap.size)) 1 v12 (xs++(fxW (IntKind.i32.wrap ((n:Nat):Int)) 4)).length (Z0 (xs++(fxW (IntKind.i32.wrap ((n:Nat):Int)) 4))):=ho12.imp_A (Z0a (Fr.refl (Z1 dst 1) w).size f12.size);have i13:∀ r ∈ Z1 v12 1,r.In (Z1 dst 1) w:=fun r hr=>Rng.in_trans (hi12 r hr) hi0 (Fr.refl (Z1 dst 1) w).size;refine wC (wAs (v:=v12) (eS hz5) ?_);refine wEk hz5 hd5 fun a14 ha14 hz14 hd14=>?_;have g14_6:get a14 6=v12:=kG ha14 hz5;refine hK11 a14 w12 (tUp ?_);refine wp_ret ?_;refine ⟨hd14,_,rIs hres g14_6,_,rfl,h13,?_,i13⟩;have ho:=o13;rw[Z3p] at ho;subst hbb;exact ho
theorem ap_cnlen {P:Program} {f:FuncId} {fn:Func} {T3 T65:TypeId} {f130:FuncId} {ct0:Array TypeId} {ct1:Array TypeId} {i0 i1 i2 i3:Nat} {t0 t1 t2 t3 t4 t5 t6 t7 t8 t9 t10:TypeId} {p0 p1 p2 p3 p4 p5 p6 p7 p8 p9 p10:String} {e0 e1 e2 e3 e4 e5 e6 e7 e8 e9 e10:Array Edge} {te:TypeId}
    (hf:P.funcs[f]?=some fn) (hname:nG fn=false) (hres:fn.results = #[.tmp 6]) (hN:fn.ntmps=15)
    (hbody:fn.body=some (.seq (Code.region i0 ⟨[oA 6 (.const (.slice none 0 0)) t0 p0 e0]⟩ false) (.seq (.seq (Code.region i1 ⟨[oM 7 2 t1 p1 e1]⟩ false) (.cond (.tmp 7) (.seq (Code.region i2 ⟨[oM 8 0 t2 p2 e2,
    oC 9 f130 #[(.tmp 8),(.const (.int .u32 0))] ct0 t3 p3 e3,
    oT 6 9 t4 p4 e4]⟩ false) .ret) .skip)) (.seq (Code.region i3 ⟨[oM 10 0 t5 p5 e5,
    oM 11 1 t6 p6 e6,⟨some 12,.convert T3 T65 (.tmp 11),t7,p7,e7,none⟩,⟨some 13,.binOp .add T65 (.const (.int .u32 1)) (.tmp 12) T65,t8,p8,e8,none⟩,
    oC 14 f130 #[(.tmp 10),(.tmp 13)] ct1 t9 p9 e9,
    oT 6 14 t10 p10 e10]⟩ false) .ret))))
    (hT3_i64:Zk P T3 .i64=true) (hT65_u32:Zk P T65 .u32=true) (hC:ApU P f130):ApLN P f Z3F:=by
  refine ⟨enters_of hf hname hbody,?_⟩;intro w A dst xs n b own hn hb;refine calls_of_wp hf hbody ?_;generalize ha0:({ tmps:=#[dst,Value.int .i64 ((n:Nat):Int),Value.bool b]++Array.replicate (fn.ntmps - (#[dst,Value.int .i64 ((n:Nat):Int),Value.bool b]:Array Value).size) undef,defers:=[] }:Act)=a0;have hz0:a0.tmps.size=15:=by subst ha0;simp[hN]
  have hd0:a0.defers=[]:=by subst ha0;rfl
  have g0_0:get a0 0=dst:=by subst ha0;exact gAr rfl
  have g0_1:get a0 1 = .int .i64 ((n:Nat):Int):=by subst ha0;exact gAr rfl
  have g0_2:get a0 2 = .bool b:=by subst ha0;exact gAr rfl
  have hi0:∀ r ∈ Z1 dst 1,r.In (Z1 dst 1) w:=fun r h=>Rng.in_self h;have ho0:Own w (fun b=>A b∨(w.heap.size≤b∧b < w.heap.size)) 1 dst xs.length (Z0 xs):=own.imp_A fun _ h=>.inl h;refine wT fun K1 hK1=>?_;refine wC (wAs (v:=.slice none 0 0) rfl ?_);refine wEk hz0 hd0 fun a2 ha2 hz2 hd2=>?_;have g2_0:=kP ha2 g0_0;have g2_1:=kP ha2 g0_1;have g2_2:=kP ha2 g0_2;refine hK1 a2 w (tUp ?_);refine tId (wp_seq_k fun K3 hK3=>?_);refine wS fun K4 hK4=>?_;refine wC (wMv (v:=.bool b) (eK g2_2) ?_);refine wEk hz2 hd2 fun a5 ha5 hz5 hd5=>?_;have g5_0:=kP ha5 g2_0;have g5_1:=kP ha5 g2_1;have g5_7:get a5 7 = .bool b:=kG ha5 hz2;refine hK4 a5 w ?_;refine wp_cond_split (t:=b) (eK g5_7) (fun hc6=>?_) (fun hc6=>?_)
  · have hbb:b=true:=hc6;refine wS fun K7 hK7=>?_;refine wC (wMv (v:=dst) (eK g5_0) ?_);refine wC (wCr (R:=fun vz wz=>Fr (Z1 dst 1) w wz∧Own wz (fun b=>(fun b=>A b∨(w.heap.size≤b∧b < w.heap.size)) b∨(w.heap.size≤b∧b < wz.heap.size)) 1 vz (xs++(uvW 0)).length (Z0 (xs++(uvW 0)))∧∀ r ∈ Z1 vz 1,r.In (Z1 dst 1) w) (vs:=#[dst,.int .u32 0]) hC.enters (by simp only[List.map_toArray,List.map_cons,List.map_nil];rw[eTm,sZ hz5 (by decide),show (a5.put (some 8) dst).eval (.const (.int .u32 0))=Value.int .u32 0 from rfl]) (Apd.ret (hC.call w (fun b=>A b∨(w.heap.size≤b∧b < w.heap.size)) _ _ 0 ho0 (by decide) (by subst hbb;exact hb))) ?_);rintro v8 w8 ⟨f8,ho8,hi8⟩;have h9:Fr (Z1 dst 1) w w8:=(Fr.refl (Z1 dst 1) w).trans f8 hi0;have o9:Own w8 (fun b=>A b∨(w.heap.size≤b∧b < w8.heap.size)) 1 v8 (xs++(uvW 0)).length (Z0 (xs++(uvW 0))):=ho8.imp_A (Z0a (Fr.refl (Z1 dst 1) w).size f8.size);have i9:∀ r ∈ Z1 v8 1,r.In (Z1 dst 1) w:=fun r hr=>Rng.in_trans (hi8 r hr) hi0 (Fr.refl (Z1 dst 1) w).size;refine wC (wAs (v:=v8) (eS hz5) ?_);refine wEk hz5 hd5 fun a10 ha10 hz10 hd10=>?_;have g10_6:get a10 6=v8:=kG ha10 hz5;refine hK7 a10 w8 ?_;refine wp_ret ?_;refine ⟨hd10,_,rIs hres g10_6,_,rfl,h9,?_,i9⟩;have ho:=o9;subst hbb;exact ho
  have hbb:b=false:=hc6;refine wp_skip ?_;refine hK3 a5 w (tUp ?_);refine wT fun K11 hK11=>?_;refine wC (wMv (v:=dst) (eK g5_0) ?_);refine wC (wMv (v:=.int .i64 ((n:Nat):Int)) (eK g5_1) ?_);refine wC (wCv (k1:=.i64) (i:=((n:Nat):Int)) hT3_i64 hT65_u32 (eS hz5) ?_);rw[show (IntKind.u32.wrap (((n:Nat):Int):Int))=(((n:Nat):Int):Int) from by simp only[IntKind.wrap,IntKind.bits,IntKind.signed];simp;omega];refine wC (ZJ (k1:=.u32) (i:=1) (j:=((n:Nat):Int)) rfl (eS hz5) ?_);rw[show (IntKind.u32.wrap ((1:Int)+(((n:Nat):Int):Int)):Int)=(((n+1:Nat):Int):Int) from by simp only[IntKind.wrap,IntKind.bits,IntKind.signed];simp;omega];refine wC (wCr (R:=fun vz wz=>Fr (Z1 dst 1) w wz∧Own wz (fun b=>(fun b=>A b∨(w.heap.size≤b∧b < w.heap.size)) b∨(w.heap.size≤b∧b < wz.heap.size)) 1 vz (xs++(uvW (n+1))).length (Z0 (xs++(uvW (n+1))))∧∀ r ∈ Z1 vz 1,r.In (Z1 dst 1) w) (vs:=#[dst,.int .u32 ((n+1:Nat):Int)]) hC.enters (mX2 (eS hz5) (eS hz5)) (Apd.ret (hC.call w (fun b=>A b∨(w.heap.size≤b∧b < w.heap.size)) _ _ (n+1) ho0 (by omega) (by subst hbb;exact hb))) ?_);rintro v12 w12 ⟨f12,ho12,hi12⟩;have h13:Fr (Z1 dst 1) w w12:=(Fr.refl (Z1 dst 1) w).trans f12 hi0;have o13:Own w12 (fun b=>A b∨(w.heap.size≤b∧b < w12.heap.size)) 1 v12 (xs++(uvW (n+1))).length (Z0 (xs++(uvW (n+1)))):=ho12.imp_A (Z0a (Fr.refl (Z1 dst 1) w).size f12.size);have i13:∀ r ∈ Z1 v12 1,r.In (Z1 dst 1) w:=fun r hr=>Rng.in_trans (hi12 r hr) hi0 (Fr.refl (Z1 dst 1) w).size;refine wC (wAs (v:=v12) (eS hz5) ?_);refine wEk hz5 hd5 fun a14 ha14 hz14 hd14=>?_;have g14_6:get a14 6=v12:=kG ha14 hz5;refine hK11 a14 w12 (tUp ?_);refine wp_ret ?_;refine ⟨hd14,_,rIs hres g14_6,_,rfl,h13,?_,i13⟩;have ho:=o13;subst hbb;exact ho
end Go.Kq

namespace Go.Kq
open Go Go.Proofs
structure ApUu (P:Program) (f:FuncId):Prop where
  enters:Enters P f
  call:∀ (w:World) (A:Nat→Prop) (dst:Value) (xs l:List UInt8),Own w A 1 dst xs.length (Z0 xs)→l.length=16→(xs++l).length≤4294967296→Calls P f #[dst,.agg (Z0 l).toArray] w (Apd w A dst (xs++l))
theorem ap_uuid {P:Program} {f:FuncId} {fn:Func} {T22 TU te:TypeId} {i0 i1:Nat} {t0 t1 t2 t3 t4 t5:TypeId} {p0 p1 p2 p3 p4 p5:String} {e0 e1 e2 e3 e4 e5:Array Edge}
    (hf:P.funcs[f]?=some fn) (hname:nG fn=false) (hres:fn.results = #[.tmp 4]) (hN:fn.ntmps=8)
    (hbody:fn.body=some (.seq (Code.region i0 ⟨[⟨some 3,.box TU (.tmp 1),t0,p0,e0,none⟩,oA 4 (.const (.slice none 0 0)) t1 p1 e1]⟩ false) (.seq (Code.region i1 ⟨[oM 5 0 t2 p2 e2,⟨some 6,.slice TU (.tmp 3) none none none,t3,p3,e3,none⟩,⟨some 7,.call ⟨.builtin .append,#[(.tmp 5),(.tmp 6)],#[T22,T22]⟩,t4,p4,e4,none⟩,oT 4 7 t5 p5 e5]⟩ false) .ret)))
    (hT:RowT P TU zU) (hs_T22:Z3 P T22 te 1 1=true) (hz_T22:ZG P te [.int .u8 0]):ApUu P f:=by
  refine ⟨enters_of hf hname hbody,?_⟩;intro w A dst xs l own hl hb;refine calls_of_wp hf hbody ?_;generalize ha0:({ tmps:=#[dst,Value.agg (Z0 l).toArray]++Array.replicate (fn.ntmps - (#[dst,Value.agg (Z0 l).toArray]:Array Value).size) undef,defers:=[] }:Act)=a0;have hz0:a0.tmps.size=8:=by subst ha0;simp[hN]
  have hd0:a0.defers=[]:=by subst ha0;rfl
  have g0_0:get a0 0=dst:=by subst ha0;exact gAr rfl
  have g0_1:get a0 1 = .agg (Z0 l).toArray:=by subst ha0;exact gAr rfl
  refine wT fun K1 hK1=>?_;refine wC (Z7I (v:=.agg (Z0 l).toArray) (eK g0_1) ?_);have hr:=ZE w (Z0 l).toArray TU (0,0);have f1:Fr [] w (w.alloc (.cells (Value.agg (Z0 l).toArray).cells TU)):=Fr.alloc _ _ _;have hr:(w.alloc (.cells (Value.agg (Z0 l).toArray).cells TU)).rangeAt w.heap.size 0 (Z0 l):=by simp only[List.toList_toArray] at hr;exact hr
  have sz1:=Zb w (.cells (Value.agg (Z0 l).toArray).cells TU);generalize w.alloc (.cells (Value.agg (Z0 l).toArray).cells TU)=w1 at f1 hr sz1 ⊢;refine wC (wAs (v:=.slice none 0 0) rfl ?_);refine wEk hz0 hd0 fun a2 ha2 hz2 hd2=>?_;have g2_0:=kP ha2 g0_0;have g2_3:get a2 3 = .pointer (some ⟨w.heap.size,0,none⟩):=kG ha2 hz0;refine hK1 a2 w1 (tUp ?_);refine wT fun K3 hK3=>?_;refine wC (wMv (v:=dst) (eK g2_0) ?_);refine wC (Z3N hT (b:=w.heap.size) (o:=0) (eK g2_3) (by simp[zU,Z2m,Z0]) ?_);rw[wCo];have hzl:zU.length=l.length:=by rw[hl];rfl
  have hoc:OctE w1 (fun b=>b=w.heap.size) (.slice (some ⟨w.heap.size,0,none⟩) zU.length zU.length) l:=by
    rw[hzl];exact .inl ⟨some l,.inr ⟨w.heap.size,0,l.length,l,rfl,rfl,⟨Nat.le_refl _,by omega⟩,hr,rfl⟩,rfl⟩
  have own1:Own w1 (fun b=>A b∨(w.heap.size≤b∧b < w1.heap.size)) 1 dst xs.length (Z0 xs):=own.kept f1 (by simp) (fun b hb=>.inl hb);refine Z0r (xs:=xs) (ys:=l) hs_T22 hz_T22 (eS hz2) (eS hz2) own1 hoc (by rw[List.length_append] at hb;omega) ?_;intro v8 w8 ha8;obtain ⟨_,hv8,f8,ho8,hi8⟩:=ha8 _ rfl
  cases hv8
  refine wC (wAs (v:=v8) (eS hz2) ?_);refine wEn fun a10 ha10=>?_;have hd10:=kD ha10 hd2;have g10_4:get a10 4=v8:=kG ha10 hz2;refine hK3 a10 w8 (tUp ?_);refine wp_ret ?_;have h9:Fr (Z1 dst 1) w w8:=(f1.nil (l:=Z1 dst 1)).trans f8 fun r hr=>Rng.in_self hr;exact ⟨hd10,_,rIs hres g10_4,_,rfl,h9,ho8.imp_A (Z0a f1.size f8.size),fun r hr=>Rng.in_trans (hi8 r hr) (fun x hx=>Rng.in_self hx) f1.size⟩
section
variable {P:Program} {N:Nat} {e:AE} {c:Ctx} {k:Code} {ys:List UInt8} {g:V→List UInt8} {id n s L fi o pb po:Nat} {t0 t1 t2 t3 t4:TypeId} {p0 p1 p2 p3 p4:String} {e0 e1 e2 e3 e4:Array Edge}
theorem ASt.rng {xs:List UInt8} {v:Value} {w:World} {b o:Nat} {cs:List Value} (h:ASt e xs v w) (hB:e.B b) (hc:e.w0.rangeAt b o cs):w.rangeAt b o cs:=by
  intro i u hi;exact h.cell hB (hc i u hi)
theorem ASt.fresh {xs:List UInt8} {v:Value} {w w':World} (h:ASt e xs v w) (f:Fr [] w w'):ASt e xs v w' :=
  ⟨h.ok,h.fr.trans f (by simp),h.own.kept f (by simp) (fun b hb=>hb.imp id fun q=>⟨q.1,Nat.lt_of_lt_of_le q.2 f.size⟩),h.inn⟩
theorem af_uuid {TU S:TypeId} {f:FuncId} {ats:Array TypeId} {id2 n2:Nat} {t5 t6 t7 t8 t9:TypeId} {p5 p6 p7 p8 p9:String} {e5 e6 e7 e8 e9:Array Edge} (hf:ApUu P f) (hs:(s,Value.pointer (some ⟨pb,po,none⟩)) ∈ c) (hF:Zp P S fi o=true) (hT:RowT P TU zU) (hB:e.B pb)
    (hb:(c.free n [L,1] && c.free n2 [L,1] && decide (L < n) && decide (1 < n) && decide (n+3 < N) && decide (L ≠ 1) && decide (L < n2) && decide (1 < n2) && decide (n2+2 < N))=true) {x:V} (hx:FA e pb (po+o) .uuid x) :
    ApC P N e c (.seq (Code.region id ⟨[oM n s t0 p0 e0,⟨some (n+1),.nilCheck (.tmp n),t1,p1,e1,none⟩,oF (n+2) S (n+1) fi t2 p2 e2,oL (n+3) TU (n+2) t3 p3 e3,⟨some L,.alloc TU,t4,p4,e4,none⟩,oS TU L (n+3) t5 p5 e5]⟩ false)
      (Code.region id2 ⟨[oM n2 1 t6 p6 e6,oL (n2+1) TU L t7 p7 e7,oC (n2+2) f #[.tmp n2,.tmp (n2+1)] ats t8 p8 e8,oT 1 (n2+2) t9 p9 e9]⟩ false)) (Z5Z x):=by
  obtain ⟨cs,hcs,l,hl,rfl,rfl⟩:=hx;intro K Q a w v xs hN hd hc hv hst hbd hK;simp only[Bool.and_eq_true,decide_eq_true_eq] at hb;obtain ⟨⟨⟨⟨⟨⟨⟨⟨b1,b1'⟩,b2⟩,b3⟩,b4⟩,b5⟩,b6⟩,b7⟩,b8⟩:=hb;have hzl:(Z0 l).length=zU.length:=by rw[lOc,hl];rfl
  refine wS fun K1 hK1=>?_;refine wC (wMv (v:=.pointer (some ⟨pb,po,none⟩)) (by rw[eTm];exact hc _ hs) ?_);refine wC (wNc (q:=⟨pb,po,none⟩) (by rw[eTm,gQ]) ?_);refine wC (wFa hF (b:=pb) (i:=po) (by rw[eTm,gQ]) ?_);refine wC (Z2a hT (cs:=Z0 l) hzl (by rw[eTm,gQ]) (hst.rng hB hcs) ?_);refine wC (Z0e hT.zero ?_);have f1:Fr [] w (w.alloc (.cells (Value.agg zU.toArray).cells TU)):=Fr.alloc _ _ _;have th1:(w.alloc (.cells (Value.agg zU.toArray).cells TU)).there w.heap.size 0 zU.length:=Zy w zU.toArray TU;have sz1:=Zb w (.cells (Value.agg zU.toArray).cells TU);generalize w.alloc (.cells (Value.agg zU.toArray).cells TU)=w1 at f1 th1 sz1 ⊢;rw[wCo];refine Z1D hT (cs:=Z0 l) (b:=w.heap.size) (o:=0) hzl (by rw[eTm,gQ]) (by rw[eTm,gR,gQ]) (by
    intro u hu;simp only[Z0,List.mem_map] at hu;obtain ⟨_,_,rfl⟩:=hu
    rfl) (by rw[hzl];exact th1) ?_
  rw[pNo,wNi];have f2:=Fr.sets w.heap.size (Z0 l) w1 0;have r2:=World.rangeAt_setCells_same w1 w.heap.size 0 (Z0 l) (by rw[hzl];exact th1);generalize w1.setCells w.heap.size 0 (Z0 l)=w2 at f2 r2 ⊢;have hF2:Fr [] w w2:=f1.trans f2 (by intro r hr;simp at hr;subst hr;exact .inl (Nat.le_refl _));have hst2:=hst.fresh hF2;refine hK1 _ w2 ?_;refine Z2 ?_;refine wC (wMv (v:=v) (by rw[eTm,gPn b5,gR,gR,gR,gR];exact hv) ?_);refine wC (Z2a hT (cs:=Z0 l) (b:=w.heap.size) (o:=0) hzl (by rw[eTm,gR,gQ]) r2 ?_);refine wC (wCr (vs:=#[v,.agg (Z0 l).toArray]) hf.enters (by simp only[List.map_toArray,List.map_cons,List.map_nil,eTm];rw[gR,gQ,gQ]) (Apd.ret (hf.call w2 _ v xs l hst2.own hl (by have:(Z5Z (.s l))=l:=rfl;rw[this] at hbd;omega))) ?_);intro v' w' hr;refine wC (wAs (v:=v') (by rw[eTm,gQ]) ?_);rw[wNi];have c1:=Ctx.on_put (v:=.pointer (some ⟨w.heap.size,0,none⟩)) (Ctx.on_put (v:=.agg (Z0 l).toArray) (Ctx.on_put (v:=.pointer (some ⟨pb,po+o,none⟩)) (Ctx.on_put (v:=.pointer (some ⟨pb,po,none⟩)) (Ctx.on_put (v:=.pointer (some ⟨pb,po,none⟩)) hc b1 (.inl (Nat.le_refl n))) b1 (.inl (show n≤n+1 by omega))) b1 (.inl (show n≤n+2 by omega))) b1 (.inl (show n≤n+3 by omega))) b1 (.inr (show L ∈ [L,1] by simp));exact ApC.done (c:=c) (by simp only[sPu];exact hN) (by simp only[dPu];exact hd) (Ctx.on_put (Ctx.on_put (Ctx.on_put (Ctx.on_put c1 b1' (.inl (by omega))) b1' (.inl (by omega))) b1' (.inl (by omega))) b1' (.inr (by simp))) (gQ) hst2 hK hr
end
end Go.Kq

namespace Go.Kq
open Go Go.Proofs
def Z0L:Value→Value
  | .slice (some ⟨g,o,none⟩) _ cap=>.slice (some ⟨g,0,none⟩) 0 (o+cap)
  | _=>.slice none 0 0
def AE.whole (e:AE):Prop:=∀ r ∈ Z1 e.d0 1,r.lo=0
theorem Z4Q {w:World} {A:Nat→Prop} {n:Nat} {v:Value} {xs:List Value} (h:Own w A 1 v n xs):∀ r ∈ Z1 (Z0L v) 1,A r.b:=by
  obtain ⟨_,⟨rfl,_⟩ | ⟨g,o,cap,hg,rfl,_⟩⟩:=h
  · simp[Z0L,Z1]
  simp[Z0L,Z1];exact hg
theorem Z6x {w:World} {A:Nat→Prop} {n:Nat} {v:Value} {xs:List Value} (h:Own w A 1 v n xs):∀ r ∈ Z1 v 1,r.In (Z1 (Z0L v) 1) w:=by
  obtain ⟨_,⟨rfl,_⟩ | ⟨g,o,cap,hg,rfl,_⟩⟩:=h
  · simp[Z1]
  intro r hr;simp[Z1] at hr
  subst hr;exact .inr ⟨⟨g,0,o+cap⟩,by simp[Z0L,Z1],rfl,Nat.zero_le _,by simp⟩
theorem Z6y (v:Value):∀ r ∈ Z1 (Z0L v) 1,r.lo=0:=by
  unfold Z0L
  split
  · simp[Z1]
  simp[Z1]
structure AppMW (P:Program) (f:FuncId) (ty:Ty) (g:V→List UInt8) (ver:Int):Prop where
  enters:Enters P f
  call:∀ (w:World) (A B:Nat→Prop) (pb po:Nat) (cs:List Value) (xs0:List V) (dst:Value) (xs:List UInt8),w.rangeAt pb po cs→Rep w B ty cs (.l (.n ver::xs0))→B pb→Own w A 1 dst xs.length (Z0 xs) →
    (∀ b,A b→¬ B b)→(∀ b,B b→b < w.heap.size)→(∀ b,A b→b < w.heap.size)→(xs++g (.l (.n ver::xs0))).length < 4294967296 →
    Calls P f #[.pointer (some ⟨pb,po,none⟩),dst] w fun e w'=>∃ u,e = .returned u∧Fr (Z1 (Z0L dst) 1) w w'∧Own w' (fun b=>A b∨(w.heap.size≤b∧b < w'.heap.size)) 1 u (xs++g (.l (.n ver::xs0))).length (Z0 (xs++g (.l (.n ver::xs0))))
theorem Z8G {P:Program} {f:FuncId} {fn:Func} {N R:Nat} {k:Code} {tys:List Ty} {gs:List (V→List UInt8)} {ver:Int} (hf:P.funcs[f]?=some fn) (hname:nG fn=false) (hres:fn.results = #[.tmp R]) (hN:fn.ntmps=N) (hbody:fn.body=some k) (hN2:2≤N)
    (h:∀ (e:AE) (pb po:Nat),e.whole→e.B pb→e.w0.cell? ⟨pb,po,none⟩=some (.int .i16 ver)→ApSR P N R e [(0,.pointer (some ⟨pb,po,none⟩))] k pb (po+1) tys gs):AppMW P f (.st (.int .i16::tys)) (apSt ((fun _=>[])::gs)) ver:=by
  refine ⟨enters_of hf hname hbody,?_⟩;intro w A B pb po cs xs0 dst xs hcs hr hpb own hAB hB hA hb;refine calls_of_wp hf hbody ?_;generalize ha0:({ tmps:=#[Value.pointer (some ⟨pb,po,none⟩),dst]++Array.replicate (fn.ntmps - (#[Value.pointer (some ⟨pb,po,none⟩),dst]:Array Value).size) undef,defers:=[] }:Act)=a0;have hz0:a0.tmps.size=N:=by subst ha0;simp[hN];omega
  have hd0:a0.defers=[]:=by subst ha0;rfl
  have g0:get a0 0 = .pointer (some ⟨pb,po,none⟩):=by subst ha0;exact gAr rfl
  have g1:get a0 1=dst:=by subst ha0;exact gAr rfl
  obtain ⟨xs1,hx1,d1,d2,x,r,rfl,rfl,⟨i,rfl,rfl,_⟩,hr2⟩:=hr
  cases hx1
  rw[Z4,Zz] at hcs;refine h ⟨w,A,B,Z0L dst⟩ pb po (Z6y dst) hpb hcs.1 xs0 ⟨d2,hcs.2,hr2⟩ _ a0 w dst xs hz0 hd0 (by intro s hs;simp at hs;subst hs;exact g0) g1 ⟨⟨hAB,hB,hA,Z4Q own⟩,Fr.refl _ _,own.imp_A fun _ h=>.inl h,Z6x own⟩ (by simpa [apSt,Z3J] using hb) ?_;intro a' w' v' hd' hR hst;refine ⟨hd',_,rIs hres hR,_,rfl,hst.fr,?_⟩;have h2:apSt ((fun _=>[])::gs) (.l (.n ver::xs0))=Z3J gs xs0:=by simp[apSt,Z3J]
  rw[h2];exact hst.own
end Go.Kq

namespace Go.Kq
open Go Go.Proofs
def FldT (P:Program) (ge:Nat) (cx:Cx) (m:Nat) (c ct:Code) (o:Nat) (ty:Ty) (dv:V) (f:Rd):Prop :=
  ∀ (e : Env) (pb po : Nat) (Q : Exit → Act → World → Prop) (a : Act) (w : World) (st : RSt),
    Z1a cx e pb po a→Mem e pb po ge w st→w.there pb (po+o) ty.size→(∃ z,w.rangeAt pb (po+o) z∧Rep w Z00 ty z dv) →
    (∀ a' w' x st',f e.ver e.flex st=some (x,st')→Kept m a a'→RW w' e.rb e.sb st'→Fr [⟨e.rb,0,2⟩,⟨pb,po+o,po+o+ty.size⟩] w w' →
      (∃ z,w'.rangeAt pb (po+o) z∧Rep w' (Foot e.sb w.heap.size w'.heap.size) ty z x)→ct.wp P Q a' w') →
    (f e.ver e.flex st=none→∀ a' w',a'.tmps.size=cx.N→a'.defers=[]→get a' cx.tr=e.er→Fr [⟨e.rb,0,2⟩,⟨pb,po+o,po+o+ty.size⟩] w w'→Q .ret a' w') →
    c.wp P Q a w
end Go.Kq

namespace Go.Kq
open Go Go.Proofs
variable {P:Program} {Q:Exit→Act→World→Prop}
theorem Z8J {os:List Oper} {ops:Array Oper} (hops:ops.toList=os) {A:List (List Nat)} {nds:List (List Nat)}
    (hE:Z8U A ops nds) (hg:os.all Z1f=true) {I:(Nat→Bool)→Act→World→Prop}
    (hstep:∀ (L:Nat→Bool) (a:Act) (w:World) (i:Nat) (o:Oper),os[i]?=some o→L i=false→(∀ d ∈ nds.getD i [],L d=true)→I L a w→OW P o a w (I fun j=>if j=i then true else L j) Q)
    (hlast:∀ (L:Nat→Bool) (a:Act) (w:World),(∀ i,i < os.length→L i=true)→I L a w→Q .normal a w) :
    ∀ (fuel:Nat) (listed:Array Bool) (a:Act) (w:World),listed.size=ops.size→Good A listed→listed.toList.count false=fuel→I (fun i=>listed.getD i false) a w→wpAny P .any ops Q fuel listed a w:=by
  have hsize:ops.size=os.length:=by rw[← Array.length_toList,hops]
  have hlen:nds.length=os.length:=by have:=hE.len;omega
  have hget:∀ i:Nat,ops[i]?=os[i]?:=fun i=>by rw[← hops];simp
  have tr:∀ listed:Array Bool,listed.size=ops.size→listed.toList.count false=0→∀ i,i < os.length→listed.getD i true=true:=by
    intro listed hs hc i hi;have hle:i < listed.size:=by omega
    have:listed[i] ≠ false:=by
      intro h;have hm:false ∈ listed.toList:=by rw[← h];simp
      have:=List.count_pos_iff.2 hm;omega
    simp[Array.getD_eq_getD_getElem?,hle] at this ⊢
    exact this
  have full:∀ (listed:Array Bool) (a:Act) (w:World),listed.size=ops.size→listed.toList.count false=0→I (fun i=>listed.getD i false) a w→Q .normal a w:=by
    intro listed a w hs hc hI;refine hlast _ a w (fun i hi=>?_) hI;rw[← Z0F (by omega)];exact tr listed hs hc i hi
  intro fuel
  induction fuel with
  | zero =>
    intro listed a w hs hgd hc hI;refine wpAny_done ?_ (full listed a w hs hc hI) 0;rw[List.eq_nil_iff_forall_not_mem];intro i hi;obtain ⟨h2,o,h3,_⟩:=mem_ready.1 hi;have:=(Array.getElem?_eq_some_iff.1 h3).1;rw[tr listed hs hc i (by omega)] at h2;cases h2
  | succ fuel ih =>
    intro listed a w hs hgd hc hI;have hun:∃ j,j < os.length∧listed.getD j true=false:=by
      have:false ∈ listed.toList:=List.count_pos_iff.1 (by omega);obtain ⟨j,hj,he⟩:=List.getElem_of_mem this;have hjl:j < listed.size:=by simpa using hj
      refine ⟨j,by omega,?_⟩;simp at he
      simp[Array.getD_eq_getD_getElem?,hjl,he]
    refine ⟨fun h0=>?_,fun i hi=>?_⟩
    · exfalso
      have hready:∀ i,i < ops.size→listed.getD i true=true:=by
        intro i
        induction i using Nat.strongRecOn with
        | ind i ih2 =>
          intro hi
          rcases hli:listed.getD i true with _ | _
          · exfalso
            have:i ∈ Region.ready .any ops listed:=by
              rw[mem_ready];refine ⟨hli,ops[i],by simp[hi],fun e he _=>?_⟩;have hlt:=hE.back i ops[i] (by simp[hi]) e he;have:=ih2 e.on hlt (by omega)
              rwa [Z0F (by omega)] at this
            rw[h0] at this
            cases this
          rfl
      obtain ⟨j,h1,h2⟩:=hun;have:=hready j (by omega);rw[h2] at this;cases this
    obtain ⟨hli,o,ho,hafter⟩:=mem_ready.1 hi;have hiops:i < ops.size:=(Array.getElem?_eq_some_iff.1 ho).1;have hilt:i < listed.size:=by omega
    have hls:listed.toList[i]?=some false:=by
      simp[Array.getD_eq_getD_getElem?,hilt] at hli
      simp[hilt,hli]
    have hcount:(listed.setIfInBounds i true).toList.count false=fuel:=by
      have:=Z29 hls;rw[Array.toList_setIfInBounds];omega
    have hoi:os[i]?=some o:=by rw[← hget];exact ho
    have hgo:o.guard=none:=Z5D hg hoi;have hnd:∀ d ∈ nds.getD i [],listed.getD d false=true:=by
      intro d hd;have hin:nds[i]?=some (nds.getD i []):=by simp[List.getD_eq_getElem?_getD,show i < nds.length from by omega]
      have:=hE.need i _ hin d hd;exact hgd.ready hE hi d this.2
    have:=hstep (fun i=>listed.getD i false) a w i o hoi (by rw[← Z0F (by omega)];exact hli) hnd hI;have hw:Region.wanted o (yielded ops a.tmps)=true:=by simp[Region.wanted,hgo]
    simp only[wpOp,ho,hw,if_true];refine .inl (Oper.upon_mono (fun a' w' h'=>?_) _ this.sem);refine ih _ a' w' (by rw[Array.size_setIfInBounds];exact hs) (hgd.set (hgd.ready hE hi)) hcount ?_;have e:(fun j=>if j=i then true else listed.getD j false)=fun j=>(listed.setIfInBounds i true).getD j false:=by
      funext j
      by_cases h:j=i
      · subst h;simp[Array.getD_eq_getD_getElem?,hilt]
      rw[getD_set_ne false (Ne.symm h),if_neg h]
    rw[← e];exact h'
theorem wp_drawI {id:Nat} {os:List Oper} {a0:Act} {w0:World} (nds:List (List Nat)) (I:(Nat→Bool)→Act→World→Prop) (hm:P.follows .mixedOrders=true)
    (he:Z0I 0 (os.map (·.after)) nds=true) (hg:os.all Z1f=true) (h0:I (fun _=>false) a0 { w0 with drawn:=w0.drawn+1 })
    (hstep:∀ (L:Nat→Bool) (a:Act) (w:World) (i:Nat) (o:Oper),os[i]?=some o→L i=false→(∀ d ∈ nds.getD i [],L d=true)→I L a w→OW P o a w (I fun j=>if j=i then true else L j) Q)
    (hlast:∀ (L:Nat→Bool) (a:Act) (w:World),(∀ i,i < os.length→L i=true)→I L a w→Q .normal a w):(Code.region id ⟨os⟩ true).wp P Q a0 w0:=by
  refine wp_region_any hm ?_;have hE:=Z6W (ops:=⟨os⟩) he;have hrep:∀ i,(Array.replicate os.length false).getD i false=false:=by
    intro i;rw[Array.getD_eq_getD_getElem?,Array.getElem?_replicate];split <;> rfl
  refine Z8J (os:=os) (ops:=⟨os⟩) rfl hE hg hstep hlast _ _ a0 _ (by simp) ?_ (by simp) ?_
  · intro j hj;simp only[List.size_toArray] at hj;rw[hrep j] at hj;cases hj
  have:(fun i=>(Array.replicate (⟨os⟩:Array Oper).size false).getD i false)=fun _=>false:=by
    funext i;simpa using hrep i
  rw[this];exact h0
end Go.Kq

namespace Go.Kq
open Go Go.Proofs
def Z1P (f:Rd) (ver:Int) (fl:Bool):Nat→Bool→V→V→RSt→Option (V × V × RSt)
  | 0,_,x,y,st=>some (x,y,st)
  | n + 1, first, x, y, st =>
    if (rdUv st).1=0 then
      if first then
        match f ver fl ⟨(Z9 (rdUv (rdUv st).2).1 (rdUv (rdUv st).2).2).1.getD [],(Z9 (rdUv (rdUv st).2).1 (rdUv (rdUv st).2).2).1.isNone,false⟩ with
        | some (x',st')=>if st'.bad then none else Z1P f ver fl n false x' y (Z9 (rdUv (rdUv st).2).1 (rdUv (rdUv st).2).2).2
        | none=>none
      else none
    else Z1P f ver fl n false x (Z2p y (rdUv st).1 (.oct (Z9 (rdUv (rdUv st).2).1 (rdUv (rdUv st).2).2).1)) (Z9 (rdUv (rdUv st).2).1 (rdUv (rdUv st).2).2).2
def rdKn (f:Rd) (dv:V):Rd:=fun ver fl st =>
  if fl then match Z1P f ver fl (rdUv st).1 true dv .nil (rdUv st).2 with
    | some (x,y,s)=>some (.l [x,y],s)
    | none=>none
  else some (.l [dv,.nil],st)
theorem Octs.src {w:World} {sb:Nat} {v:Value} {x:Option (List UInt8)} (h:Octs w (·=sb) v x):Src w sb v (x.getD []) x.isNone:=by
  rcases h with ⟨rfl,rfl⟩ | ⟨b,o,cap,l,rfl,rfl,hc,hr,rfl⟩
  · exact .inl ⟨rfl,rfl,rfl⟩
  exact .inr ⟨rfl,o,cap,rfl,hc,hr⟩
theorem TagV.lift {w w':World} {sb lo lo':Nat} {v:Value} {x:V} {l:List Rng} (h:TagV w (·=sb) lo v x) (hf:Fr l w w') (h1:∀ z ∈ l,z.b ≠ sb) (h2:∀ z ∈ l,z.b < lo) (hl:lo'≤lo):TagV w' (·=sb) lo' v x:=by
  rcases h with h | ⟨r,kv,h3,h4,h5,h6⟩
  · exact .inl h
  exact .inr ⟨r,kv,h3,by omega,h5.kept hf (fun z hz=>h1 z hz) (fun z hz=>by have:=h2 z hz;omega) (fun _ h=>h),h6⟩
end Go.Kq

namespace Go.Kq
open Go Go.Proofs
section
variable {f:Rd} {ver:Int} {fl:Bool}
theorem Z3e:∀ (l:List (Nat × List UInt8)) (first:Bool) (x y:V) (rest:List UInt8),(∀ p ∈ l,1≤p.1∧p.1 < 4294967296∧p.2.length≤32767)→l.Pairwise (fun a b=>a.1 < b.1)→(∀ q ∈ Z0b y,∀ p ∈ l,q.1 < p.1) →
    ∃ y',Z1P f ver fl l.length first x y ⟨Zr l++rest,false,false⟩=some (x,y',⟨rest,false,false⟩)∧Z0b y'=Z0b y++l.map vTag
  | [],first,x,y,rest,_,_,_=>⟨y,rfl,by simp⟩
  | p :: l, first, x, y, rest, h, hp, hx => by
    obtain ⟨h0,h1,h2⟩:=h p (by simp);have e1:Zr (p::l)++rest=uvW p.1++(uvW p.2.length++(p.2++(Zr l++rest))):=by simp[Zr,tagW]
    obtain ⟨y0,h3,_,h4⟩:=Z0w (o:=p.2) (rest:=Zr l++rest) (l:=p.2.length) (nl:=false) rfl (by simp);have h5:=h4 rfl;subst h5;have hset:Z0b (Z2p y p.1 (.s p.2))=Z0b y++[vTag p]:=by
      rw[Z2p,Z0b,Z2g fun q hq=>Nat.ne_of_lt (hx q hq p (by simp))];rfl
    obtain ⟨y',h6,h7⟩:=Z3e l false x (Z2p y p.1 (.s p.2)) rest (fun q hq=>h q (by simp[hq])) (List.pairwise_cons.1 hp).2 (by
      intro q hq r hr;rw[hset] at hq
      rcases List.mem_append.1 hq with hq | hq
      · exact hx q hq r (by simp[hr])
      · simp[vTag] at hq;subst hq;exact (List.pairwise_cons.1 hp).1 r hr)
    refine ⟨y',?_,by rw[h7,hset];simp⟩;have hne:¬ p.1=0:=by omega
    rw[e1,List.length_cons];simp only[Z1P,Z0k h1,Z0k (show p.2.length < 4294967296 by omega),h3,V.oct,hne,if_false];exact h6
theorem rdKn_app {dv:V} {kn us:List (Nat × List UInt8)} {rest:List UInt8} (hk:kn=[]∨∃ val x,kn=[(0,val)]∧val.length < 4294967296∧f ver true ⟨val,false,false⟩=some (x,⟨[],false,false⟩))
    (hu:∀ p ∈ us,1≤p.1∧p.1 < 4294967296∧p.2.length≤32767) (hp:us.Pairwise fun a b=>a.1 < b.1) (hl:us.length < 4294967295) :
    ∃ x y,rdKn f dv ver true ⟨uvW (kn++us).length++(Zr (kn++us)++rest),false,false⟩=some (.l [x,y],⟨rest,false,false⟩)∧ZV y=us∧(kn=[]→x=dv)∧∀ val,kn=[(0,val)]→f ver true ⟨val,false,false⟩=some (x,⟨[],false,false⟩):=by
  rcases hk with rfl | ⟨val,x,rfl,hv,hx⟩
  · obtain ⟨y,h1,h2⟩:=Z3e (f:=f) (ver:=ver) (fl:=true) us true dv .nil rest hu hp (by simp[Z0b]);refine ⟨dv,y,?_,Z4U (by rw[h2];simp[Z0b]) hp,fun _=>rfl,fun _ h=>(by cases h)⟩;simp only[rdKn,if_true,List.nil_append,Z0k (show us.length < 4294967296 by omega),h1]
  obtain ⟨y,h1,h2⟩:=Z3e (f:=f) (ver:=ver) (fl:=true) us false x .nil rest hu hp (by simp[Z0b]);refine ⟨x,y,?_,Z4U (by rw[h2];simp[Z0b]) hp,fun h=>(by cases h),fun v h=>(by cases h;exact hx)⟩;have hc:rdUv ⟨uvW ([(0,val)]++us).length++(Zr ([(0,val)]++us)++rest),false,false⟩=(us.length+1,⟨Zr ([(0,val)]++us)++rest,false,false⟩):=by
    rw[Z0k (by simp;omega)];simp
  have e1:Zr ([(0,val)]++us)++rest=uvW 0++(uvW val.length++(val++(Zr us++rest))):=by simp[Zr,tagW]
  obtain ⟨y0,h3,_,h4⟩:=Z0w (o:=val) (rest:=Zr us++rest) (l:=val.length) (nl:=false) rfl (by simp);have h5:=h4 rfl;subst h5;have hgo:Z1P f ver true (us.length+1) true dv .nil ⟨Zr ([(0,val)]++us)++rest,false,false⟩=some (x,y,⟨rest,false,false⟩):=by
    rw[e1];simp only[Z1P,Z0k (show (0:Nat) < 4294967296 by omega),Z0k hv,h3,if_true,Option.getD_some,Option.isNone_some,hx]
    simpa using h1
  unfold rdKn;rw[if_pos rfl,hc,hgo]
end
end Go.Kq

namespace Go.Kq
open Go
def gC (g:V→List UInt8) (G:List V→List UInt8):List V→List UInt8
  | x::r=>g x++G r
  | []=>[]
def gKn (G:V→List V→List UInt8):List V→List UInt8
  | x::r=>G x r
  | []=>[]
def gL (g:V→List UInt8):List V→List UInt8
  | [x]=>g x
  | _=>[]
def gSt (G:List V→List UInt8):V→List UInt8 | .l xs=>G xs | _=>[]
def apKn (fl:Bool) (k:V→List (Nat × List UInt8)) (x y:V):List UInt8:=if fl then uvW (k x++ZV y).length++Zr (k x++ZV y) else []
def InvG (f:Rd) (ver:Int) (fl:Bool) (G:List V→List UInt8) (out:List UInt8):Prop :=
  ∀ rest nl,(nl=true→out++rest=[])→∃ xs,f ver fl ⟨out++rest,nl,false⟩=some (.l xs,⟨rest,nl,false⟩)∧G xs=out
theorem Z8m {f g:Rd} {ver:Int} {fl:Bool} {a:V→List UInt8} {G:List V→List UInt8} {o1 o2:List UInt8} (h1:Inv f ver fl a o1) (h2:InvG g ver fl G o2):InvG (ZM f g) ver fl (gC a G) (o1++o2):=by
  intro rest nl hn;obtain ⟨x,hx,hax⟩:=h1 (o2++rest) nl (by rw[← List.append_assoc];exact hn);obtain ⟨xs,hxs,haxs⟩:=h2 rest nl (fun h=>by have:=hn h;simp only[List.append_eq_nil_iff] at this ⊢;exact ⟨this.1.2,this.2⟩);refine ⟨x::xs,?_,by simp only[gC,hax,haxs]⟩;rw[List.append_assoc];simp only[ZM,hx,hxs,Z56]
theorem invg_st {f:Rd} {ver:Int} {fl:Bool} {G:List V→List UInt8} {o:List UInt8} (h:InvG f ver fl G o):Inv f ver fl (gSt G) o:=by
  intro rest nl hn;obtain ⟨xs,h1,h2⟩:=h rest nl hn;exact ⟨.l xs,h1,h2⟩
section
variable {ver:Int} {fl:Bool} {y t:T} {fr to nul tag df of:Int} {sub:List Fd}
theorem Z33 {f:Fd} {fs:List Fd} {r g:Rd} {a:V→List UInt8} {G:List V→List UInt8} {ts:List T} {i:Nat} {tl:List UInt8} (ht:f.tag < 0) (h1:Inv r ver fl a (if f.has ver then Zc f ver fl (atT ts i) else [])) (h2:InvG g ver fl G (Z11 fs ver fl ts (i+1)++tl)) :
    InvG (ZM r g) ver fl (gC a G) (Z11 (f::fs) ver fl ts i++tl):=by
  rw[Z11,List.append_assoc];have:(decide (f.tag < 0) && f.has ver)=f.has ver:=by simp[ht]
  rw[this];exact Z8m h1 h2
theorem Z1g {f:Fd} {fs:List Fd} {ts:List T} {i:Nat} (ht:f.tag < 0):knL (f::fs) ver fl ts i=knL fs ver fl ts (i+1):=by
  rw[knL,if_neg (by simp;omega)];rfl
theorem unks_ge {fs:List Fd}:∀ p ∈ ZD fs t,Z7 fs≤p.1:=by
  have h:∀ (u out:List (Nat × List UInt8)),(∀ p ∈ out,Z7 fs≤p.1)→∀ p ∈ u.foldl (ZW (Z7 fs)) out,Z7 fs≤p.1:=by
    intro u
    induction u with
    | nil=>intro out h;exact h
    | cons q u ih =>
      intro out h;refine ih _ ?_;intro p hp;unfold ZW at hp
      split at hp
      · exact h p hp
      split at hp
      · exact h p hp
      rcases List.mem_append.1 hp with hp | hp
      · exact h p (List.mem_of_mem_take hp)
      rcases List.mem_cons.1 hp with rfl | hp
      · omega
      exact h p (List.mem_of_mem_drop hp)
  intro p hp;obtain ⟨q,hq,rfl⟩:=List.mem_map.1 hp;exact h _ [] (by simp) q hq
theorem unks_len {fs:List Fd}:(ZD fs t).length≤32767:=by
  obtain ⟨_,_,h3⟩:=Z4d (least:=Z7 fs) (t.u.take 32767) [] (by simp);unfold ZD ZA;rw[List.length_map];simp at h3
  omega
def KnOk (r:Rd) (ver:Int) (fl:Bool) (a:V→List UInt8) (k:V→List (Nat × List UInt8)) (kn:List (Nat × List UInt8)):Prop :=
  kn=[]∨∃ val,kn=[(0,val)]∧Inv r ver fl a val∧∀ x,a x=val→k x=[(0,val)]
theorem Z8r {fs:List Fd} {g:Rd} {G:List V→List UInt8} (hf:Z7 fs≤1) (h:InvG g ver fl G (Z11 fs ver fl t.l 0++(if fl then uvW (knL fs ver fl t.l 0++ZD fs t).length++Zr (knL fs ver fl t.l 0++ZD fs t) else []))):InvG g ver fl G (Z07 fs ver fl t):=by
  rw[Z44 hf];exact h
theorem Z7n {fs:List Fd} {r:Rd} {dv:V} {a:V→List UInt8} {k:V→List (Nat × List UInt8)} (hf:Z7 fs=1) (hk:ZR t) (hlen:fl=true→∀ val,knL fs ver fl t.l 0=[(0,val)]→val.length < 4294967296) (hd:k dv=[])
    (hkn:fl=true→KnOk r ver fl a k (knL fs ver fl t.l 0)) :
    InvG (rdKn r dv) ver fl (gKn fun x=>gL fun y=>apKn fl k x y) (if fl then uvW (knL fs ver fl t.l 0++ZD fs t).length++Zr (knL fs ver fl t.l 0++ZD fs t) else []):=by
  cases fl with
  | false =>
    intro rest nl hn;refine ⟨[dv,.nil],?_,?_⟩
    · simp[rdKn]
    simp[gKn,gL,apKn]
  | true =>
    have hkn:=hkn rfl;have hlen:=hlen rfl;rw[if_pos rfl];intro rest nl hn;have hnl:=Z10 hn (by simp[Z4u]);subst hnl;have hu:=Z6b (fs:=fs) hk.u;have hge:=unks_ge (t:=t) (fs:=fs);rw[hf] at hge;obtain ⟨x,y,h1,h2,h3,h4⟩:=rdKn_app (f:=r) (ver:=ver) (dv:=dv) (kn:=knL fs ver true t.l 0) (us:=ZD fs t) (rest:=rest)
      (by
        rcases hkn with h | ⟨val,h,hi,_⟩
        · exact .inl h
        · obtain ⟨x,hx,_⟩:=hi [] false (by simp);rw[List.append_nil] at hx;exact .inr ⟨val,x,h,hlen val h,hx⟩)
      (fun p hp=>⟨hge p hp,hu.key p hp,hu.few p hp⟩) hu.rise (by have:=unks_len (fs:=fs) (t:=t);omega)
    rw[← List.append_assoc] at h1;refine ⟨[x,y],h1,?_⟩;have hkx:k x=knL fs ver true t.l 0:=by
      rcases hkn with h | ⟨val,h,hi,hx⟩
      · rw[h,h3 h,hd]
      rw[h];obtain ⟨x',hx',ha⟩:=hi [] false (by simp);rw[List.append_nil,h4 val h] at hx';obtain ⟨rfl⟩:x=x':=by simpa using hx'
      exact hx x ha
    simp only[gKn,gL,apKn,if_true,h2,hkx]
end
end Go.Kq

namespace Go.Kq
open Go Go.Proofs
def ApSG (P:Program) (N:Nat) (e:AE) (c:Ctx) (k:Code) (pb o:Nat) (tys:List Ty) (G:List V→List UInt8):Prop :=
  ∀ xs,(∃ z,e.w0.rangeAt pb o z∧Reps e.w0 e.B tys z xs)→ApC P N e c k (G xs)
section
variable {P:Program} {N R pb o:Nat} {e:AE} {c:Ctx} {k k1 k2:Code} {ty:Ty} {tys:List Ty} {g:V→List UInt8} {G:List V→List UInt8} {GK:V→List V→List UInt8} {o':Nat}
theorem ApSG.cons (ho:o'=o+ty.size) (h1:∀ x,FA e pb o ty x→ApC P N e c k1 (g x)) (h2:ApSG P N e c k2 pb o' tys G):ApSG P N e c (.seq k1 k2) pb o (ty::tys) (gC g G):=by
  rintro xs ⟨z,hz1,d1,d2,x,r,rfl,rfl,hr1,hr2⟩;rw[Z4] at hz1;subst ho;exact ApC.seq (h1 x ⟨d1,hz1.1,hr1⟩) (h2 r ⟨d2,by rw[← hr1.length];exact hz1.2,hr2⟩)
theorem ApSG.keep (ho:o'=o+ty.size) (h:∀ x,FA e pb o ty x→ApSG P N e c k pb o' tys (GK x)):ApSG P N e c k pb o (ty::tys) (gKn GK):=by
  rintro xs ⟨z,hz1,d1,d2,x,r,rfl,rfl,hr1,hr2⟩;rw[Z4] at hz1;subst ho;exact h x ⟨d1,hz1.1,hr1⟩ r ⟨d2,by rw[← hr1.length];exact hz1.2,hr2⟩
theorem ApSG.last (h:∀ x,FA e pb o ty x→ApC P N e c k (g x)):ApSG P N e c k pb o [ty] (gL g):=by
  rintro xs ⟨z,hz1,d1,d2,x,r,rfl,rfl,hr1,rfl,rfl⟩;rw[Z4] at hz1;exact h x ⟨d1,hz1.1,hr1⟩
theorem ApSG.st (h:ApSG P N e c k pb o tys G) {x:V} (hx:FA e pb o (.st tys) x):ApC P N e c k (gSt G x):=by
  obtain ⟨cs,h1,xs,rfl,h2⟩:=hx;exact h xs ⟨cs,h1,h2⟩
end
structure Anew (e e2:AE) (g:Nat) (w:World):Prop where
  whole:e2.whole
  B:∀ b,e.B b→e2.B b
  g:e2.B g
  w:e2.w0=w
  fa:∀ b o ty x,e.B b→FA e b o ty x→FA e2 b o ty x
  cell:∀ b o cv,e.B b→e.w0.cell? ⟨b,o,none⟩=some cv→e2.w0.cell? ⟨b,o,none⟩=some cv
theorem ASt.anew {e:AE} {xs:List UInt8} {v:Value} {w:World} {g:Nat} (h:ASt e xs v w) (hwh:e.whole) (hg:g < w.heap.size) (hgs:∀ r ∈ Z1 v 1,r.b ≠ g) :
    ∃ e2,Anew e e2 g w∧ASt e2 xs v w∧∀ ys v2 w2,ASt e2 ys v2 w2→ASt e ys v2 w2:=by
  have hsw:∀ r ∈ Z1 (Z0L v) 1,r.b ≠ g∧r.In (Z1 e.d0 1) e.w0:=by
    have hin:=h.inn;obtain ⟨_,⟨rfl,_⟩ | ⟨b,o,cap,_,rfl,_⟩⟩:=h.own
    · simp[Z0L,Z1]
    intro r hr;simp[Z0L,Z1] at hr
    subst hr;refine ⟨hgs ⟨b,o+xs.length * 1,o+cap * 1⟩ (by simp[Z1]),?_⟩
    rcases hin ⟨b,o+xs.length * 1,o+cap * 1⟩ (by simp[Z1]) with h2 | ⟨y,hy,e1,_,e3⟩
    · exact .inl h2
    exact .inr ⟨y,hy,e1,by rw[hwh y hy];exact Nat.zero_le _,by simpa using e3⟩
  refine ⟨⟨w,fun b=>e.Aw w b∧b ≠ g,fun b=>e.B b∨b=g,Z0L v⟩,⟨Z6y v,fun b hb=>.inl hb,.inr rfl,rfl,?_,?_⟩,⟨⟨?_,?_,?_,?_⟩,Fr.refl _ _,?_,Z6x h.own⟩,?_⟩
  · rintro b o ty x hb ⟨cs,h1,h2⟩;refine ⟨cs,h.fr.range h1 (fun r hr=>.inl fun he=>h.ok.AB _ (h.ok.sp r hr) (he ▸ hb)),?_⟩;exact Rep.kept h.fr (fun r hr hb=>h.ok.AB _ (h.ok.sp r hr) hb) (fun _ h=>.inl h) h2
  · intro b o cv hb hc;exact h.cell hb hc
  · rintro b ⟨h1, h2⟩ (h3 | h3)
    · exact h.apart b h1 h3
    exact h2 h3
  · rintro b (hb | rfl)
    · exact h.ltw b hb
    exact hg
  · exact fun b hb=>h.ltA b hb.1
  · exact fun r hr=>⟨Z4Q h.own r hr,(hsw r hr).1⟩
  · obtain ⟨h1, ⟨rfl, h0⟩ | ⟨b, o, cap, hb, rfl, hc, hm, hr, ht⟩⟩ := h.own
    · exact ⟨h1,.inl ⟨rfl,h0⟩⟩
    exact ⟨h1,.inr ⟨b,o,cap,.inl ⟨hb,hgs ⟨b,o+xs.length * 1,o+cap * 1⟩ (by simp[Z1])⟩,rfl,hc,hm,hr,ht⟩⟩
  intro ys v2 w2 h2;refine ⟨h.ok,h.fr.trans h2.fr fun r hr=>(hsw r hr).2,h2.own.imp_A ?_,fun r hr=>Rng.in_trans (h2.inn r hr) (fun r hr=>(hsw r hr).2) h.fr.size⟩;rintro b (⟨hb,_⟩ | ⟨hb1,hb2⟩)
  · rcases hb with hb | ⟨hb1, hb2⟩
    · exact .inl hb
    exact .inr ⟨hb1,Nat.lt_of_lt_of_le hb2 h2.fr.size⟩
  exact .inr ⟨Nat.le_trans h.fr.size hb1,hb2⟩
end Go.Kq
