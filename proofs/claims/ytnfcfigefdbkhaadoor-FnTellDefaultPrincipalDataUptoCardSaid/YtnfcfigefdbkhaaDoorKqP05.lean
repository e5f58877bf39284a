/- A part of the library: rules of reasoning about the program's operations and what its shared functions do. -/
import Derived.Test.YtnfcfigefdbkhaaDoorKqP04
import Derived.Test.YtnfcfigefdbkhaaDoorKqP01
import Derived.Test.YtnfcfigefdbkhaaDoorKqP03
import Derived.Test.YtnfcfigefdbkhaaDoorKqP02
import Derived.Laws.IdiomCopy
set_option linter.unusedVariables false
set_option linter.unusedSimpArgs false
namespace Go.Kq
open Go Go.Proofs
structure ToldM (P:Program) (f:FuncId) (fs:List Fd) (R:Int→Bool→T→T→Prop):Prop where
  enters:Enters P f
  call:∀ (w:World) (A B C:Nat→Prop) (v:Value) (ver:Int) (flex:Bool) (ct cg:List Value) (t g:T),FdsR w A v fs→RepT w B ct t→RepT w C cg g→(∀ b,A b→b < w.heap.size)→(∀ b,B b→b < w.heap.size)→(∀ b,C b→b < w.heap.size)→R ver flex t g →
    Calls P f #[v,.int .i64 ver,.bool flex,.agg ct.toArray,.agg cg.toArray] w fun e w'=>e = .returned (.bool true)∧Fr [] w w'
def TdV (kind:Int) (R:T→T→Prop) (t g:T):Prop :=
  if kind=8∨kind=9 then g.s=wholeS t.s else if kind=7 then g.s=uuidW t.s else if kind=10∨kind=11 then R t g else g.n=numW kind t.n
def TdF (fd:Fd) (R:Int→Bool→T→T→Prop) (ver:Int) (flex:Bool) (t g:T):Prop :=
  ((fd.kind=8∨fd.kind=10∨(decide (fd.nul≥0) && decide (ver≥fd.nul))=true)→g.nl=nullW fd.nul ver t)∧(nullW fd.nul ver t=false→TdV fd.kind (R ver flex) t g)
structure ToldFM (P:Program) (f:FuncId) (fd:Fd) (R:Int→Bool→T→T→Prop):Prop where
  enters:Enters P f
  call:∀ (w:World) (A B C:Nat→Prop) (ver:Int) (flex:Bool) (cs ct cg:List Value) (t g:T),RepF w A cs fd→RepT w B ct t→RepT w C cg g→(∀ b,A b→b < w.heap.size)→(∀ b,B b→b < w.heap.size)→(∀ b,C b→b < w.heap.size)→R ver flex t g →
    Calls P f #[.agg cs.toArray,.int .i64 ver,.bool flex,.agg ct.toArray,.agg cg.toArray] w fun e w'=>e = .returned (.bool true)∧Fr [] w w'
theorem TdV.part {kind:Int} {R:T→T→Prop} {t g:T} (hk:kind=10∨kind=11) (h:TdV kind R t g):R t g:=by
  rcases hk with rfl | rfl <;> simpa [TdV] using h
def oneF (fd:Fd):Fd:=.mk fd.of fd.fr fd.to (-1) (-1) fd.df fd.of fd.sub
def TdLi (R:Int→Bool→T→T→Prop) (ver:Int) (flex:Bool) (t g:T):Prop :=
  g.l.length=(t.l.take 32767).length∧∀ (i:Nat) (x y:T),(t.l.take 32767)[i]?=some x→g.l[i]?=some y→R ver flex x y
section
variable {P:Program} {a:Act} {w:World} {K:Act→World→Prop} {Q:Exit→Act→World→Prop} {d:Option Tmp} {t:TypeId} {p:String} {af:Array Edge} {g:Option (Nat × Bool)}
theorem wp_storeK {s:TypeId} {x y:Operand} {b i:Nat} {z:List Value} {v:Value} (hs:scal P s=true) (hx:a.eval x = .pointer (some ⟨b,i,none⟩)) (hy:a.eval y=v) (h1:v.oneCell'=true) (hi:i < z.length)
    (hr:w.rangeAt b 0 z) (ht:w.there b 0 z.length) (k:∀ w',Fr [⟨b,0,z.length⟩] w w'→w'.heap.size=w.heap.size→w'.rangeAt b 0 (z.set i v)→w'.there b 0 z.length→K (a.put d undef) w'):OW P ⟨d,.store s x y,t,p,af,g⟩ a w K Q:=by
  have f:=Fr.set w b i v
  have h2:=range_setAt (v:=v) hr ht hi
  rw[Nat.zero_add] at h2
  refine wp_store hs hx hy h1 (there_part ht (by omega) (by omega)) (k _ ?_ (by simp[World.setCell]) h2 (f.there ht))
  exact f.mono (by intro r hr;simp at hr;subst hr;exact .inr ⟨⟨b,0,z.length⟩,by simp,rfl,Nat.zero_le _,by simp only;omega⟩)
end
def TdK (fd:Fd) (RS R1:Int→Bool→T→T→Prop) (ver:Int) (flex:Bool) (t g:T):Prop:=(fd.kind=10→RS ver flex t g)∧(fd.kind=11→TdLi R1 ver flex t g)
set_option maxHeartbeats 4000000 in
theorem told_x {P:Program} {f:FuncId} {fn:Func} {T2 T3 T4 T22 T23 T26 T29 T51:TypeId} {f10 f23 f26 f27 f39 f40 f41:FuncId} {a0:Array TypeId} {a1:Array TypeId} {a2:Array TypeId} {a3:Array TypeId} {a4:Array TypeId} {a5:Array TypeId} {a6:Array TypeId} {a7:Array TypeId} {i0 i1 i2 i3 i4 i5 i6 i7 i8 i9 i10 i11 i12 i13 i14 i15 i16 i17 i18 i19 i20 i21 i22 i23 i24 i25 i26 i27 i28 i29 i30:Nat} {t0 t1 t2 t3 t4 t5 t6 t7 t8 t9 t10 t11 t12 t13 t14 t15 t16 t17 t18 t19 t20 t21 t22 t23 t24 t25 t26 t27 t28 t29 t30 t31 t32 t33 t34 t35 t36 t37 t38 t39 t40 t41 t42 t43 t44 t45 t46 t47 t48 t49 t50 t51 t52 t53 t54 t55 t56 t57 t58 t59 t60 t61 t62 t63 t64 t65 t66 t67 t68 t69 t70 t71 t72 t73 t74 t75 t76 t77 t78 t79 t80 t81 t82 t83 t84 t85 t86 t87 t88 t89 t90 t91 t92 t93 t94 t95 t96 t97 t98 t99 t100 t101 t102 t103 t104 t105 t106 t107 t108 t109 t110 t111 t112 t113 t114 t115 t116 t117 t118 t119 t120 t121 t122 t123 t124 t125 t126 t127 t128 t129 t130 t131:TypeId} {p0 p1 p2 p3 p4 p5 p6 p7 p8 p9 p10 p11 p12 p13 p14 p15 p16 p17 p18 p19 p20 p21 p22 p23 p24 p25 p26 p27 p28 p29 p30 p31 p32 p33 p34 p35 p36 p37 p38 p39 p40 p41 p42 p43 p44 p45 p46 p47 p48 p49 p50 p51 p52 p53 p54 p55 p56 p57 p58 p59 p60 p61 p62 p63 p64 p65 p66 p67 p68 p69 p70 p71 p72 p73 p74 p75 p76 p77 p78 p79 p80 p81 p82 p83 p84 p85 p86 p87 p88 p89 p90 p91 p92 p93 p94 p95 p96 p97 p98 p99 p100 p101 p102 p103 p104 p105 p106 p107 p108 p109 p110 p111 p112 p113 p114 p115 p116 p117 p118 p119 p120 p121 p122 p123 p124 p125 p126 p127 p128 p129 p130 p131:String} {e0 e1 e2 e3 e4 e5 e6 e7 e8 e9 e10 e11 e12 e13 e14 e15 e16 e17 e18 e19 e20 e21 e22 e23 e24 e25 e26 e27 e28 e29 e30 e31 e32 e33 e34 e35 e36 e37 e38 e39 e40 e41 e42 e43 e44 e45 e46 e47 e48 e49 e50 e51 e52 e53 e54 e55 e56 e57 e58 e59 e60 e61 e62 e63 e64 e65 e66 e67 e68 e69 e70 e71 e72 e73 e74 e75 e76 e77 e78 e79 e80 e81 e82 e83 e84 e85 e86 e87 e88 e89 e90 e91 e92 e93 e94 e95 e96 e97 e98 e99 e100 e101 e102 e103 e104 e105 e106 e107 e108 e109 e110 e111 e112 e113 e114 e115 e116 e117 e118 e119 e120 e121 e122 e123 e124 e125 e126 e127 e128 e129 e130 e131:Array Edge} {te te5:TypeId} {tb5:Nat} {fd:Fd} {RS R1:Int→Bool→T→T→Prop}
    (hf:P.funcs[f]?=some fn) (hname:(fn.name == "runtime.NumGoroutine")=false) (hres:fn.results = #[.tmp 10]) (hN:fn.ntmps=124)
    (hbody:fn.body=some (.seq (Code.region i0 ⟨[⟨some 5,.box T51 (.tmp 0),t0,p0,e0,none⟩,
    ⟨some 8,.box T26 (.tmp 3),t1,p1,e1,none⟩,
    ⟨some 9,.box T26 (.tmp 4),t2,p2,e2,none⟩,
    ⟨some 10,.assign (.const (.bool false)),t3,p3,e3,none⟩]⟩ false)
  (.seq (Code.region i1 ⟨[⟨some 17,.load T51 (.tmp 5),t4,p4,e4,none⟩,
    ⟨some 18,.move (.tmp 1),t5,p5,e5,none⟩,
    ⟨some 19,.load T26 (.tmp 8),t6,p6,e6,none⟩,
    ⟨some 20,.call ⟨.value (.func f39),#[(.tmp 17),(.tmp 18),(.tmp 19)],a0⟩,t7,p7,e7,none⟩,
    ⟨some 11,.assign (.tmp 20),t8,p8,e8,none⟩]⟩ false)
  (.seq (Code.region i2 ⟨[⟨some 21,.fieldAddr T51 (.tmp 5) 3,t9,p9,e9,none⟩,
    ⟨some 22,.load T3 (.tmp 21),t10,p10,e10,none⟩,
    ⟨some 23,.binOp .geq T3 (.tmp 22) (.const (.int .i64 0)) T3,t11,p11,e11,none⟩,
    ⟨some 24,.move (.tmp 23),t12,p12,e12,none⟩,
    ⟨some 25,.move (.tmp 1),t13,p13,e13,some (3,true)⟩,
    ⟨some 26,.fieldAddr T51 (.tmp 5) 3,t14,p14,e14,some (3,true)⟩,
    ⟨some 27,.load T3 (.tmp 26),t15,p15,e15,some (3,true)⟩,
    ⟨some 28,.binOp .geq T3 (.tmp 25) (.tmp 27) T3,t16,p16,e16,some (3,true)⟩,
    ⟨some 29,.pick (.tmp 24) (.tmp 28) (.const (.bool false)),t17,p17,e17,none⟩,
    ⟨some 12,.assign (.tmp 29),t18,p18,e18,none⟩]⟩ false)
  (.seq (.seq (Code.region i3 ⟨[⟨some 30,.fieldAddr T51 (.tmp 5) 0,t19,p19,e19,none⟩,
    ⟨some 31,.load T3 (.tmp 30),t20,p20,e20,none⟩,
    ⟨some 32,.binOp .eql T3 (.tmp 31) (.const (.int .i64 8)) T3,t21,p21,e21,none⟩,
    ⟨some 33,.move (.tmp 32),t22,p22,e22,none⟩,
    ⟨some 34,.fieldAddr T51 (.tmp 5) 0,t23,p23,e23,some (3,false)⟩,
    ⟨some 35,.load T3 (.tmp 34),t24,p24,e24,some (3,false)⟩,
    ⟨some 36,.binOp .eql T3 (.tmp 35) (.const (.int .i64 10)) T3,t25,p25,e25,some (3,false)⟩,
    ⟨some 37,.pick (.tmp 33) (.const (.bool true)) (.tmp 36),t26,p26,e26,none⟩,
    ⟨some 38,.move (.tmp 37),t27,p27,e27,none⟩,
    ⟨some 39,.move (.tmp 12),t28,p28,e28,some (8,false)⟩,
    ⟨some 40,.pick (.tmp 38) (.const (.bool true)) (.tmp 39),t29,p29,e29,none⟩,
    ⟨some 41,.move (.tmp 40),t30,p30,e30,none⟩,
    ⟨some 42,.fieldAddr T26 (.tmp 9) 2,t31,p31,e31,some (11,true)⟩,
    ⟨some 43,.load T4 (.tmp 42),t32,p32,e32,some (11,true)⟩,
    ⟨some 44,.move (.tmp 11),t33,p33,e33,some (11,true)⟩,
    ⟨some 45,.binOp .neq T4 (.tmp 43) (.tmp 44) T4,t34,p34,e34,some (11,true)⟩,
    ⟨some 46,.pick (.tmp 41) (.tmp 45) (.const (.bool false)),t35,p35,e35,none⟩]⟩ false)
  (.cond (.tmp 46) (.seq (Code.region i4 ⟨[⟨some 10,.assign (.const (.bool false)),t36,p36,e36,none⟩]⟩ false)
  .ret)
  .skip))
  (.seq (.seq (Code.region i5 ⟨[⟨some 47,.move (.tmp 11),t37,p37,e37,none⟩]⟩ false)
  (.cond (.tmp 47) (.seq (Code.region i6 ⟨[⟨some 10,.assign (.const (.bool true)),t38,p38,e38,none⟩]⟩ false)
  .ret)
  .skip))
  (.seq (.seq (Code.region i7 ⟨[⟨some 48,.fieldAddr T51 (.tmp 5) 0,t39,p39,e39,none⟩,
    ⟨some 49,.load T3 (.tmp 48),t40,p40,e40,none⟩]⟩ false)
  (.block 0 (.seq (.seq (Code.region i8 ⟨[⟨some 51,.binOp .eql T3 (.tmp 49) (.const (.int .i64 8)) T3,t41,p41,e41,none⟩,
    ⟨some 50,.assign (.tmp 51),t42,p42,e42,none⟩]⟩ false)
  (.cond (.tmp 50) .skip
  (Code.region i9 ⟨[⟨some 52,.binOp .eql T3 (.tmp 49) (.const (.int .i64 9)) T3,t43,p43,e43,none⟩,
    ⟨some 50,.assign (.tmp 52),t44,p44,e44,none⟩]⟩ false)))
  (.cond (.tmp 50) (.seq (Code.region i10 ⟨[⟨some 53,.fieldAddr T26 (.tmp 9) 1,t45,p45,e45,none⟩,
    ⟨some 54,.load T22 (.tmp 53),t46,p46,e46,none⟩,
    ⟨some 55,.fieldAddr T26 (.tmp 8) 1,t47,p47,e47,none⟩,
    ⟨some 56,.load T22 (.tmp 55),t48,p48,e48,none⟩,
    ⟨some 57,.call ⟨.value (.func f27),#[(.tmp 56)],a1⟩,t49,p49,e49,none⟩,
    ⟨some 58,.call ⟨.value (.func f26),#[(.tmp 54),(.tmp 57)],a2⟩,t50,p50,e50,none⟩,
    ⟨some 10,.assign (.tmp 58),t51,p51,e51,none⟩]⟩ true)
  .ret)
  (.seq (Code.region i11 ⟨[⟨some 60,.binOp .eql T3 (.tmp 49) (.const (.int .i64 7)) T3,t52,p52,e52,none⟩,
    ⟨some 59,.assign (.tmp 60),t53,p53,e53,none⟩]⟩ false)
  (.cond (.tmp 59) (.seq (Code.region i12 ⟨[⟨some 61,.makeSlice T22 (.const (.int .i64 16)) (.const (.int .i64 16)),t54,p54,e54,none⟩,
    ⟨some 13,.assign (.tmp 61),t55,p55,e55,none⟩]⟩ false)
  (.seq (Code.region i13 ⟨[⟨some 62,.move (.tmp 13),t56,p56,e56,none⟩,
    ⟨some 63,.fieldAddr T26 (.tmp 8) 1,t57,p57,e57,none⟩,
    ⟨some 64,.load T22 (.tmp 63),t58,p58,e58,none⟩,
    ⟨some 65,.call ⟨.builtin .copy,#[(.tmp 62),(.tmp 64)],#[T22,T22]⟩,t59,p59,e59,none⟩]⟩ false)
  (.seq (Code.region i14 ⟨[⟨some 66,.fieldAddr T26 (.tmp 9) 1,t60,p60,e60,none⟩,
    ⟨some 67,.load T22 (.tmp 66),t61,p61,e61,none⟩,
    ⟨some 68,.move (.tmp 13),t62,p62,e62,none⟩,
    ⟨some 69,.call ⟨.value (.func f26),#[(.tmp 67),(.tmp 68)],a3⟩,t63,p63,e63,none⟩,
    ⟨some 10,.assign (.tmp 69),t64,p64,e64,none⟩]⟩ false)
  .ret)))
  (.seq (Code.region i15 ⟨[⟨some 71,.binOp .eql T3 (.tmp 49) (.const (.int .i64 10)) T3,t65,p65,e65,none⟩,
    ⟨some 70,.assign (.tmp 71),t66,p66,e66,none⟩]⟩ false)
  (.cond (.tmp 70) (.seq (Code.region i16 ⟨[⟨some 72,.fieldAddr T51 (.tmp 5) 7,t67,p67,e67,none⟩,
    ⟨some 73,.load T29 (.tmp 72),t68,p68,e68,none⟩,
    ⟨some 74,.move (.tmp 1),t69,p69,e69,none⟩,
    ⟨some 75,.move (.tmp 2),t70,p70,e70,none⟩,
    ⟨some 76,.load T26 (.tmp 8),t71,p71,e71,none⟩,
    ⟨some 77,.load T26 (.tmp 9),t72,p72,e72,none⟩,
    ⟨some 78,.call ⟨.value (.func f10),#[(.tmp 73),(.tmp 74),(.tmp 75),(.tmp 76),(.tmp 77)],a4⟩,t73,p73,e73,none⟩,
    ⟨some 10,.assign (.tmp 78),t74,p74,e74,none⟩]⟩ false)
  .ret)
  (.seq (Code.region i17 ⟨[⟨some 80,.binOp .eql T3 (.tmp 49) (.const (.int .i64 11)) T3,t75,p75,e75,none⟩,
    ⟨some 79,.assign (.tmp 80),t76,p76,e76,none⟩]⟩ false)
  (.cond (.tmp 79) (.seq (Code.region i18 ⟨[⟨some 81,.fieldAddr T26 (.tmp 8) 3,t77,p77,e77,none⟩,
    ⟨some 82,.load T23 (.tmp 81),t78,p78,e78,none⟩,
    ⟨some 83,.call ⟨.value (.func f40),#[(.tmp 82)],a5⟩,t79,p79,e79,none⟩,
    ⟨some 14,.assign (.tmp 83),t80,p80,e80,none⟩]⟩ false)
  (.seq (.seq (Code.region i19 ⟨[⟨some 84,.fieldAddr T26 (.tmp 9) 3,t81,p81,e81,none⟩,
    ⟨some 85,.load T23 (.tmp 84),t82,p82,e82,none⟩,
    ⟨some 86,.call ⟨.builtin .len,#[(.tmp 85)],#[T23]⟩,t83,p83,e83,none⟩,
    ⟨some 87,.move (.tmp 14),t84,p84,e84,none⟩,
    ⟨some 88,.call ⟨.builtin .len,#[(.tmp 87)],#[T23]⟩,t85,p85,e85,none⟩,
    ⟨some 89,.binOp .neq T3 (.tmp 86) (.tmp 88) T3,t86,p86,e86,none⟩]⟩ false)
  (.cond (.tmp 89) (.seq (Code.region i20 ⟨[⟨some 10,.assign (.const (.bool false)),t87,p87,e87,none⟩]⟩ false)
  .ret)
  .skip))
  (.seq (Code.region i21 ⟨[⟨some 90,.load T51 (.tmp 5),t88,p88,e88,none⟩,
    ⟨some 15,.alloc T51,t89,p89,e89,none⟩,
    ⟨none,.store T51 (.tmp 15) (.tmp 90),t90,p90,e90,none⟩]⟩ false)
  (.seq (Code.region i22 ⟨[⟨some 91,.fieldAddr T51 (.tmp 5) 6,t91,p91,e91,none⟩,
    ⟨some 92,.load T3 (.tmp 91),t92,p92,e92,none⟩,
    ⟨some 93,.fieldAddr T51 (.tmp 15) 0,t93,p93,e93,none⟩,
    ⟨none,.store T3 (.tmp 93) (.tmp 92),t94,p94,e94,none⟩,
    ⟨some 94,.fieldAddr T51 (.tmp 15) 3,t95,p95,e95,none⟩,
    ⟨none,.store T3 (.tmp 94) (.const (.int .i64 (-1))),t96,p96,e96,none⟩,
    ⟨some 95,.fieldAddr T51 (.tmp 15) 4,t97,p97,e97,none⟩,
    ⟨none,.store T3 (.tmp 95) (.const (.int .i64 (-1))),t98,p98,e98,none⟩]⟩ false)
  (.seq (.seq (Code.region i23 ⟨[⟨some 96,.move (.tmp 14),t99,p99,e99,none⟩,
    ⟨some 97,.call ⟨.builtin .len,#[(.tmp 96)],#[T23]⟩,t100,p100,e100,none⟩,
    ⟨some 98,.move (.const (.int .i64 0)),t101,p101,e101,none⟩]⟩ false)
  (.block 1 (.loop (.seq (Code.region i24 ⟨[⟨some 99,.binOp .lss T3 (.tmp 98) (.tmp 97) T3,t102,p102,e102,none⟩]⟩ false)
  (.seq (.cond (.tmp 99) .skip
  (.exit 1))
  (.seq (.block 2 (.seq (Code.region i25 ⟨[⟨some 100,.move (.tmp 98),t103,p103,e103,none⟩,
    ⟨some 16,.assign (.tmp 100),t104,p104,e104,none⟩]⟩ false)
  (.seq (Code.region i26 ⟨[⟨some 101,.load T51 (.tmp 15),t105,p105,e105,none⟩,
    ⟨some 102,.move (.tmp 1),t106,p106,e106,none⟩,
    ⟨some 103,.move (.tmp 2),t107,p107,e107,none⟩,
    ⟨some 104,.move (.tmp 14),t108,p108,e108,none⟩,
    ⟨some 105,.move (.tmp 16),t109,p109,e109,none⟩,
    ⟨some 106,.indexAddr T23 (.tmp 104) (.tmp 105),t110,p110,e110,none⟩,
    ⟨some 107,.load T26 (.tmp 106),t111,p111,e111,none⟩,
    ⟨some 108,.fieldAddr T26 (.tmp 9) 3,t112,p112,e112,none⟩,
    ⟨some 109,.load T23 (.tmp 108),t113,p113,e113,none⟩,
    ⟨some 110,.move (.tmp 16),t114,p114,e114,none⟩,
    ⟨some 111,.indexAddr T23 (.tmp 109) (.tmp 110),t115,p115,e115,none⟩,
    ⟨some 112,.load T26 (.tmp 111),t116,p116,e116,none⟩,
    ⟨some 113,.call ⟨.value (.func f23),#[(.tmp 101),(.tmp 102),(.tmp 103),(.tmp 107),(.tmp 112)],a6⟩,t117,p117,e117,none⟩,
    ⟨some 114,.unOp .not T4 (.tmp 113),t118,p118,e118,none⟩]⟩ true)
  (.cond (.tmp 114) (.seq (Code.region i27 ⟨[⟨some 10,.assign (.const (.bool false)),t119,p119,e119,none⟩]⟩ false)
  .ret)
  .skip))))
  (Code.region i28 ⟨[⟨some 115,.binOp .add T3 (.tmp 98) (.const (.int .i64 1)) T3,t120,p120,e120,none⟩,
    ⟨some 98,.move (.tmp 115),t121,p121,e121,none⟩]⟩ false)))))))
  (.seq (Code.region i29 ⟨[⟨some 10,.assign (.const (.bool true)),t122,p122,e122,none⟩]⟩ false)
  .ret))))))
  .skip))))))))))
  (.seq (Code.region i30 ⟨[⟨some 116,.fieldAddr T26 (.tmp 9) 0,t123,p123,e123,none⟩,
    ⟨some 117,.load T2 (.tmp 116),t124,p124,e124,none⟩,
    ⟨some 118,.fieldAddr T51 (.tmp 5) 0,t125,p125,e125,none⟩,
    ⟨some 119,.load T3 (.tmp 118),t126,p126,e126,none⟩,
    ⟨some 120,.fieldAddr T26 (.tmp 8) 0,t127,p127,e127,none⟩,
    ⟨some 121,.load T2 (.tmp 120),t128,p128,e128,none⟩,
    ⟨some 122,.call ⟨.value (.func f41),#[(.tmp 119),(.tmp 121)],a7⟩,t129,p129,e129,none⟩,
    ⟨some 123,.binOp .eql T2 (.tmp 117) (.tmp 122) T2,t130,p130,e130,none⟩,
    ⟨some 10,.assign (.tmp 123),t131,p131,e131,none⟩]⟩ true)
  .ret))))))))
    (hs_T22:sliceOf P T22 te 1 1=true) (hz_T22:zeroIs P te [.int .u8 0]) (hFlT51:Flat P T51 zF) (hFlT26:Flat P T26 zT) (hcT3:scal P T3=true) (hcT22:scal P T22=true) (he108:edgeOk 0 [e45,e46,e47,e48,e49,e50,e51] [[],[0],[],[2],[3],[1,4],[0,1,2,3,4,5]]=true) (hmx:P.follows .mixedOrders=true) (he109:edgeOk 0 [e45,e46,e47,e48,e49,e50,e51] [[],[0],[],[2],[3],[1,4],[0,1,2,3,4,5]]=true) (hcT29:scal P T29=true) (hcT23:scal P T23=true) (hsT23:slTy P T23=true) (hs_T23:sliceOf P T23 te5 5 tb5=true) (he26:edgeOk 0 [e105,e106,e107,e108,e109,e110,e111,e112,e113,e114,e115,e116,e117,e118] [[],[],[],[],[],[3,4],[5],[],[7],[],[8,9],[10],[0,1,2,6,11],[12]]=true) (hcT2:scal P T2=true) (he30:edgeOk 0 [e123,e124,e125,e126,e127,e128,e129,e130,e131] [[],[0],[],[2],[],[4],[3,5],[1,6],[0,1,2,3,4,5,6,7]]=true) (hcT4:scal P T4=true) (hbT:boolTy P T4=true) (hNu:NullM P f39) (hWh:WholeM P f27) (hSa:SameM P f26) (hNum:NumM P f41) (hTold:fd.kind=10→ToldM P f10 fd.sub RS) (hTh:ThingsM P f40) (hOne:fd.kind=11→ToldFM P f23 (oneF fd) R1):ToldFM P f fd (TdF fd (TdK fd RS R1)):=by
  refine ⟨enters_of hf hname hbody,?_⟩
  intro w A B C ver flex cs ct cg t g hr ht hg hA hB hC hR
  cases t with
  | mk n s nl l u =>
  cases g with
  | mk gn gs gnl gl gu =>
  have ht0:=ht
  have hg0:=hg
  obtain ⟨sv,lv,uv,rfl,hn,hs,hl,hu⟩:=repT_iff.1 ht
  obtain ⟨gsv,glv,guv,rfl,hgn,hgs,hgl,hgu⟩:=repT_iff.1 hg
  obtain ⟨gq,gcap,rfl,-,-,hge⟩:=hgl.sl2
  obtain ⟨fsv,rfl,hsub⟩:=repF_iff.1 hr
  obtain ⟨hRn,hRv⟩:=hR
  obtain ⟨nu,hnu⟩:∃ b,b=nullW fd.nul ver (.mk n s nl l u):=⟨_,rfl⟩
  rw[← hnu] at hRn hRv
  obtain ⟨may,hmay⟩:∃ b,b=(decide (fd.nul≥0) && decide (ver≥fd.nul)):=⟨_,rfl⟩
  rw[← hmay] at hRn
  simp only[T.nl] at hRn
  refine calls_of_wp hf hbody ?_
  generalize ha0:({ tmps:=#[Value.agg ([.int .i64 fd.kind,.int .i64 fd.fr,.int .i64 fd.to,.int .i64 fd.nul,.int .i64 fd.tag,.int .i64 fd.df,.int .i64 fd.of,fsv]:List Value).toArray,Value.int .i64 ver,Value.bool flex,Value.agg ([.int .i64 n,sv,.bool nl,lv,uv]:List Value).toArray,Value.agg ([.int .i64 gn,gsv,.bool gnl,.slice gq gl.length gcap,guv]:List Value).toArray]++Array.replicate (fn.ntmps - (#[Value.agg ([.int .i64 fd.kind,.int .i64 fd.fr,.int .i64 fd.to,.int .i64 fd.nul,.int .i64 fd.tag,.int .i64 fd.df,.int .i64 fd.of,fsv]:List Value).toArray,Value.int .i64 ver,Value.bool flex,Value.agg ([.int .i64 n,sv,.bool nl,lv,uv]:List Value).toArray,Value.agg ([.int .i64 gn,gsv,.bool gnl,.slice gq gl.length gcap,guv]:List Value).toArray]:Array Value).size) undef,defers:=[] }:Act)=a0
  have hz0:a0.tmps.size=124:=by subst ha0;simp[hN]
  have hd0:a0.defers=[]:=by subst ha0;rfl
  have g0_0:get a0 0 = .agg ([.int .i64 fd.kind,.int .i64 fd.fr,.int .i64 fd.to,.int .i64 fd.nul,.int .i64 fd.tag,.int .i64 fd.df,.int .i64 fd.of,fsv]:List Value).toArray:=by subst ha0;exact gAr rfl
  have g0_1:get a0 1 = .int .i64 ver:=by subst ha0;exact gAr rfl
  have g0_2:get a0 2 = .bool flex:=by subst ha0;exact gAr rfl
  have g0_3:get a0 3 = .agg ([.int .i64 n,sv,.bool nl,lv,uv]:List Value).toArray:=by subst ha0;exact gAr rfl
  have g0_4:get a0 4 = .agg ([.int .i64 gn,gsv,.bool gnl,.slice gq gl.length gcap,guv]:List Value).toArray:=by subst ha0;exact gAr rfl
  refine wT fun K1 hK1=>?_
  refine wC (wp_boxL (cs:=[.int .i64 fd.kind,.int .i64 fd.fr,.int .i64 fd.to,.int .i64 fd.nul,.int .i64 fd.tag,.int .i64 fd.df,.int .i64 fd.of,fsv]) (eK g0_0) ?_)
  rintro w2 f2 sz2 r2 th2
  have hF3:Fr [] w w2:=f2
  refine wC (wp_boxL (cs:=[.int .i64 n,sv,.bool nl,lv,uv]) (eK g0_3) ?_)
  rintro w4 f4 sz4 r4 th4
  have hF5:Fr [] w w4:=hF3.tr f4
  have rb6:=f4.range r2 .nil
  refine wC (wp_boxL (cs:=[.int .i64 gn,gsv,.bool gnl,.slice gq gl.length gcap,guv]) (eK g0_4) ?_)
  rintro w7 f7 sz7 r7 th7
  have hF8:Fr [] w w7:=hF5.tr f7
  have rb9:=f7.range rb6 .nil
  have rb10:=f7.range r4 .nil
  refine wC (wAs (v:=.bool false) rfl ?_)
  refine wEn fun a11 ha11=>?_
  have hz11:=kS ha11 hz0
  have hd11:=kD ha11 hd0
  have g11_0:=kP ha11 g0_0
  have g11_1:=kP ha11 g0_1
  have g11_2:=kP ha11 g0_2
  have g11_3:=kP ha11 g0_3
  have g11_4:=kP ha11 g0_4
  have g11_5:get a11 5 = .pointer (some ⟨w.heap.size,0,none⟩):=kG ha11 hz0
  have g11_8:get a11 8 = .pointer (some ⟨w2.heap.size,0,none⟩):=kG ha11 hz0
  have g11_9:get a11 9 = .pointer (some ⟨w4.heap.size,0,none⟩):=kG ha11 hz0
  have g11_10:get a11 10 = .bool false:=kG ha11 hz0
  have hsz0:w.heap.size+3≤w7.heap.size:=by omega
  refine hK1 a11 w7 (tUp ?_)
  refine wT fun K12 hK12=>?_
  refine wC (wp_loadFlat (cs:=[.int .i64 fd.kind,.int .i64 fd.fr,.int .i64 fd.to,.int .i64 fd.nul,.int .i64 fd.tag,.int .i64 fd.df,.int .i64 fd.of,fsv]) (b:=w.heap.size) (o:=0) hFlT51 rfl (eK g11_5) rb9 ?_)
  refine wC (wMv (v:=.int .i64 ver) (eK g11_1) ?_)
  refine wC (wp_loadFlat (cs:=[.int .i64 n,sv,.bool nl,lv,uv]) (b:=w2.heap.size) (o:=0) hFlT26 rfl (eK g11_8) rb10 ?_)
  refine wC (wCr (R:=fun x wz=>x = .bool nu∧Fr [] w7 wz) (vs:=#[.agg ([.int .i64 fd.kind,.int .i64 fd.fr,.int .i64 fd.to,.int .i64 fd.nul,.int .i64 fd.tag,.int .i64 fd.df,.int .i64 fd.of,fsv]:List Value).toArray,.int .i64 ver,.agg ([.int .i64 n,sv,.bool nl,lv,uv]:List Value).toArray]) hNu.enters (mX3 (eS hz11) (eS hz11) (eS hz11)) ((hNu.call w7 A B _ _ fd (.mk n s nl l u) ver (hr.kept hF8 (by simp) (fun _ h=>h)) (ht0.kept hF8 (by simp) (fun _ h=>h))).mono (by rintro e w' ⟨rfl,hf⟩;exact ⟨_,rfl,by rw[hnu],hf⟩)) ?_)
  rintro x13 w13 ⟨rfl,fr13⟩
  have hF14:Fr [] w w13:=hF8.tr fr13
  have hL14_w7:Fr [] w7 w13:=(Fr.refl [] w7).tr fr13
  have rb15:=fr13.range rb9 .nil
  have rb16:=fr13.range rb10 .nil
  have rb17:=fr13.range r7 .nil
  refine wC (wAs (v:=.bool nu) (eS hz11) ?_)
  refine wEn fun a18 ha18=>?_
  have hz18:=kS ha18 hz11
  have hd18:=kD ha18 hd11
  have g18_0:=kP ha18 g11_0
  have g18_1:=kP ha18 g11_1
  have g18_2:=kP ha18 g11_2
  have g18_3:=kP ha18 g11_3
  have g18_4:=kP ha18 g11_4
  have g18_5:=kP ha18 g11_5
  have g18_8:=kP ha18 g11_8
  have g18_9:=kP ha18 g11_9
  have g18_10:=kP ha18 g11_10
  have g18_11:get a18 11 = .bool nu:=kG ha18 hz11
  refine hK12 a18 w13 (tUp ?_)
  refine tId (wp_seq_k fun K19 hK19=>?_)
  have hJ20:∀ (a':Act) (w':World),(a'.tmps.size=124∧a'.defers=[]∧get a' 0 = .agg ([.int .i64 fd.kind,.int .i64 fd.fr,.int .i64 fd.to,.int .i64 fd.nul,.int .i64 fd.tag,.int .i64 fd.df,.int .i64 fd.of,fsv]:List Value).toArray∧get a' 1 = .int .i64 ver∧get a' 2 = .bool flex∧get a' 3 = .agg ([.int .i64 n,sv,.bool nl,lv,uv]:List Value).toArray∧get a' 4 = .agg ([.int .i64 gn,gsv,.bool gnl,.slice gq gl.length gcap,guv]:List Value).toArray∧get a' 5 = .pointer (some ⟨w.heap.size,0,none⟩)∧get a' 8 = .pointer (some ⟨w2.heap.size,0,none⟩)∧get a' 9 = .pointer (some ⟨w4.heap.size,0,none⟩)∧get a' 10 = .bool false∧get a' 11 = .bool nu∧get a' 12 = .bool may∧w'.rangeAt w.heap.size 0 [.int .i64 fd.kind,.int .i64 fd.fr,.int .i64 fd.to,.int .i64 fd.nul,.int .i64 fd.tag,.int .i64 fd.df,.int .i64 fd.of,fsv]∧w'.rangeAt w2.heap.size 0 [.int .i64 n,sv,.bool nl,lv,uv]∧w'.rangeAt w4.heap.size 0 [.int .i64 gn,gsv,.bool gnl,.slice gq gl.length gcap,guv]∧Fr [] w w'∧w.heap.size+3≤w'.heap.size)→K19 a' w':=by
    rintro a20 w20 ⟨hz20,hd20,g20_0,g20_1,g20_2,g20_3,g20_4,g20_5,g20_8,g20_9,g20_10,g20_11,g20_12,hx2_0,hx2_1,hx2_2,hfl2,hsz2⟩
    refine hK19 a20 w20 (tUp ?_)
    refine tId (wp_seq_k fun K21 hK21=>?_)
    refine wp_seq_k fun K22 hK22=>?_
    have hJ23:∀ (a':Act) (w':World),(a'.tmps.size=124∧a'.defers=[]∧get a' 0 = .agg ([.int .i64 fd.kind,.int .i64 fd.fr,.int .i64 fd.to,.int .i64 fd.nul,.int .i64 fd.tag,.int .i64 fd.df,.int .i64 fd.of,fsv]:List Value).toArray∧get a' 1 = .int .i64 ver∧get a' 2 = .bool flex∧get a' 3 = .agg ([.int .i64 n,sv,.bool nl,lv,uv]:List Value).toArray∧get a' 4 = .agg ([.int .i64 gn,gsv,.bool gnl,.slice gq gl.length gcap,guv]:List Value).toArray∧get a' 5 = .pointer (some ⟨w.heap.size,0,none⟩)∧get a' 8 = .pointer (some ⟨w2.heap.size,0,none⟩)∧get a' 9 = .pointer (some ⟨w4.heap.size,0,none⟩)∧get a' 10 = .bool false∧get a' 11 = .bool nu∧get a' 12 = .bool may∧get a' 46 = .bool false∧w'.rangeAt w.heap.size 0 [.int .i64 fd.kind,.int .i64 fd.fr,.int .i64 fd.to,.int .i64 fd.nul,.int .i64 fd.tag,.int .i64 fd.df,.int .i64 fd.of,fsv]∧w'.rangeAt w2.heap.size 0 [.int .i64 n,sv,.bool nl,lv,uv]∧w'.rangeAt w4.heap.size 0 [.int .i64 gn,gsv,.bool gnl,.slice gq gl.length gcap,guv]∧Fr [] w w'∧w.heap.size+3≤w'.heap.size)→K22 a' w':=by
      rintro a23 w23 ⟨hz23,hd23,g23_0,g23_1,g23_2,g23_3,g23_4,g23_5,g23_8,g23_9,g23_10,g23_11,g23_12,g23_46,hx3_0,hx3_1,hx3_2,hfl3,hsz3⟩
      refine hK22 a23 w23 ?_
      refine wp_cond_split (t:=false) (eK g23_46) (fun h=>by cases h) (fun _=>?_)
      refine wp_skip ?_
      refine hK21 a23 w23 (tUp ?_)
      refine tId (wp_seq_k fun K25 hK25=>?_)
      refine wS fun K26 hK26=>?_
      refine wC (wMv (v:=.bool nu) (eK g23_11) ?_)
      refine wEn fun a27 ha27=>?_
      have hz27:=kS ha27 hz23
      have hd27:=kD ha27 hd23
      have g27_1:=kP ha27 g23_1
      have g27_2:=kP ha27 g23_2
      have g27_5:=kP ha27 g23_5
      have g27_8:=kP ha27 g23_8
      have g27_9:=kP ha27 g23_9
      have g27_10:=kP ha27 g23_10
      have g27_47:get a27 47 = .bool nu:=kG ha27 hz23
      refine hK26 a27 w23 ?_
      refine wp_cond_split (t:=nu) (eK g27_47) (fun hc28=>?_) (fun hc28=>?_)
      · refine wp_seq_k fun K29 hK29 => ?_
        refine wp_reg ?_
        refine wC (wAs (v:=.bool true) rfl ?_)
        refine wEn fun a30 ha30=>?_
        have hz30:=kS ha30 hz27
        have hd30:=kD ha30 hd27
        have g30_10:get a30 10 = .bool true:=kG ha30 hz27
        refine hK29 a30 w23 ?_
        refine wp_ret ?_
        exact ⟨hd30,_,rIs hres g30_10,rfl,hfl3⟩
      · have hnf : nu = false := hc28
        have hV:=hRv hnf
        refine wp_skip ?_
        refine hK25 a27 w23 (tUp ?_)
        refine tId (wp_seq_k fun K31 hK31=>?_)
        refine wS fun K32 hK32=>?_
        refine wC (wFa (b:=w.heap.size) (i:=0) (hFlT51.fld (by decide)) (eK g27_5) ?_)
        rw[show (0+0:Nat)=0 from rfl]
        refine wC (wL0 (j:=0) (v:=.int .i64 fd.kind) hcT3 (eS hz27) hx3_0 rfl ?_)
        refine wEn fun a33 ha33=>?_
        have hz33:=kS ha33 hz27
        have hd33:=kD ha33 hd27
        have g33_1:=kP ha33 g27_1
        have g33_2:=kP ha33 g27_2
        have g33_5:=kP ha33 g27_5
        have g33_8:=kP ha33 g27_8
        have g33_9:=kP ha33 g27_9
        have g33_10:=kP ha33 g27_10
        have g33_49:get a33 49 = .int .i64 fd.kind:=kG ha33 hz27
        refine hK32 a33 w23 ?_
        refine wp_blockT ?_
        refine wp_seq_k fun K34 hK34=>?_
        refine wS fun K35 hK35=>?_
        refine wC (wp_eql (k1:=.i64) (i:=fd.kind) (j:=8) (eK g33_49) rfl ?_)
        refine wC (wAs (v:=.bool ((fd.kind:Int)==(8:Int))) (eS hz33) ?_)
        refine wEn fun a36 ha36=>?_
        have hz36:=kS ha36 hz33
        have hd36:=kD ha36 hd33
        have g36_1:=kP ha36 g33_1
        have g36_2:=kP ha36 g33_2
        have g36_5:=kP ha36 g33_5
        have g36_8:=kP ha36 g33_8
        have g36_9:=kP ha36 g33_9
        have g36_10:=kP ha36 g33_10
        have g36_49:=kP ha36 g33_49
        have g36_50:get a36 50 = .bool ((fd.kind:Int)==(8:Int)):=kG ha36 hz33
        refine hK35 a36 w23 ?_
        refine wp_cond_split (t:=((fd.kind:Int)==(8:Int))) (eK g36_50) (fun hc37=>?_) (fun hc37=>?_)
        · have hk8 : fd.kind = 8 := by simpa using hc37
          rw[hc37] at g36_50
          refine wp_skip ?_
          refine hK34 a36 w23 ?_
          refine wp_cond_split (t:=true) (eK g36_50) (fun _=>?_) (fun h=>by cases h)
          refine wp_seq_k fun K40 hK40=>?_
          have hVs:gs=wholeS s:=by simpa [TdV,T.s,hk8] using hV
          refine wp_drawR (os:=[⟨some 53,.fieldAddr T26 (.tmp 9) 1,t45,p45,e45,none⟩,⟨some 54,.load T22 (.tmp 53),t46,p46,e46,none⟩,⟨some 55,.fieldAddr T26 (.tmp 8) 1,t47,p47,e47,none⟩,⟨some 56,.load T22 (.tmp 55),t48,p48,e48,none⟩,⟨some 57,.call ⟨.value (.func f27),#[(.tmp 56)],a1⟩,t49,p49,e49,none⟩,⟨some 58,.call ⟨.value (.func f26),#[(.tmp 54),(.tmp 57)],a2⟩,t50,p50,e50,none⟩]) (rest:=[⟨some 10,.assign (.tmp 58),t51,p51,e51,none⟩]) [spC [] (.pointer (some ⟨w4.heap.size,1,none⟩)),spC [0] (gsv),spC [] (.pointer (some ⟨w2.heap.size,1,none⟩)),spC [2] (sv),spR [3] (fun x w'=>OctE w' B x (wholeS s)),spR [1,4] (fun x w'=>x = .bool true)] 53 [] hmx he108 (by simp[shape]) (by simp[plainO]) (by simp[spC,spR]) (by simp;omega) ⟨lCc _ _ _,lCc _ _ _,lCc _ _ _,lCc _ _ _,(fun v w1 w2 f h=>OctE.kept h f (by simp) (fun _ h=>h)),(fun v w1 w2 f h=>h),trivial⟩ ?_ ?_
          · refine oCs ?_ ?_
            · refine op_c fun a' w' hk' hf' hd' K' hK' => ?_
              refine wFa (b:=w4.heap.size) (i:=0) (hFlT26.fld (by decide)) (by rw[eTm,hk'.get 9 (by omega),g36_9]) ?_
              rw[show (0+1:Nat)=1 from rfl]
              exact hK'
            refine oCs ?_ ?_
            · refine op_c fun a' w' hk' hf' hd' K' hK' => ?_
              refine wL0 (j:=1) (v:=gsv) hcT22 (by rw[eTm];exact hd'.c (nd':=[]) 0 (by simp) rfl) (hf'.range hx3_2 .nil) rfl ?_
              exact hK'
            refine oCs ?_ ?_
            · refine op_c fun a' w' hk' hf' hd' K' hK' => ?_
              refine wFa (b:=w2.heap.size) (i:=0) (hFlT26.fld (by decide)) (by rw[eTm,hk'.get 8 (by omega),g36_8]) ?_
              rw[show (0+1:Nat)=1 from rfl]
              exact hK'
            refine oCs ?_ ?_
            · refine op_c fun a' w' hk' hf' hd' K' hK' => ?_
              refine wL0 (j:=1) (v:=sv) hcT22 (by rw[eTm];exact hd'.c (nd':=[]) 2 (by simp) rfl) (hf'.range hx3_1 .nil) rfl ?_
              exact hK'
            refine oCs ?_ ?_
            · refine op_r fun a' w' hk' hf' hd' K' hK' => ?_
              refine wCr (R:=fun x wz=>OctE wz B x (wholeS s)∧w'=wz) (vs:=#[sv]) hWh.enters (by simp only[List.map_toArray,List.map_cons,List.map_nil];rw[show a'.eval (.tmp 56)=sv from (by rw[eTm];exact hd'.c (nd':=[2]) 3 (by simp) rfl)]) ((hWh.call w' B sv s (hs.kept (hfl3.tr hf') (by simp) (fun _ h=>h))).mono (by rintro e wz ⟨x,rfl,h1,rfl⟩;exact ⟨x,rfl,h1,rfl⟩)) ?_
              rintro x41 _ ⟨hx41,rfl⟩
              exact hK' x41 _ hx41 (Fr.refl [] _)
            refine oCs ?_ ?_
            · refine op_r fun a' w' hk' hf' hd' K' hK' => ?_
              have hxo:OctE w' B (get a' 57) (wholeS s):=hd'.at (d:=4) (by simp) rfl
              refine wCr (R:=fun x wz=>x = .bool true∧Fr [] w' wz) (vs:=#[gsv,get a' 57]) hSa.enters (by simp only[List.map_toArray,List.map_cons,List.map_nil,eTm];rw[hd'.c (nd':=[0]) 1 (by simp) rfl]) ((hSa.call w' _ _ _ _ _ (by rw[hVs] at hgs;exact hgs.kept (hfl3.tr hf') (by simp) (fun _ h=>h)) hxo).mono (by rintro e wz ⟨rfl,h⟩;exact ⟨_,rfl,rfl,h⟩)) ?_
              rintro _ w42 ⟨rfl,fr42⟩
              exact hK' _ w42 rfl fr42
            exact opsOk_nil
          intro a43 w43 k43 f43 hd_43
          have hz43:a43.tmps.size=124:=k43.size.trans hz36
          have hd43:a43.defers=[]:=k43.defers.trans hd36
          have hF44:Fr [] w w43:=hfl3.tr f43
          have rb45:=f43.range hx3_0 .nil
          have rb46:=f43.range hx3_1 .nil
          have rb47:=f43.range hx3_2 .nil
          have hbt:get a43 58 = .bool true:=hd_43.at (d:=5) (by simp) rfl
          refine wC (wAs (v:=.bool true) (by rw[eTm,hbt]) ?_)
          refine wEn fun a48 ha48=>?_
          have hz48:=kS ha48 hz43
          have hd48:=kD ha48 hd43
          have g48_10:get a48 10 = .bool true:=kG ha48 hz43
          refine hK40 a48 w43 ?_
          refine wp_ret ?_
          exact ⟨hd48,_,rIs hres g48_10,rfl,hF44⟩
        · have hn8 : fd.kind ≠ 8 := by simpa using hc37
          refine wp_reg ?_
          refine wC (wp_eql (k1:=.i64) (i:=fd.kind) (j:=9) (eK g36_49) rfl ?_)
          refine wC (wAs (v:=.bool ((fd.kind:Int)==(9:Int))) (eS hz36) ?_)
          refine wEn fun a49 ha49=>?_
          have hz49:=kS ha49 hz36
          have hd49:=kD ha49 hd36
          have g49_1:=kP ha49 g36_1
          have g49_2:=kP ha49 g36_2
          have g49_5:=kP ha49 g36_5
          have g49_8:=kP ha49 g36_8
          have g49_9:=kP ha49 g36_9
          have g49_10:=kP ha49 g36_10
          have g49_49:=kP ha49 g36_49
          have g49_50:get a49 50 = .bool ((fd.kind:Int)==(9:Int)):=kG ha49 hz36
          refine hK34 a49 w23 ?_
          refine wp_cond_split (t:=((fd.kind:Int)==(9:Int))) (eK g49_50) (fun hc50=>?_) (fun hc50=>?_)
          · have hk9 : fd.kind = 9 := by simpa using hc50
            refine wp_seq_k fun K51 hK51=>?_
            have hVs:gs=wholeS s:=by simpa [TdV,T.s,hn8,hk9] using hV
            refine wp_drawR (os:=[⟨some 53,.fieldAddr T26 (.tmp 9) 1,t45,p45,e45,none⟩,⟨some 54,.load T22 (.tmp 53),t46,p46,e46,none⟩,⟨some 55,.fieldAddr T26 (.tmp 8) 1,t47,p47,e47,none⟩,⟨some 56,.load T22 (.tmp 55),t48,p48,e48,none⟩,⟨some 57,.call ⟨.value (.func f27),#[(.tmp 56)],a1⟩,t49,p49,e49,none⟩,⟨some 58,.call ⟨.value (.func f26),#[(.tmp 54),(.tmp 57)],a2⟩,t50,p50,e50,none⟩]) (rest:=[⟨some 10,.assign (.tmp 58),t51,p51,e51,none⟩]) [spC [] (.pointer (some ⟨w4.heap.size,1,none⟩)),spC [0] (gsv),spC [] (.pointer (some ⟨w2.heap.size,1,none⟩)),spC [2] (sv),spR [3] (fun x w'=>OctE w' B x (wholeS s)),spR [1,4] (fun x w'=>x = .bool true)] 53 [] hmx he109 (by simp[shape]) (by simp[plainO]) (by simp[spC,spR]) (by simp;omega) ⟨lCc _ _ _,lCc _ _ _,lCc _ _ _,lCc _ _ _,(fun v w1 w2 f h=>OctE.kept h f (by simp) (fun _ h=>h)),(fun v w1 w2 f h=>h),trivial⟩ ?_ ?_
            · refine oCs ?_ ?_
              · refine op_c fun a' w' hk' hf' hd' K' hK' => ?_
                refine wFa (b:=w4.heap.size) (i:=0) (hFlT26.fld (by decide)) (by rw[eTm,hk'.get 9 (by omega),g49_9]) ?_
                rw[show (0+1:Nat)=1 from rfl]
                exact hK'
              refine oCs ?_ ?_
              · refine op_c fun a' w' hk' hf' hd' K' hK' => ?_
                refine wL0 (j:=1) (v:=gsv) hcT22 (by rw[eTm];exact hd'.c (nd':=[]) 0 (by simp) rfl) (hf'.range hx3_2 .nil) rfl ?_
                exact hK'
              refine oCs ?_ ?_
              · refine op_c fun a' w' hk' hf' hd' K' hK' => ?_
                refine wFa (b:=w2.heap.size) (i:=0) (hFlT26.fld (by decide)) (by rw[eTm,hk'.get 8 (by omega),g49_8]) ?_
                rw[show (0+1:Nat)=1 from rfl]
                exact hK'
              refine oCs ?_ ?_
              · refine op_c fun a' w' hk' hf' hd' K' hK' => ?_
                refine wL0 (j:=1) (v:=sv) hcT22 (by rw[eTm];exact hd'.c (nd':=[]) 2 (by simp) rfl) (hf'.range hx3_1 .nil) rfl ?_
                exact hK'
              refine oCs ?_ ?_
              · refine op_r fun a' w' hk' hf' hd' K' hK' => ?_
                refine wCr (R:=fun x wz=>OctE wz B x (wholeS s)∧w'=wz) (vs:=#[sv]) hWh.enters (by simp only[List.map_toArray,List.map_cons,List.map_nil];rw[show a'.eval (.tmp 56)=sv from (by rw[eTm];exact hd'.c (nd':=[2]) 3 (by simp) rfl)]) ((hWh.call w' B sv s (hs.kept (hfl3.tr hf') (by simp) (fun _ h=>h))).mono (by rintro e wz ⟨x,rfl,h1,rfl⟩;exact ⟨x,rfl,h1,rfl⟩)) ?_
                rintro x52 _ ⟨hx52,rfl⟩
                exact hK' x52 _ hx52 (Fr.refl [] _)
              refine oCs ?_ ?_
              · refine op_r fun a' w' hk' hf' hd' K' hK' => ?_
                have hxo:OctE w' B (get a' 57) (wholeS s):=hd'.at (d:=4) (by simp) rfl
                refine wCr (R:=fun x wz=>x = .bool true∧Fr [] w' wz) (vs:=#[gsv,get a' 57]) hSa.enters (by simp only[List.map_toArray,List.map_cons,List.map_nil,eTm];rw[hd'.c (nd':=[0]) 1 (by simp) rfl]) ((hSa.call w' _ _ _ _ _ (by rw[hVs] at hgs;exact hgs.kept (hfl3.tr hf') (by simp) (fun _ h=>h)) hxo).mono (by rintro e wz ⟨rfl,h⟩;exact ⟨_,rfl,rfl,h⟩)) ?_
                rintro _ w53 ⟨rfl,fr53⟩
                exact hK' _ w53 rfl fr53
              exact opsOk_nil
            intro a54 w54 k54 f54 hd_54
            have hz54:a54.tmps.size=124:=k54.size.trans hz49
            have hd54:a54.defers=[]:=k54.defers.trans hd49
            have hF55:Fr [] w w54:=hfl3.tr f54
            have rb56:=f54.range hx3_0 .nil
            have rb57:=f54.range hx3_1 .nil
            have rb58:=f54.range hx3_2 .nil
            have hbt:get a54 58 = .bool true:=hd_54.at (d:=5) (by simp) rfl
            refine wC (wAs (v:=.bool true) (by rw[eTm,hbt]) ?_)
            refine wEn fun a59 ha59=>?_
            have hz59:=kS ha59 hz54
            have hd59:=kD ha59 hd54
            have g59_10:get a59 10 = .bool true:=kG ha59 hz54
            refine hK51 a59 w54 ?_
            refine wp_ret ?_
            exact ⟨hd59,_,rIs hres g59_10,rfl,hF55⟩
          · have hn9 : fd.kind ≠ 9 := by simpa using hc50
            refine wS fun K60 hK60=>?_
            refine wC (wp_eql (k1:=.i64) (i:=fd.kind) (j:=7) (eK g49_49) rfl ?_)
            refine wC (wAs (v:=.bool ((fd.kind:Int)==(7:Int))) (eS hz49) ?_)
            refine wEn fun a61 ha61=>?_
            have hz61:=kS ha61 hz49
            have hd61:=kD ha61 hd49
            have g61_1:=kP ha61 g49_1
            have g61_2:=kP ha61 g49_2
            have g61_5:=kP ha61 g49_5
            have g61_8:=kP ha61 g49_8
            have g61_9:=kP ha61 g49_9
            have g61_10:=kP ha61 g49_10
            have g61_49:=kP ha61 g49_49
            have g61_59:get a61 59 = .bool ((fd.kind:Int)==(7:Int)):=kG ha61 hz49
            refine hK60 a61 w23 ?_
            refine wp_cond_split (t:=((fd.kind:Int)==(7:Int))) (eK g61_59) (fun hc62=>?_) (fun hc62=>?_)
            · have hk7 : fd.kind = 7 := by simpa using hc62
              refine wp_seq_k fun K63 hK63=>?_
              have hszq:w.heap.size+3≤w23.heap.size:=Nat.le_trans hsz3 (Fr.refl [] w23).size
              have hFq:Fr [] w w23:=hfl3
              refine wp_reg ?_
              refine wC (wp_make (n:=16) hs_T22 hz_T22 (by decide) (by decide) ?_)
              have fr64:=Fr.alloc [] w23 (.cells (madeCells ([.int .u8 0]:List Value).toArray (16 * 1)) te)
              have rg64:(w23.alloc (.cells (madeCells ([.int .u8 0]:List Value).toArray (16 * 1)) te)).rangeAt w23.heap.size 0 (octets (List.replicate 16 0)):=by rw[made16];simpa using range_new w23 (octets (List.replicate 16 0)).toArray te (0,0)
              have th64:(w23.alloc (.cells (madeCells ([.int .u8 0]:List Value).toArray (16 * 1)) te)).there w23.heap.size 0 16:=by rw[made16];simpa [lOc] using there_new w23 (octets (List.replicate 16 0)).toArray te
              have sz64:=size_alloc w23 (.cells (madeCells ([.int .u8 0]:List Value).toArray (16 * 1)) te)
              generalize w23.alloc (.cells (madeCells ([.int .u8 0]:List Value).toArray (16 * 1)) te)=w64 at fr64 rg64 th64 sz64 ⊢
              have hF65:Fr [] w w64:=hFq.tr fr64
              have rb66:=fr64.range hx3_0 .nil
              have rb67:=fr64.range hx3_1 .nil
              have rb68:=fr64.range hx3_2 .nil
              refine wC (wAs (v:=.slice (some ⟨w23.heap.size,0,none⟩) 16 16) (eS hz61) ?_)
              refine wEn fun a69 ha69=>?_
              have hz69:=kS ha69 hz61
              have hd69:=kD ha69 hd61
              have g69_8:=kP ha69 g61_8
              have g69_9:=kP ha69 g61_9
              have g69_13:get a69 13 = .slice (some ⟨w23.heap.size,0,none⟩) 16 16:=kG ha69 hz61
              refine hK63 a69 w64 ?_
              refine wS fun K70 hK70=>?_
              refine wC (wMv (v:=.slice (some ⟨w23.heap.size,0,none⟩) 16 16) (eK g69_13) ?_)
              refine wC (wFa (b:=w2.heap.size) (i:=0) (hFlT26.fld (by decide)) (eK g69_8) ?_)
              rw[show (0+1:Nat)=1 from rfl]
              refine wC (wL0 (j:=1) (v:=sv) hcT22 (eS hz69) rb67 rfl ?_)
              refine wC (wp_copyU (xs:=s) (b:=w23.heap.size) hs_T22 (eS hz69) (eS hz69) (hs.kept hF65 (by simp) (fun _ h=>h)) rg64 th64 ?_)
              rintro w71 u71 f71 r71
              have hF71:Fr [] w w71:=hF65.trans f71 (fun r hr=>.inl (by simp at hr;subst hr;exact hFq.size))
              have rb72:=f71.range rb66 (.cons (.inl (by simp only;have:=hszq;omega)) .nil)
              have rb73:=f71.range rb67 (.cons (.inl (by simp only;have:=hszq;omega)) .nil)
              have rb74:=f71.range rb68 (.cons (.inl (by simp only;have:=hszq;omega)) .nil)
              refine wEn fun a75 ha75=>?_
              have hz75:=kS ha75 hz69
              have hd75:=kD ha75 hd69
              have g75_9:=kP ha75 g69_9
              have g75_13:=kP ha75 g69_13
              refine hK70 a75 w71 ?_
              refine wS fun K76 hK76=>?_
              refine wC (wFa (b:=w4.heap.size) (i:=0) (hFlT26.fld (by decide)) (eK g75_9) ?_)
              rw[show (0+1:Nat)=1 from rfl]
              refine wC (wL0 (j:=1) (v:=gsv) hcT22 (eS hz75) rb74 rfl ?_)
              refine wC (wMv (v:=.slice (some ⟨w23.heap.size,0,none⟩) 16 16) (eK g75_13) ?_)
              rw[wCo]
              have ho16:OctE w71 (fun b=>b=w23.heap.size) (.slice (some ⟨w23.heap.size,0,none⟩) 16 16) (uuidW s):=.inl ⟨some (uuidW s),.inr ⟨w23.heap.size,0,16,uuidW s,rfl,by rw[uuidW_length],⟨by rw[uuidW_length];exact Nat.le_refl _,by rw[uuidW_length];decide⟩,r71,rfl⟩,rfl⟩
              have hVs:gs=uuidW s:=by simpa [TdV,T.s,hn8,hn9,hk7] using hV
              refine wCr (R:=fun x wz=>x = .bool true∧Fr [] w71 wz) (vs:=#[gsv,.slice (some ⟨w23.heap.size,0,none⟩) 16 16]) hSa.enters (mX2 (eS hz75) (eS hz75)) ((hSa.call w71 _ _ _ _ _ (by rw[hVs] at hgs;exact hgs.kept hF71 (by simp) (fun _ h=>h)) ho16).mono (by rintro e wz ⟨rfl,h⟩;exact ⟨_,rfl,rfl,h⟩)) ?_
              rintro _ w77 ⟨rfl,fr77⟩
              have hF78:Fr [] w w77:=hF71.tr fr77
              have rb79:=fr77.range rb72 .nil
              have rb80:=fr77.range rb73 .nil
              have rb81:=fr77.range rb74 .nil
              refine wC (wAs (v:=.bool true) (eS hz75) ?_)
              refine wEn fun a82 ha82=>?_
              have hz82:=kS ha82 hz75
              have hd82:=kD ha82 hd75
              have g82_10:get a82 10 = .bool true:=kG ha82 hz75
              refine hK76 a82 w77 ?_
              refine wp_ret ?_
              exact ⟨hd82,_,rIs hres g82_10,rfl,hF78⟩
            · have hn7 : fd.kind ≠ 7 := by simpa using hc62
              refine wS fun K83 hK83=>?_
              refine wC (wp_eql (k1:=.i64) (i:=fd.kind) (j:=10) (eK g61_49) rfl ?_)
              refine wC (wAs (v:=.bool ((fd.kind:Int)==(10:Int))) (eS hz61) ?_)
              refine wEn fun a84 ha84=>?_
              have hz84:=kS ha84 hz61
              have hd84:=kD ha84 hd61
              have g84_1:=kP ha84 g61_1
              have g84_2:=kP ha84 g61_2
              have g84_5:=kP ha84 g61_5
              have g84_8:=kP ha84 g61_8
              have g84_9:=kP ha84 g61_9
              have g84_10:=kP ha84 g61_10
              have g84_49:=kP ha84 g61_49
              have g84_70:get a84 70 = .bool ((fd.kind:Int)==(10:Int)):=kG ha84 hz61
              refine hK83 a84 w23 ?_
              refine wp_cond_split (t:=((fd.kind:Int)==(10:Int))) (eK g84_70) (fun hc85=>?_) (fun hc85=>?_)
              · have hk10 : fd.kind = 10 := by simpa using hc85
                have hV2:=(TdV.part (.inl hk10) hV).1 hk10
                refine wS fun K86 hK86=>?_
                refine wC (wFa (b:=w.heap.size) (i:=0) (hFlT51.fld (by decide)) (eK g84_5) ?_)
                rw[show (0+7:Nat)=7 from rfl]
                refine wC (wL0 (j:=7) (v:=fsv) hcT29 (eS hz84) hx3_0 rfl ?_)
                refine wC (wMv (v:=.int .i64 ver) (eK g84_1) ?_)
                refine wC (wMv (v:=.bool flex) (eK g84_2) ?_)
                refine wC (wp_loadFlat (cs:=[.int .i64 n,sv,.bool nl,lv,uv]) (b:=w2.heap.size) (o:=0) hFlT26 rfl (eK g84_8) hx3_1 ?_)
                refine wC (wp_loadFlat (cs:=[.int .i64 gn,gsv,.bool gnl,.slice gq gl.length gcap,guv]) (b:=w4.heap.size) (o:=0) hFlT26 rfl (eK g84_9) hx3_2 ?_)
                refine wC (wCr (R:=fun x wz=>x = .bool true∧Fr [] w23 wz) (vs:=#[fsv,.int .i64 ver,.bool flex,.agg ([.int .i64 n,sv,.bool nl,lv,uv]:List Value).toArray,.agg ([.int .i64 gn,gsv,.bool gnl,.slice gq gl.length gcap,guv]:List Value).toArray]) (hTold hk10).enters (by simp only[List.map_toArray,List.map_cons,List.map_nil];rw[eTm,nZ (by decide),nZ (by decide),nZ (by decide),nZ (by decide),sZ (zZ hz84) (by decide),eTm,nZ (by decide),nZ (by decide),nZ (by decide),sZ (zZ (zZ hz84)) (by decide),eTm,nZ (by decide),nZ (by decide),sZ (zZ (zZ (zZ hz84))) (by decide),eTm,nZ (by decide),sZ (zZ (zZ (zZ (zZ hz84)))) (by decide),eTm,sZ (zZ (zZ (zZ (zZ (zZ hz84))))) (by decide)]) (((hTold hk10).call w23 A B C fsv ver flex _ _ (.mk n s nl l u) (.mk gn gs gnl gl gu) (hsub.kept hfl3 (by simp) (fun _ h=>h)) (ht0.kept hfl3 (by simp) (fun _ h=>h)) (hg0.kept hfl3 (by simp) (fun _ h=>h)) (fun b hb=>Nat.lt_of_lt_of_le (hA b hb) hfl3.size) (fun b hb=>Nat.lt_of_lt_of_le (hB b hb) hfl3.size) (fun b hb=>Nat.lt_of_lt_of_le (hC b hb) hfl3.size) hV2).mono (by rintro e wz ⟨rfl,h⟩;exact ⟨_,rfl,rfl,h⟩)) ?_)
                rintro _ w87 ⟨rfl,fr87⟩
                have hF88:Fr [] w w87:=hfl3.tr fr87
                have rb89:=fr87.range hx3_0 .nil
                have rb90:=fr87.range hx3_1 .nil
                have rb91:=fr87.range hx3_2 .nil
                refine wC (wAs (v:=.bool true) (eS hz84) ?_)
                refine wEn fun a92 ha92=>?_
                have hz92:=kS ha92 hz84
                have hd92:=kD ha92 hd84
                have g92_10:get a92 10 = .bool true:=kG ha92 hz84
                refine hK86 a92 w87 ?_
                refine wp_ret ?_
                exact ⟨hd92,_,rIs hres g92_10,rfl,hF88⟩
              · have hK10 : fd.kind ≠ 10 := by simpa using hc85
                refine wS fun K93 hK93=>?_
                refine wC (wp_eql (k1:=.i64) (i:=fd.kind) (j:=11) (eK g84_49) rfl ?_)
                refine wC (wAs (v:=.bool ((fd.kind:Int)==(11:Int))) (eS hz84) ?_)
                refine wEn fun a94 ha94=>?_
                have hz94:=kS ha94 hz84
                have hd94:=kD ha94 hd84
                have g94_1:=kP ha94 g84_1
                have g94_2:=kP ha94 g84_2
                have g94_5:=kP ha94 g84_5
                have g94_8:=kP ha94 g84_8
                have g94_9:=kP ha94 g84_9
                have g94_10:=kP ha94 g84_10
                have g94_79:get a94 79 = .bool ((fd.kind:Int)==(11:Int)):=kG ha94 hz84
                refine hK93 a94 w23 ?_
                refine wp_cond_split (t:=((fd.kind:Int)==(11:Int))) (eK g94_79) (fun hc95=>?_) (fun hc95=>?_)
                · have hk11 : fd.kind = 11 := by simpa using hc95
                  have hV2:=(TdV.part (.inr hk11) hV).2 hk11
                  refine wp_seq_k fun K96 hK96=>?_
                  have hszq:w.heap.size+3≤w23.heap.size:=Nat.le_trans hsz3 (Fr.refl [] w23).size
                  obtain ⟨hlen,hels⟩:=hV2
                  have hl7:(l.take 32767).length≤32767:=by simp;omega
                  simp only[T.l] at hlen hels
                  refine wp_reg ?_
                  refine wC (wFa (b:=w2.heap.size) (i:=0) (hFlT26.fld (by decide)) (eK g94_8) ?_)
                  rw[show (0+3:Nat)=3 from rfl]
                  refine wC (wL0 (j:=3) (v:=lv) hcT23 (eS hz94) hx3_1 rfl ?_)
                  refine wC (wCr (R:=fun x wz=>Things wz B x (l.take 32767)∧w23=wz) (vs:=#[lv]) hTh.enters (mX1 (eS hz94)) ((hTh.call w23 B lv l (hl.kept hfl3 (by simp) (fun _ h=>h))).mono (by rintro e w' ⟨x,rfl,h1,rfl⟩;exact ⟨x,rfl,h1,rfl⟩)) ?_)
                  rintro x97 _ ⟨hx97,rfl⟩
                  obtain ⟨lq,lcap,rfl,-,-,hle⟩:=hx97.sl2
                  refine wC (wAs (v:=.slice lq ((l.take 32767).length) lcap) (eS hz94) ?_)
                  refine wEn fun a98 ha98=>?_
                  have hz98:=kS ha98 hz94
                  have hd98:=kD ha98 hd94
                  have g98_1:=kP ha98 g94_1
                  have g98_2:=kP ha98 g94_2
                  have g98_5:=kP ha98 g94_5
                  have g98_9:=kP ha98 g94_9
                  have g98_10:=kP ha98 g94_10
                  have g98_14:get a98 14 = .slice lq ((l.take 32767).length) lcap:=kG ha98 hz94
                  refine hK96 a98 w23 ?_
                  refine wp_seq_k fun K99 hK99=>?_
                  refine wS fun K100 hK100=>?_
                  refine wC (wFa (b:=w4.heap.size) (i:=0) (hFlT26.fld (by decide)) (eK g98_9) ?_)
                  rw[show (0+3:Nat)=3 from rfl]
                  refine wC (wL0 (j:=3) (v:=.slice gq gl.length gcap) hcT23 (eS hz98) hx3_2 rfl ?_)
                  refine wC (wp_lenS (n:=gl.length) hsT23 (eS hz98) ?_)
                  refine wC (wMv (v:=.slice lq ((l.take 32767).length) lcap) (eK g98_14) ?_)
                  refine wC (wp_lenS (n:=(l.take 32767).length) hsT23 (eS hz98) ?_)
                  refine wC (wp_neqF (k1:=.i64) (i:=((gl.length:Nat):Int)) (j:=(((l.take 32767).length:Nat):Int)) (by rw[hlen]) (eS hz98) (eS hz98) ?_)
                  refine wEn fun a101 ha101=>?_
                  have hz101:=kS ha101 hz98
                  have hd101:=kD ha101 hd98
                  have g101_1:=kP ha101 g98_1
                  have g101_2:=kP ha101 g98_2
                  have g101_5:=kP ha101 g98_5
                  have g101_9:=kP ha101 g98_9
                  have g101_10:=kP ha101 g98_10
                  have g101_14:=kP ha101 g98_14
                  have g101_89:get a101 89 = .bool false:=kG ha101 hz98
                  refine hK100 a101 w23 ?_
                  refine wp_cond_split (t:=false) (eK g101_89) (fun h=>by cases h) (fun _=>?_)
                  refine wp_skip ?_
                  refine hK99 a101 w23 ?_
                  refine wS fun K103 hK103=>?_
                  refine wC (wp_loadFlat (cs:=[.int .i64 fd.kind,.int .i64 fd.fr,.int .i64 fd.to,.int .i64 fd.nul,.int .i64 fd.tag,.int .i64 fd.df,.int .i64 fd.of,fsv]) (b:=w.heap.size) (o:=0) hFlT51 rfl (eK g101_5) hx3_0 ?_)
                  rw[wCo]
                  have hgs104:=hfl3.size
                  have hgs105:=(Fr.refl [] w23).size
                  refine wp_allocL hFlT51 ?_
                  rintro w106 f106 sz106 r106 th106
                  have hF107:Fr [] w w106:=hfl3.tr f106
                  have hL107_w23:Fr [] w23 w106:=(Fr.refl [] w23).tr f106
                  have rb108:=f106.range hx3_0 .nil
                  have rb109:=f106.range hx3_1 .nil
                  have rb110:=f106.range hx3_2 .nil
                  refine wC (wp_storeL (cs:=[.int .i64 fd.kind,.int .i64 fd.fr,.int .i64 fd.to,.int .i64 fd.nul,.int .i64 fd.tag,.int .i64 fd.df,.int .i64 fd.of,fsv]) (o:=0) hFlT51 rfl (eS hz101) (eS hz101) (by intro u hu;simp at hu;rcases hu with rfl | rfl | rfl | rfl | rfl | rfl | rfl | rfl <;> first | rfl | exact hsub.one) th106 ?_)
                  rintro w111 f111 sz111 r111 th111
                  have hF111:Fr [] w w111:=hF107.trans f111 (fun r hr=>.inl (by simp at hr;subst hr;have:=hfl3.size;simp only;omega))
                  have rb112:=f111.range rb108 (.cons (.inl (by simp only;omega)) .nil)
                  have rb113:=f111.range rb109 (.cons (.inl (by simp only;omega)) .nil)
                  have rb114:=f111.range rb110 (.cons (.inl (by simp only;omega)) .nil)
                  have hL111_w23:Fr [] w23 w111:=hL107_w23.trans f111 (fun r hr=>.inl (by simp at hr;subst hr;have:=(Fr.refl [] w23).size;simp only;omega))
                  refine wEn fun a115 ha115=>?_
                  have hz115:=kS ha115 hz101
                  have hd115:=kD ha115 hd101
                  have g115_1:=kP ha115 g101_1
                  have g115_2:=kP ha115 g101_2
                  have g115_5:=kP ha115 g101_5
                  have g115_9:=kP ha115 g101_9
                  have g115_10:=kP ha115 g101_10
                  have g115_14:=kP ha115 g101_14
                  have g115_15:get a115 15 = .pointer (some ⟨w23.heap.size,0,none⟩):=kG ha115 hz101
                  refine hK103 a115 w111 ?_
                  refine wS fun K116 hK116=>?_
                  refine wC (wFa (b:=w.heap.size) (i:=0) (hFlT51.fld (by decide)) (eK g115_5) ?_)
                  rw[show (0+6:Nat)=6 from rfl]
                  refine wC (wL0 (j:=6) (v:=.int .i64 fd.of) hcT3 (eS hz115) rb112 rfl ?_)
                  refine wC (wFa (b:=w23.heap.size) (i:=0) (hFlT51.fld (by decide)) (eK g115_15) ?_)
                  rw[show (0+0:Nat)=0 from rfl]
                  refine wC (wp_storeK (v:=.int .i64 fd.of) (i:=0) (z:=[.int .i64 fd.kind,.int .i64 fd.fr,.int .i64 fd.to,.int .i64 fd.nul,.int .i64 fd.tag,.int .i64 fd.df,.int .i64 fd.of,fsv]) hcT3 (eS hz115) (eS hz115) rfl (show 0 < 8 by decide) r111 th111 ?_)
                  rintro w117 f117 sz117 r117 th117
                  have hF117:Fr [] w w117:=hF111.trans f117 (fun r hr=>.inl (by simp at hr;subst hr;have:=hfl3.size;simp only;omega))
                  have rb118:=f117.range rb112 (.cons (.inl (by simp only;omega)) .nil)
                  have rb119:=f117.range rb113 (.cons (.inl (by simp only;omega)) .nil)
                  have rb120:=f117.range rb114 (.cons (.inl (by simp only;omega)) .nil)
                  have hL117_w23:Fr [] w23 w117:=hL111_w23.trans f117 (fun r hr=>.inl (by simp at hr;subst hr;have:=(Fr.refl [] w23).size;simp only;omega))
                  have rk117:w117.rangeAt w23.heap.size 0 [.int .i64 fd.of,.int .i64 fd.fr,.int .i64 fd.to,.int .i64 fd.nul,.int .i64 fd.tag,.int .i64 fd.df,.int .i64 fd.of,fsv]:=r117
                  refine wC (wFa (b:=w23.heap.size) (i:=0) (hFlT51.fld (by decide)) (by rw[eTm,pNo,nZ (by decide),nZ (by decide),nZ (by decide),g115_15]) ?_)
                  rw[show (0+3:Nat)=3 from rfl]
                  refine wC (wp_storeK (i:=3) (z:=[.int .i64 fd.of,.int .i64 fd.fr,.int .i64 fd.to,.int .i64 fd.nul,.int .i64 fd.tag,.int .i64 fd.df,.int .i64 fd.of,fsv]) hcT3 (eS hz115) rfl rfl (show 3 < 8 by decide) rk117 th117 ?_)
                  rintro w121 f121 sz121 r121 th121
                  have hF121:Fr [] w w121:=hF117.trans f121 (fun r hr=>.inl (by simp at hr;subst hr;have:=hfl3.size;simp only;omega))
                  have rb122:=f121.range rb118 (.cons (.inl (by simp only;omega)) .nil)
                  have rb123:=f121.range rb119 (.cons (.inl (by simp only;omega)) .nil)
                  have rb124:=f121.range rb120 (.cons (.inl (by simp only;omega)) .nil)
                  have hL121_w23:Fr [] w23 w121:=hL117_w23.trans f121 (fun r hr=>.inl (by simp at hr;subst hr;have:=(Fr.refl [] w23).size;simp only;omega))
                  have rk121:w121.rangeAt w23.heap.size 0 [.int .i64 fd.of,.int .i64 fd.fr,.int .i64 fd.to,.int .i64 (-1),.int .i64 fd.tag,.int .i64 fd.df,.int .i64 fd.of,fsv]:=r121
                  refine wC (wFa (b:=w23.heap.size) (i:=0) (hFlT51.fld (by decide)) (by rw[eTm,pNo,nZ (by decide),pNo,nZ (by decide),nZ (by decide),nZ (by decide),g115_15]) ?_)
                  rw[show (0+4:Nat)=4 from rfl]
                  refine wC (wp_storeK (i:=4) (z:=[.int .i64 fd.of,.int .i64 fd.fr,.int .i64 fd.to,.int .i64 (-1),.int .i64 fd.tag,.int .i64 fd.df,.int .i64 fd.of,fsv]) hcT3 (eS hz115) rfl rfl (show 4 < 8 by decide) rk121 th121 ?_)
                  rintro w125 f125 sz125 r125 th125
                  have hF125:Fr [] w w125:=hF121.trans f125 (fun r hr=>.inl (by simp at hr;subst hr;have:=hfl3.size;simp only;omega))
                  have rb126:=f125.range rb122 (.cons (.inl (by simp only;omega)) .nil)
                  have rb127:=f125.range rb123 (.cons (.inl (by simp only;omega)) .nil)
                  have rb128:=f125.range rb124 (.cons (.inl (by simp only;omega)) .nil)
                  have hL125_w23:Fr [] w23 w125:=hL121_w23.trans f125 (fun r hr=>.inl (by simp at hr;subst hr;have:=(Fr.refl [] w23).size;simp only;omega))
                  have rk125:w125.rangeAt w23.heap.size 0 [.int .i64 fd.of,.int .i64 fd.fr,.int .i64 fd.to,.int .i64 (-1),.int .i64 (-1),.int .i64 fd.df,.int .i64 fd.of,fsv]:=r125
                  refine wEn fun a129 ha129=>?_
                  have hz129:a129.tmps.size=124:=by rw[ha129,pNo,pNo,pNo];exact (zZ (zZ (zZ (zZ (zZ hz115)))))
                  have hd129:a129.defers=[]:=by rw[ha129,pNo,pNo,pNo];exact (dZ (dZ (dZ (dZ (dZ hd115)))))
                  have g129_1:get a129 1 = .int .i64 ver:=by rw[ha129,pNo,pNo,pNo,nZ (by decide),nZ (by decide),nZ (by decide),nZ (by decide),nZ (by decide),g115_1]
                  have g129_2:get a129 2 = .bool flex:=by rw[ha129,pNo,pNo,pNo,nZ (by decide),nZ (by decide),nZ (by decide),nZ (by decide),nZ (by decide),g115_2]
                  have g129_9:get a129 9 = .pointer (some ⟨w4.heap.size,0,none⟩):=by rw[ha129,pNo,pNo,pNo,nZ (by decide),nZ (by decide),nZ (by decide),nZ (by decide),nZ (by decide),g115_9]
                  have g129_10:get a129 10 = .bool false:=by rw[ha129,pNo,pNo,pNo,nZ (by decide),nZ (by decide),nZ (by decide),nZ (by decide),nZ (by decide),g115_10]
                  have g129_14:get a129 14 = .slice lq ((l.take 32767).length) lcap:=by rw[ha129,pNo,pNo,pNo,nZ (by decide),nZ (by decide),nZ (by decide),nZ (by decide),nZ (by decide),g115_14]
                  have g129_15:get a129 15 = .pointer (some ⟨w23.heap.size,0,none⟩):=by rw[ha129,pNo,pNo,pNo,nZ (by decide),nZ (by decide),nZ (by decide),nZ (by decide),nZ (by decide),g115_15]
                  have hone:RepF w A [.int .i64 fd.of,.int .i64 fd.fr,.int .i64 fd.to,.int .i64 (-1),.int .i64 (-1),.int .i64 fd.df,.int .i64 fd.of,fsv] (oneF fd):=repF_iff.2 ⟨fsv,rfl,hsub⟩
                  refine hK116 a129 w125 ?_
                  refine wp_seq_k fun K130 hK130=>?_
                  refine wS fun K131 hK131=>?_
                  refine wC (wMv (v:=.slice lq ((l.take 32767).length) lcap) (eK g129_14) ?_)
                  refine wC (wp_lenS (n:=(l.take 32767).length) hsT23 (eS hz129) ?_)
                  refine wC (wMv (v:=.int .i64 0) rfl ?_)
                  refine wEn fun a132 ha132=>?_
                  have hz132:=kS ha132 hz129
                  have hd132:=kD ha132 hd129
                  have g132_1:=kP ha132 g129_1
                  have g132_2:=kP ha132 g129_2
                  have g132_9:=kP ha132 g129_9
                  have g132_10:=kP ha132 g129_10
                  have g132_14:=kP ha132 g129_14
                  have g132_15:=kP ha132 g129_15
                  have g132_97:get a132 97 = .int .i64 (((l.take 32767).length:Nat):Int):=kG ha132 hz129
                  have g132_98:get a132 98 = .int .i64 0:=kG ha132 hz129
                  refine hK131 a132 w125 ?_
                  refine wp_block (wp_loop_ghost (fun (m:Nat) a' w'=>∃ (j:Nat),a'.tmps.size=124∧a'.defers=[]∧get a' 1 = .int .i64 ver∧get a' 2 = .bool flex∧get a' 9 = .pointer (some ⟨w4.heap.size,0,none⟩)∧get a' 10 = .bool false∧get a' 14 = .slice lq ((l.take 32767).length) lcap∧get a' 15 = .pointer (some ⟨w23.heap.size,0,none⟩)∧get a' 97 = .int .i64 (((l.take 32767).length:Nat):Int)∧get a' 98 = .int .i64 (j:Int)∧j+m=(l.take 32767).length∧w'.rangeAt w4.heap.size 0 [.int .i64 gn,gsv,.bool gnl,.slice gq gl.length gcap,guv]∧w'.rangeAt w23.heap.size 0 [.int .i64 fd.of,.int .i64 fd.fr,.int .i64 fd.to,.int .i64 (-1),.int .i64 (-1),.int .i64 fd.df,.int .i64 fd.of,fsv]∧Fr [] w w'∧Fr [] w23 w') ((l.take 32767).length) ?_ ?_)
                  · exact ⟨0,hz132,hd132,g132_1,g132_2,g132_9,g132_10,g132_14,g132_15,g132_97,g132_98,by omega,rb128,rk125,hF125,hL125_w23⟩
                  · rintro m a133 w133 ⟨j, hz133, hd133, g133_1, g133_2, g133_9, g133_10, g133_14, g133_15, g133_97, g133_98, hjm, hb9, hb15, hfl1, hf18⟩
                    refine wS fun K134 hK134=>?_
                    refine wC (wp_lss (k1:=.i64) (i:=(j:Int)) (j:=(((l.take 32767).length:Nat):Int)) (eK g133_98) (eK g133_97) ?_)
                    refine wEn fun a135 ha135=>?_
                    have hz135:=kS ha135 hz133
                    have hd135:=kD ha135 hd133
                    have g135_1:=kP ha135 g133_1
                    have g135_2:=kP ha135 g133_2
                    have g135_9:=kP ha135 g133_9
                    have g135_10:=kP ha135 g133_10
                    have g135_14:=kP ha135 g133_14
                    have g135_15:=kP ha135 g133_15
                    have g135_97:=kP ha135 g133_97
                    have g135_98:=kP ha135 g133_98
                    have g135_99:get a135 99 = .bool (decide (((j:Int):Int) < ((((l.take 32767).length:Nat):Int):Int))):=kG ha135 hz133
                    refine hK134 a135 w133 ?_
                    refine wp_seq_k fun K136 hK136=>?_
                    refine wp_cond_split (t:=decide (((j:Int):Int) < ((((l.take 32767).length:Nat):Int):Int))) (eK g135_99) (fun hc137=>?_) (fun hc137=>?_)
                    · have hjl : j < (l.take 32767).length := by simpa using hc137
                      obtain ⟨x,hx⟩:∃ x,(l.take 32767)[j]?=some x:=List.getElem?_eq_some_iff.2 ⟨hjl,rfl⟩ |> fun h=>⟨_,h⟩
                      obtain ⟨lb,lo,lc,hlq,hlb,hlr,hlt⟩:=hle j x hx
                      have hgj:j < gl.length:=by omega
                      obtain ⟨y,hy⟩:∃ y,gl[j]?=some y:=⟨gl[j],by simp[hgj]⟩
                      obtain ⟨gb,gol,ec,hgq,hgb,hgr,hgt⟩:=hge j y hy
                      have hel:=hgt.length
                      have hll:=hlt.length
                      have hxy:=hels j x y hx hy
                      refine wp_skip ?_
                      refine hK136 a135 w133 ?_
                      refine wp_seq_k fun K138 hK138=>?_
                      refine wp_blockT ?_
                      refine wS fun K139 hK139=>?_
                      refine wC (wMv (v:=.int .i64 (j:Int)) (eK g135_98) ?_)
                      refine wC (wAs (v:=.int .i64 (j:Int)) (eS hz135) ?_)
                      refine wEn fun a140 ha140=>?_
                      have hz140:=kS ha140 hz135
                      have hd140:=kD ha140 hd135
                      have g140_1:=kP ha140 g135_1
                      have g140_2:=kP ha140 g135_2
                      have g140_9:=kP ha140 g135_9
                      have g140_10:=kP ha140 g135_10
                      have g140_14:=kP ha140 g135_14
                      have g140_15:=kP ha140 g135_15
                      have g140_16:get a140 16 = .int .i64 (j:Int):=kG ha140 hz135
                      have g140_97:=kP ha140 g135_97
                      have g140_98:=kP ha140 g135_98
                      refine hK139 a140 w133 ?_
                      refine wp_seq_k fun K141 hK141=>?_
                      refine wp_drawE0 [spC [] (.agg ([.int .i64 fd.of,.int .i64 fd.fr,.int .i64 fd.to,.int .i64 (-1),.int .i64 (-1),.int .i64 fd.df,.int .i64 fd.of,fsv]:List Value).toArray),spC [] (.int .i64 ver),spC [] (.bool flex),spC [] (.slice lq ((l.take 32767).length) lcap),spC [] (.int .i64 (j:Int)),spC [3,4] (.pointer (some ⟨lb,lo+j * 5,none⟩)),spC [5] (.agg (lc).toArray),spC [] (.pointer (some ⟨w4.heap.size,3,none⟩)),spC [7] (.slice gq gl.length gcap),spC [] (.int .i64 (j:Int)),spC [8,9] (.pointer (some ⟨gb,gol+j * 5,none⟩)),spC [10] (.agg (ec).toArray),spR [0,1,2,6,11] (fun x w'=>x = .bool true),spC [12] (.bool false)] 101 [] hmx he26 (by simp[shape]) (by simp[spC,spR]) (by simp;omega) ⟨lCc _ _ _,lCc _ _ _,lCc _ _ _,lCc _ _ _,lCc _ _ _,lCc _ _ _,lCc _ _ _,lCc _ _ _,lCc _ _ _,lCc _ _ _,lCc _ _ _,lCc _ _ _,(fun v w1 w2 f h=>h),lCc _ _ _,trivial⟩ ?_ ?_
                      · refine oCs ?_ ?_
                        · refine op_c fun a' w' hk' hf' hd' K' hK' => ?_
                          refine wp_loadFlat (cs:=[.int .i64 fd.of,.int .i64 fd.fr,.int .i64 fd.to,.int .i64 (-1),.int .i64 (-1),.int .i64 fd.df,.int .i64 fd.of,fsv]) (b:=w23.heap.size) (o:=0) hFlT51 rfl (by rw[eTm,hk'.get 15 (by omega),g140_15]) (hf'.range hb15 .nil) ?_
                          exact hK'
                        refine oCs ?_ ?_
                        · refine op_c fun a' w' hk' hf' hd' K' hK' => ?_
                          refine wMv (v:=.int .i64 ver) (by rw[eTm,hk'.get 1 (by omega),g140_1]) ?_
                          exact hK'
                        refine oCs ?_ ?_
                        · refine op_c fun a' w' hk' hf' hd' K' hK' => ?_
                          refine wMv (v:=.bool flex) (by rw[eTm,hk'.get 2 (by omega),g140_2]) ?_
                          exact hK'
                        refine oCs ?_ ?_
                        · refine op_c fun a' w' hk' hf' hd' K' hK' => ?_
                          refine wMv (v:=.slice lq ((l.take 32767).length) lcap) (by rw[eTm,hk'.get 14 (by omega),g140_14]) ?_
                          exact hK'
                        refine oCs ?_ ?_
                        · refine op_c fun a' w' hk' hf' hd' K' hK' => ?_
                          refine wMv (v:=.int .i64 (j:Int)) (by rw[eTm,hk'.get 16 (by omega),g140_16]) ?_
                          exact hK'
                        refine oCs ?_ ?_
                        · refine op_c fun a' w' hk' hf' hd' K' hK' => ?_
                          refine wp_ixN (b:=lb) (o:=lo) (i:=j) hs_T23 (by rw[eTm,← hlq];exact hd'.c (nd':=[]) 3 (by simp) rfl) (by rw[eTm];exact hd'.c (nd':=[]) 4 (by simp) rfl) hjl ?_
                          exact hK'
                        refine oCs ?_ ?_
                        · refine op_c fun a' w' hk' hf' hd' K' hK' => ?_
                          refine wp_loadFlat (cs:=lc) (b:=lb) (o:=lo+j * 5) hFlT26 hll (by rw[eTm];exact hd'.c (nd':=[3,4]) 5 (by simp) rfl) ((hf18.tr hf').range hlr .nil) ?_
                          exact hK'
                        refine oCs ?_ ?_
                        · refine op_c fun a' w' hk' hf' hd' K' hK' => ?_
                          refine wFa (b:=w4.heap.size) (i:=0) (hFlT26.fld (by decide)) (by rw[eTm,hk'.get 9 (by omega),g140_9]) ?_
                          rw[show (0+3:Nat)=3 from rfl]
                          exact hK'
                        refine oCs ?_ ?_
                        · refine op_c fun a' w' hk' hf' hd' K' hK' => ?_
                          refine wL0 (j:=3) (v:=.slice gq gl.length gcap) hcT23 (by rw[eTm];exact hd'.c (nd':=[]) 7 (by simp) rfl) (hf'.range hb9 .nil) rfl ?_
                          exact hK'
                        refine oCs ?_ ?_
                        · refine op_c fun a' w' hk' hf' hd' K' hK' => ?_
                          refine wMv (v:=.int .i64 (j:Int)) (by rw[eTm,hk'.get 16 (by omega),g140_16]) ?_
                          exact hK'
                        refine oCs ?_ ?_
                        · refine op_c fun a' w' hk' hf' hd' K' hK' => ?_
                          refine wp_ixN (b:=gb) (o:=gol) (i:=j) hs_T23 (by rw[eTm,← hgq];exact hd'.c (nd':=[7]) 8 (by simp) rfl) (by rw[eTm];exact hd'.c (nd':=[]) 9 (by simp) rfl) hgj ?_
                          exact hK'
                        refine oCs ?_ ?_
                        · refine op_c fun a' w' hk' hf' hd' K' hK' => ?_
                          refine wp_loadFlat (cs:=ec) (b:=gb) (o:=gol+j * 5) hFlT26 hel (by rw[eTm];exact hd'.c (nd':=[8,9]) 10 (by simp) rfl) ((hfl1.tr hf').range hgr .nil) ?_
                          exact hK'
                        refine oCs ?_ ?_
                        · refine op_r fun a' w' hk' hf' hd' K' hK' => ?_
                          refine wCr (R:=fun x wz=>x = .bool true∧Fr [] w' wz) (vs:=#[.agg ([.int .i64 fd.of,.int .i64 fd.fr,.int .i64 fd.to,.int .i64 (-1),.int .i64 (-1),.int .i64 fd.df,.int .i64 fd.of,fsv]:List Value).toArray,.int .i64 ver,.bool flex,.agg (lc).toArray,.agg (ec).toArray]) (hOne hk11).enters (by simp only[List.map_toArray,List.map_cons,List.map_nil];rw[show a'.eval (.tmp 101)=Value.agg ([.int .i64 fd.of,.int .i64 fd.fr,.int .i64 fd.to,.int .i64 (-1),.int .i64 (-1),.int .i64 fd.df,.int .i64 fd.of,fsv]:List Value).toArray from (by rw[eTm];exact hd'.c (nd':=[]) 0 (by simp) rfl),show a'.eval (.tmp 102)=Value.int .i64 ver from (by rw[eTm];exact hd'.c (nd':=[]) 1 (by simp) rfl),show a'.eval (.tmp 103)=Value.bool flex from (by rw[eTm];exact hd'.c (nd':=[]) 2 (by simp) rfl),show a'.eval (.tmp 107)=Value.agg (lc).toArray from (by rw[eTm];exact hd'.c (nd':=[5]) 6 (by simp) rfl),show a'.eval (.tmp 112)=Value.agg (ec).toArray from (by rw[eTm];exact hd'.c (nd':=[10]) 11 (by simp) rfl)]) (((hOne hk11).call w' A B C ver flex _ _ ec x y (hone.kept (hfl1.tr hf') (by simp) (fun _ h=>h)) (hlt.kept (hf18.tr hf') (by simp) (fun _ h=>h)) (hgt.kept (hfl1.tr hf') (by simp) (fun _ h=>h)) (fun b hb=>Nat.lt_of_lt_of_le (hA b hb) (hfl1.tr hf').size) (fun b hb=>Nat.lt_of_lt_of_le (hB b hb) (hfl1.tr hf').size) (fun b hb=>Nat.lt_of_lt_of_le (hC b hb) (hfl1.tr hf').size) hxy).mono (by rintro e wz ⟨rfl,h⟩;exact ⟨_,rfl,rfl,h⟩)) ?_
                          rintro _ w142 ⟨rfl,fr142⟩
                          exact hK' _ w142 rfl fr142
                        refine oCs ?_ ?_
                        · refine op_c fun a' w' hk' hf' hd' K' hK' => ?_
                          have hbt:get a' 113 = .bool true:=hd'.at (d:=12) (by simp) rfl
                          refine wp_not (b:=true) (by rw[eTm];exact hbt) ?_
                          rw[show (!true)=false from rfl]
                          exact hK'
                        exact opsOk_nil
                      intro a143 w143 k143 f143 hd_143
                      have g143_1:get a143 1 = .int .i64 ver:=by rw[k143.get 1 (by omega),g140_1]
                      have g143_2:get a143 2 = .bool flex:=by rw[k143.get 2 (by omega),g140_2]
                      have g143_9:get a143 9 = .pointer (some ⟨w4.heap.size,0,none⟩):=by rw[k143.get 9 (by omega),g140_9]
                      have g143_10:get a143 10 = .bool false:=by rw[k143.get 10 (by omega),g140_10]
                      have g143_14:get a143 14 = .slice lq ((l.take 32767).length) lcap:=by rw[k143.get 14 (by omega),g140_14]
                      have g143_15:get a143 15 = .pointer (some ⟨w23.heap.size,0,none⟩):=by rw[k143.get 15 (by omega),g140_15]
                      have g143_97:get a143 97 = .int .i64 (((l.take 32767).length:Nat):Int):=by rw[k143.get 97 (by omega),g140_97]
                      have g143_98:get a143 98 = .int .i64 (j:Int):=by rw[k143.get 98 (by omega),g140_98]
                      have hz143:a143.tmps.size=124:=k143.size.trans hz140
                      have hd143:a143.defers=[]:=k143.defers.trans hd140
                      have g143_114:get a143 114 = .bool false:=hd_143.c (nd':=[12]) 13 (by simp) rfl
                      have hF144:Fr [] w w143:=hfl1.tr f143
                      have hL144_w23:Fr [] w23 w143:=hf18.tr f143
                      have rb145:=f143.range hb9 .nil
                      have rb146:=f143.range hb15 .nil
                      refine hK141 a143 w143 ?_
                      refine wp_cond_split (t:=false) (eK g143_114) (fun h=>by cases h) (fun _=>?_)
                      refine wp_skip ?_
                      refine hK138 a143 w143 ?_
                      refine wp_reg ?_
                      refine wC (wp_add (k1:=.i64) (i:=(j:Int)) (j:=1) (eK g143_98) rfl ?_)
                      rw[show (IntKind.i64.wrap (((j:Int):Int)+(1:Int)):Int)=(((j+1:Nat):Int):Int) from by simp only[IntKind.wrap,IntKind.bits,IntKind.signed];simp;omega]
                      refine wC (wMv (v:=.int .i64 ((j+1:Nat):Int)) (eS hz143) ?_)
                      refine wEn fun a148 ha148=>?_
                      have hz148:=kS ha148 hz143
                      have hd148:=kD ha148 hd143
                      have g148_1:=kP ha148 g143_1
                      have g148_2:=kP ha148 g143_2
                      have g148_9:=kP ha148 g143_9
                      have g148_10:=kP ha148 g143_10
                      have g148_14:=kP ha148 g143_14
                      have g148_15:=kP ha148 g143_15
                      have g148_97:=kP ha148 g143_97
                      have g148_98:get a148 98 = .int .i64 ((j+1:Nat):Int):=kG ha148 hz143
                      exact ⟨m - 1,by omega,j+1,hz148,hd148,g148_1,g148_2,g148_9,g148_10,g148_14,g148_15,g148_97,g148_98,by omega,rb145,rb146,hF144,hL144_w23⟩
                    · refine wp_exit ?_
                      show K130 a135 w133
                      refine hK130 a135 w133 ?_
                      refine wS fun K149 hK149=>?_
                      refine wC (wAs (v:=.bool true) rfl ?_)
                      refine wEn fun a150 ha150=>?_
                      have hz150:=kS ha150 hz135
                      have hd150:=kD ha150 hd135
                      have g150_10:get a150 10 = .bool true:=kG ha150 hz135
                      refine hK149 a150 w133 ?_
                      refine wp_ret ?_
                      exact ⟨hd150,_,rIs hres g150_10,rfl,hfl1⟩
                · have hK11 : fd.kind ≠ 11 := by simpa using hc95
                  refine wp_skip ?_
                  refine hK31 a94 w23 (tUp ?_)
                  refine tId (wp_seq_k fun K151 hK151=>?_)
                  have hVn:gn=numW fd.kind n:=by simpa [TdV,T.n,hn8,hn9,hn7,hK10,hK11] using hV
                  refine wp_drawR (os:=[⟨some 116,.fieldAddr T26 (.tmp 9) 0,t123,p123,e123,none⟩,⟨some 117,.load T2 (.tmp 116),t124,p124,e124,none⟩,⟨some 118,.fieldAddr T51 (.tmp 5) 0,t125,p125,e125,none⟩,⟨some 119,.load T3 (.tmp 118),t126,p126,e126,none⟩,⟨some 120,.fieldAddr T26 (.tmp 8) 0,t127,p127,e127,none⟩,⟨some 121,.load T2 (.tmp 120),t128,p128,e128,none⟩,⟨some 122,.call ⟨.value (.func f41),#[(.tmp 119),(.tmp 121)],a7⟩,t129,p129,e129,none⟩,⟨some 123,.binOp .eql T2 (.tmp 117) (.tmp 122) T2,t130,p130,e130,none⟩]) (rest:=[⟨some 10,.assign (.tmp 123),t131,p131,e131,none⟩]) [spC [] (.pointer (some ⟨w4.heap.size,0,none⟩)),spC [0] (.int .i64 gn),spC [] (.pointer (some ⟨w.heap.size,0,none⟩)),spC [2] (.int .i64 fd.kind),spC [] (.pointer (some ⟨w2.heap.size,0,none⟩)),spC [4] (.int .i64 n),spC [3,5] (.int .i64 (numW fd.kind n)),spC [1,6] (.bool true)] 116 [] hmx he30 (by simp[shape]) (by simp[plainO]) (by simp[spC,spR]) (by simp;omega) ⟨lCc _ _ _,lCc _ _ _,lCc _ _ _,lCc _ _ _,lCc _ _ _,lCc _ _ _,lCc _ _ _,lCc _ _ _,trivial⟩ ?_ ?_
                  · refine oCs ?_ ?_
                    · refine op_c fun a' w' hk' hf' hd' K' hK' => ?_
                      refine wFa (b:=w4.heap.size) (i:=0) (hFlT26.fld (by decide)) (by rw[eTm,hk'.get 9 (by omega),g94_9]) ?_
                      rw[show (0+0:Nat)=0 from rfl]
                      exact hK'
                    refine oCs ?_ ?_
                    · refine op_c fun a' w' hk' hf' hd' K' hK' => ?_
                      refine wL0 (j:=0) (v:=.int .i64 gn) hcT2 (by rw[eTm];exact hd'.c (nd':=[]) 0 (by simp) rfl) (hf'.range hx3_2 .nil) rfl ?_
                      exact hK'
                    refine oCs ?_ ?_
                    · refine op_c fun a' w' hk' hf' hd' K' hK' => ?_
                      refine wFa (b:=w.heap.size) (i:=0) (hFlT51.fld (by decide)) (by rw[eTm,hk'.get 5 (by omega),g94_5]) ?_
                      rw[show (0+0:Nat)=0 from rfl]
                      exact hK'
                    refine oCs ?_ ?_
                    · refine op_c fun a' w' hk' hf' hd' K' hK' => ?_
                      refine wL0 (j:=0) (v:=.int .i64 fd.kind) hcT3 (by rw[eTm];exact hd'.c (nd':=[]) 2 (by simp) rfl) (hf'.range hx3_0 .nil) rfl ?_
                      exact hK'
                    refine oCs ?_ ?_
                    · refine op_c fun a' w' hk' hf' hd' K' hK' => ?_
                      refine wFa (b:=w2.heap.size) (i:=0) (hFlT26.fld (by decide)) (by rw[eTm,hk'.get 8 (by omega),g94_8]) ?_
                      rw[show (0+0:Nat)=0 from rfl]
                      exact hK'
                    refine oCs ?_ ?_
                    · refine op_c fun a' w' hk' hf' hd' K' hK' => ?_
                      refine wL0 (j:=0) (v:=.int .i64 n) hcT2 (by rw[eTm];exact hd'.c (nd':=[]) 4 (by simp) rfl) (hf'.range hx3_1 .nil) rfl ?_
                      exact hK'
                    refine oCs ?_ ?_
                    · refine op_c fun a' w' hk' hf' hd' K' hK' => ?_
                      refine wCr (R:=fun x wz=>x = .int .i64 (numW fd.kind n)∧wz=w') (vs:=#[.int .i64 fd.kind,.int .i64 n]) hNum.enters (by simp only[List.map_toArray,List.map_cons,List.map_nil];rw[show a'.eval (.tmp 119)=Value.int .i64 fd.kind from (by rw[eTm];exact hd'.c (nd':=[2]) 3 (by simp) rfl),show a'.eval (.tmp 121)=Value.int .i64 n from (by rw[eTm];exact hd'.c (nd':=[4]) 5 (by simp) rfl)]) ((hNum.call w' fd.kind n).mono (by rintro e wz ⟨rfl,rfl⟩;exact ⟨_,rfl,rfl,rfl⟩)) ?_
                      rintro _ _ ⟨rfl,rfl⟩
                      exact hK'
                    refine oCs ?_ ?_
                    · refine op_c fun a' w' hk' hf' hd' K' hK' => ?_
                      refine wp_eqlT (k1:=.i64) (i:=gn) (j:=numW fd.kind n) (by exact hVn) (by rw[eTm];exact hd'.c (nd':=[0]) 1 (by simp) rfl) (by rw[eTm];exact hd'.c (nd':=[3,5]) 6 (by simp) rfl) ?_
                      exact hK'
                    exact opsOk_nil
                  intro a152 w152 k152 f152 hd_152
                  have hz152:a152.tmps.size=124:=k152.size.trans hz94
                  have hd152:a152.defers=[]:=k152.defers.trans hd94
                  have g152_123:get a152 123 = .bool true:=hd_152.c (nd':=[1,6]) 7 (by simp) rfl
                  have hF153:Fr [] w w152:=hfl3.tr f152
                  have rb154:=f152.range hx3_0 .nil
                  have rb155:=f152.range hx3_1 .nil
                  have rb156:=f152.range hx3_2 .nil
                  refine wC (wAs (v:=.bool true) (eK g152_123) ?_)
                  refine wEn fun a157 ha157=>?_
                  have hz157:=kS ha157 hz152
                  have hd157:=kD ha157 hd152
                  have g157_10:get a157 10 = .bool true:=kG ha157 hz152
                  refine hK151 a157 w152 (tUp ?_)
                  refine wp_ret ?_
                  exact ⟨hd157,_,rIs hres g157_10,rfl,hF153⟩
    by_cases h8:fd.kind=8
    · have hgn2 : gnl = nu := hRn (.inl h8)
      refine wp_regG ?_
      refine gCn ?_
      refine wFa (b:=w.heap.size) (i:=0) (hFlT51.fld (by decide)) (eK g20_5) ?_
      rw[show (0+0:Nat)=0 from rfl]
      refine gCn ?_
      refine wL0 (j:=0) (v:=.int .i64 fd.kind) hcT3 (eS hz20) hx2_0 rfl ?_
      refine gCn ?_
      refine wp_eqlT (k1:=.i64) (i:=fd.kind) (j:=8) (by exact h8) (eS hz20) rfl ?_
      refine gCn ?_
      refine wMv (v:=.bool true) (eS hz20) ?_
      refine wg_noF (dj:=33) rfl (lZ hz20) (gS hz20) ?_
      refine wg_noF (dj:=33) rfl (lZ hz20) (gS hz20) ?_
      refine wg_noF (dj:=33) rfl (lZ hz20) (gS hz20) ?_
      refine gCn ?_
      refine wp_pickYes (v:=.bool true) (eS hz20) rfl ?_
      refine gCn ?_
      refine wMv (v:=.bool true) (eS hz20) ?_
      refine wg_noF (dj:=38) rfl (lZ hz20) (gS hz20) ?_
      refine gCn ?_
      refine wp_pickYes (v:=.bool true) (eS hz20) rfl ?_
      refine gCn ?_
      refine wMv (v:=.bool true) (eS hz20) ?_
      refine wg_yes (dj:=41) rfl (lZ hz20) (gS hz20) ?_
      refine wFa (b:=w4.heap.size) (i:=0) (hFlT26.fld (by decide)) (eK g20_9) ?_
      rw[show (0+2:Nat)=2 from rfl]
      refine wg_yes (dj:=41) rfl (lZ hz20) (gS hz20) ?_
      refine wL0 (j:=2) (v:=.bool gnl) hcT4 (eS hz20) hx2_2 rfl ?_
      refine wg_yes (dj:=41) rfl (lZ hz20) (gS hz20) ?_
      refine wMv (v:=.bool nu) (eK g20_11) ?_
      refine wg_yes (dj:=41) rfl (lZ hz20) (gS hz20) ?_
      refine wp_neqBool (i:=gnl) (j:=nu) hbT (eS hz20) (eS hz20) ?_
      rw[show (!(gnl==nu))=false from by rw[hgn2];simp]
      refine gCn ?_
      refine wp_pickYes (v:=.bool false) (eS hz20) (eS hz20) ?_
      refine wg_end fun a158 ha158=>?_
      have hz158:=kS ha158 hz20
      have hd158:=kD ha158 hd20
      have g158_0:=kP ha158 g20_0
      have g158_1:=kP ha158 g20_1
      have g158_2:=kP ha158 g20_2
      have g158_3:=kP ha158 g20_3
      have g158_4:=kP ha158 g20_4
      have g158_5:=kP ha158 g20_5
      have g158_8:=kP ha158 g20_8
      have g158_9:=kP ha158 g20_9
      have g158_10:=kP ha158 g20_10
      have g158_11:=kP ha158 g20_11
      have g158_12:=kP ha158 g20_12
      have g158_46:get a158 46 = .bool false:=kG ha158 hz20
      exact hJ23 a158 w20 ⟨hz158,hd158,g158_0,g158_1,g158_2,g158_3,g158_4,g158_5,g158_8,g158_9,g158_10,g158_11,g158_12,g158_46,hx2_0,hx2_1,hx2_2,hfl2,Nat.le_trans hsz2 (Fr.refl [] w20).size⟩
    · by_cases h10 : fd.kind = 10
      · have hgn2 : gnl = nu := hRn (.inr (.inl h10))
        refine wp_regG ?_
        refine gCn ?_
        refine wFa (b:=w.heap.size) (i:=0) (hFlT51.fld (by decide)) (eK g20_5) ?_
        rw[show (0+0:Nat)=0 from rfl]
        refine gCn ?_
        refine wL0 (j:=0) (v:=.int .i64 fd.kind) hcT3 (eS hz20) hx2_0 rfl ?_
        refine gCn ?_
        refine wp_eqlF (k1:=.i64) (i:=fd.kind) (j:=8) (by exact h8) (eS hz20) rfl ?_
        refine gCn ?_
        refine wMv (v:=.bool false) (eS hz20) ?_
        refine wg_yes (dj:=33) rfl (lZ hz20) (gS hz20) ?_
        refine wFa (b:=w.heap.size) (i:=0) (hFlT51.fld (by decide)) (eK g20_5) ?_
        rw[show (0+0:Nat)=0 from rfl]
        refine wg_yes (dj:=33) rfl (lZ hz20) (gS hz20) ?_
        refine wL0 (j:=0) (v:=.int .i64 fd.kind) hcT3 (eS hz20) hx2_0 rfl ?_
        refine wg_yes (dj:=33) rfl (lZ hz20) (gS hz20) ?_
        refine wp_eqlT (k1:=.i64) (i:=fd.kind) (j:=10) (by exact h10) (eS hz20) rfl ?_
        refine gCn ?_
        refine wp_pickNo (v:=.bool true) (eS hz20) (eS hz20) ?_
        refine gCn ?_
        refine wMv (v:=.bool true) (eS hz20) ?_
        refine wg_noF (dj:=38) rfl (lZ hz20) (gS hz20) ?_
        refine gCn ?_
        refine wp_pickYes (v:=.bool true) (eS hz20) rfl ?_
        refine gCn ?_
        refine wMv (v:=.bool true) (eS hz20) ?_
        refine wg_yes (dj:=41) rfl (lZ hz20) (gS hz20) ?_
        refine wFa (b:=w4.heap.size) (i:=0) (hFlT26.fld (by decide)) (eK g20_9) ?_
        rw[show (0+2:Nat)=2 from rfl]
        refine wg_yes (dj:=41) rfl (lZ hz20) (gS hz20) ?_
        refine wL0 (j:=2) (v:=.bool gnl) hcT4 (eS hz20) hx2_2 rfl ?_
        refine wg_yes (dj:=41) rfl (lZ hz20) (gS hz20) ?_
        refine wMv (v:=.bool nu) (eK g20_11) ?_
        refine wg_yes (dj:=41) rfl (lZ hz20) (gS hz20) ?_
        refine wp_neqBool (i:=gnl) (j:=nu) hbT (eS hz20) (eS hz20) ?_
        rw[show (!(gnl==nu))=false from by rw[hgn2];simp]
        refine gCn ?_
        refine wp_pickYes (v:=.bool false) (eS hz20) (eS hz20) ?_
        refine wg_end fun a159 ha159=>?_
        have hz159:=kS ha159 hz20
        have hd159:=kD ha159 hd20
        have g159_0:=kP ha159 g20_0
        have g159_1:=kP ha159 g20_1
        have g159_2:=kP ha159 g20_2
        have g159_3:=kP ha159 g20_3
        have g159_4:=kP ha159 g20_4
        have g159_5:=kP ha159 g20_5
        have g159_8:=kP ha159 g20_8
        have g159_9:=kP ha159 g20_9
        have g159_10:=kP ha159 g20_10
        have g159_11:=kP ha159 g20_11
        have g159_12:=kP ha159 g20_12
        have g159_46:get a159 46 = .bool false:=kG ha159 hz20
        exact hJ23 a159 w20 ⟨hz159,hd159,g159_0,g159_1,g159_2,g159_3,g159_4,g159_5,g159_8,g159_9,g159_10,g159_11,g159_12,g159_46,hx2_0,hx2_1,hx2_2,hfl2,Nat.le_trans hsz2 (Fr.refl [] w20).size⟩
      · cases may with
        | true =>
          have hgn2:gnl=nu:=hRn (.inr (.inr rfl))
          refine wp_regG ?_
          refine gCn ?_
          refine wFa (b:=w.heap.size) (i:=0) (hFlT51.fld (by decide)) (eK g20_5) ?_
          rw[show (0+0:Nat)=0 from rfl]
          refine gCn ?_
          refine wL0 (j:=0) (v:=.int .i64 fd.kind) hcT3 (eS hz20) hx2_0 rfl ?_
          refine gCn ?_
          refine wp_eqlF (k1:=.i64) (i:=fd.kind) (j:=8) (by exact h8) (eS hz20) rfl ?_
          refine gCn ?_
          refine wMv (v:=.bool false) (eS hz20) ?_
          refine wg_yes (dj:=33) rfl (lZ hz20) (gS hz20) ?_
          refine wFa (b:=w.heap.size) (i:=0) (hFlT51.fld (by decide)) (eK g20_5) ?_
          rw[show (0+0:Nat)=0 from rfl]
          refine wg_yes (dj:=33) rfl (lZ hz20) (gS hz20) ?_
          refine wL0 (j:=0) (v:=.int .i64 fd.kind) hcT3 (eS hz20) hx2_0 rfl ?_
          refine wg_yes (dj:=33) rfl (lZ hz20) (gS hz20) ?_
          refine wp_eqlF (k1:=.i64) (i:=fd.kind) (j:=10) (by exact h10) (eS hz20) rfl ?_
          refine gCn ?_
          refine wp_pickNo (v:=.bool false) (eS hz20) (eS hz20) ?_
          refine gCn ?_
          refine wMv (v:=.bool false) (eS hz20) ?_
          refine wg_yes (dj:=38) rfl (lZ hz20) (gS hz20) ?_
          refine wMv (v:=.bool true) (eK g20_12) ?_
          refine gCn ?_
          refine wp_pickNo (v:=.bool true) (eS hz20) (eS hz20) ?_
          refine gCn ?_
          refine wMv (v:=.bool true) (eS hz20) ?_
          refine wg_yes (dj:=41) rfl (lZ hz20) (gS hz20) ?_
          refine wFa (b:=w4.heap.size) (i:=0) (hFlT26.fld (by decide)) (eK g20_9) ?_
          rw[show (0+2:Nat)=2 from rfl]
          refine wg_yes (dj:=41) rfl (lZ hz20) (gS hz20) ?_
          refine wL0 (j:=2) (v:=.bool gnl) hcT4 (eS hz20) hx2_2 rfl ?_
          refine wg_yes (dj:=41) rfl (lZ hz20) (gS hz20) ?_
          refine wMv (v:=.bool nu) (eK g20_11) ?_
          refine wg_yes (dj:=41) rfl (lZ hz20) (gS hz20) ?_
          refine wp_neqBool (i:=gnl) (j:=nu) hbT (eS hz20) (eS hz20) ?_
          rw[show (!(gnl==nu))=false from by rw[hgn2];simp]
          refine gCn ?_
          refine wp_pickYes (v:=.bool false) (eS hz20) (eS hz20) ?_
          refine wg_end fun a160 ha160=>?_
          have hz160:=kS ha160 hz20
          have hd160:=kD ha160 hd20
          have g160_0:=kP ha160 g20_0
          have g160_1:=kP ha160 g20_1
          have g160_2:=kP ha160 g20_2
          have g160_3:=kP ha160 g20_3
          have g160_4:=kP ha160 g20_4
          have g160_5:=kP ha160 g20_5
          have g160_8:=kP ha160 g20_8
          have g160_9:=kP ha160 g20_9
          have g160_10:=kP ha160 g20_10
          have g160_11:=kP ha160 g20_11
          have g160_12:=kP ha160 g20_12
          have g160_46:get a160 46 = .bool false:=kG ha160 hz20
          exact hJ23 a160 w20 ⟨hz160,hd160,g160_0,g160_1,g160_2,g160_3,g160_4,g160_5,g160_8,g160_9,g160_10,g160_11,g160_12,g160_46,hx2_0,hx2_1,hx2_2,hfl2,Nat.le_trans hsz2 (Fr.refl [] w20).size⟩
        | false =>
          refine wp_regG ?_
          refine gCn ?_
          refine wFa (b:=w.heap.size) (i:=0) (hFlT51.fld (by decide)) (eK g20_5) ?_
          rw[show (0+0:Nat)=0 from rfl]
          refine gCn ?_
          refine wL0 (j:=0) (v:=.int .i64 fd.kind) hcT3 (eS hz20) hx2_0 rfl ?_
          refine gCn ?_
          refine wp_eqlF (k1:=.i64) (i:=fd.kind) (j:=8) (by exact h8) (eS hz20) rfl ?_
          refine gCn ?_
          refine wMv (v:=.bool false) (eS hz20) ?_
          refine wg_yes (dj:=33) rfl (lZ hz20) (gS hz20) ?_
          refine wFa (b:=w.heap.size) (i:=0) (hFlT51.fld (by decide)) (eK g20_5) ?_
          rw[show (0+0:Nat)=0 from rfl]
          refine wg_yes (dj:=33) rfl (lZ hz20) (gS hz20) ?_
          refine wL0 (j:=0) (v:=.int .i64 fd.kind) hcT3 (eS hz20) hx2_0 rfl ?_
          refine wg_yes (dj:=33) rfl (lZ hz20) (gS hz20) ?_
          refine wp_eqlF (k1:=.i64) (i:=fd.kind) (j:=10) (by exact h10) (eS hz20) rfl ?_
          refine gCn ?_
          refine wp_pickNo (v:=.bool false) (eS hz20) (eS hz20) ?_
          refine gCn ?_
          refine wMv (v:=.bool false) (eS hz20) ?_
          refine wg_yes (dj:=38) rfl (lZ hz20) (gS hz20) ?_
          refine wMv (v:=.bool false) (eK g20_12) ?_
          refine gCn ?_
          refine wp_pickNo (v:=.bool false) (eS hz20) (eS hz20) ?_
          refine gCn ?_
          refine wMv (v:=.bool false) (eS hz20) ?_
          refine wg_noT (dj:=41) rfl (lZ hz20) (gS hz20) ?_
          refine wg_noT (dj:=41) rfl (lZ hz20) (gS hz20) ?_
          refine wg_noT (dj:=41) rfl (lZ hz20) (gS hz20) ?_
          refine wg_noT (dj:=41) rfl (lZ hz20) (gS hz20) ?_
          refine gCn ?_
          refine wp_pickNo (v:=.bool false) (eS hz20) rfl ?_
          refine wg_end fun a161 ha161=>?_
          have hz161:=kS ha161 hz20
          have hd161:=kD ha161 hd20
          have g161_0:=kP ha161 g20_0
          have g161_1:=kP ha161 g20_1
          have g161_2:=kP ha161 g20_2
          have g161_3:=kP ha161 g20_3
          have g161_4:=kP ha161 g20_4
          have g161_5:=kP ha161 g20_5
          have g161_8:=kP ha161 g20_8
          have g161_9:=kP ha161 g20_9
          have g161_10:=kP ha161 g20_10
          have g161_11:=kP ha161 g20_11
          have g161_12:=kP ha161 g20_12
          have g161_46:get a161 46 = .bool false:=kG ha161 hz20
          exact hJ23 a161 w20 ⟨hz161,hd161,g161_0,g161_1,g161_2,g161_3,g161_4,g161_5,g161_8,g161_9,g161_10,g161_11,g161_12,g161_46,hx2_0,hx2_1,hx2_2,hfl2,Nat.le_trans hsz2 (Fr.refl [] w20).size⟩
  by_cases hnn:fd.nul≥0
  · refine wp_regG ?_
    refine gCn ?_
    refine wFa (b:=w.heap.size) (i:=0) (hFlT51.fld (by decide)) (eK g18_5) ?_
    rw[show (0+3:Nat)=3 from rfl]
    refine gCn ?_
    refine wL0 (j:=3) (v:=.int .i64 fd.nul) hcT3 (eS hz18) rb15 rfl ?_
    refine gCn ?_
    refine wp_geqT (k1:=.i64) (i:=fd.nul) (j:=0) (by exact hnn) (eS hz18) rfl ?_
    refine gCn ?_
    refine wMv (v:=.bool true) (eS hz18) ?_
    refine wg_yes (dj:=24) rfl (lZ hz18) (gS hz18) ?_
    refine wMv (v:=.int .i64 ver) (eK g18_1) ?_
    refine wg_yes (dj:=24) rfl (lZ hz18) (gS hz18) ?_
    refine wFa (b:=w.heap.size) (i:=0) (hFlT51.fld (by decide)) (eK g18_5) ?_
    rw[show (0+3:Nat)=3 from rfl]
    refine wg_yes (dj:=24) rfl (lZ hz18) (gS hz18) ?_
    refine wL0 (j:=3) (v:=.int .i64 fd.nul) hcT3 (eS hz18) rb15 rfl ?_
    refine wg_yes (dj:=24) rfl (lZ hz18) (gS hz18) ?_
    refine wp_geq (k1:=.i64) (i:=ver) (j:=fd.nul) (eS hz18) (eS hz18) ?_
    rw[show (decide ((ver:Int)≥(fd.nul:Int)):Bool)=(may:Bool) from by rw[hmay,decide_eq_true hnn,Bool.true_and]]
    refine gCn ?_
    refine wp_pickYes (v:=.bool may) (eS hz18) (eS hz18) ?_
    refine gCn ?_
    refine wAs (v:=.bool may) (eS hz18) ?_
    refine wg_end fun a162 ha162=>?_
    have hz162:=kS ha162 hz18
    have hd162:=kD ha162 hd18
    have g162_0:=kP ha162 g18_0
    have g162_1:=kP ha162 g18_1
    have g162_2:=kP ha162 g18_2
    have g162_3:=kP ha162 g18_3
    have g162_4:=kP ha162 g18_4
    have g162_5:=kP ha162 g18_5
    have g162_8:=kP ha162 g18_8
    have g162_9:=kP ha162 g18_9
    have g162_10:=kP ha162 g18_10
    have g162_11:=kP ha162 g18_11
    have g162_12:get a162 12 = .bool may:=kG ha162 hz18
    exact hJ20 a162 w13 ⟨hz162,hd162,g162_0,g162_1,g162_2,g162_3,g162_4,g162_5,g162_8,g162_9,g162_10,g162_11,g162_12,rb15,rb16,rb17,hF14,Nat.le_trans hsz0 hL14_w7.size⟩
  · obtain rfl : may = false := by rw [hmay, decide_eq_false hnn, Bool.false_and]
    refine wp_regG ?_
    refine gCn ?_
    refine wFa (b:=w.heap.size) (i:=0) (hFlT51.fld (by decide)) (eK g18_5) ?_
    rw[show (0+3:Nat)=3 from rfl]
    refine gCn ?_
    refine wL0 (j:=3) (v:=.int .i64 fd.nul) hcT3 (eS hz18) rb15 rfl ?_
    refine gCn ?_
    refine wp_geqF (k1:=.i64) (i:=fd.nul) (j:=0) (by exact hnn) (eS hz18) rfl ?_
    refine gCn ?_
    refine wMv (v:=.bool false) (eS hz18) ?_
    refine wg_noT (dj:=24) rfl (lZ hz18) (gS hz18) ?_
    refine wg_noT (dj:=24) rfl (lZ hz18) (gS hz18) ?_
    refine wg_noT (dj:=24) rfl (lZ hz18) (gS hz18) ?_
    refine wg_noT (dj:=24) rfl (lZ hz18) (gS hz18) ?_
    refine gCn ?_
    refine wp_pickNo (v:=.bool false) (eS hz18) rfl ?_
    refine gCn ?_
    refine wAs (v:=.bool false) (eS hz18) ?_
    refine wg_end fun a163 ha163=>?_
    have hz163:=kS ha163 hz18
    have hd163:=kD ha163 hd18
    have g163_0:=kP ha163 g18_0
    have g163_1:=kP ha163 g18_1
    have g163_2:=kP ha163 g18_2
    have g163_3:=kP ha163 g18_3
    have g163_4:=kP ha163 g18_4
    have g163_5:=kP ha163 g18_5
    have g163_8:=kP ha163 g18_8
    have g163_9:=kP ha163 g18_9
    have g163_10:=kP ha163 g18_10
    have g163_11:=kP ha163 g18_11
    have g163_12:get a163 12 = .bool false:=kG ha163 hz18
    exact hJ20 a163 w13 ⟨hz163,hd163,g163_0,g163_1,g163_2,g163_3,g163_4,g163_5,g163_8,g163_9,g163_10,g163_11,g163_12,rb15,rb16,rb17,hF14,Nat.le_trans hsz0 hL14_w7.size⟩
end Go.Kq

namespace Go.Kq
open Go Go.Proofs
def UsB (fd:Fd) (x:T):Prop :=
  if fd.kind=8 then x.nl=decide (fd.nul≥0)∧x.s=[] else if fd.kind=9∨fd.kind=11 then x.s=[]∧x.l=[] else if fd.kind=7∨fd.kind=10 then False else x.n=numW fd.kind fd.df
structure UsuM (P:Program) (f:FuncId) (fs:List Fd):Prop where
  enters:Enters P f
  call:∀ (w:World) (A B:Nat→Prop) (v:Value) (ct:List Value) (t:T),FdsR w A v fs→RepT w B ct t→(∀ b,A b→b < w.heap.size)→(∀ b,B b→b < w.heap.size)→t.u=[]→(∀ (j:Nat) (fd:Fd),fs[j]?=some fd→UsB fd (atT t.l j)) →
    Calls P f #[v,.agg ct.toArray] w fun e w'=>e = .returned (.bool true)∧Fr [] w w'
set_option maxHeartbeats 4000000 in
theorem usual_m {P:Program} {f:FuncId} {fn:Func} {T2 T3 T4 T22 T23 T24 T26 T29 T51:TypeId} {f29 f33 f35 f65:FuncId} {ct0:Array TypeId} {ct1:Array TypeId} {ct2:Array TypeId} {ct3:Array TypeId} {i0 i1 i2 i3 i4 i5 i6 i7 i10 i11 i12 i13 i14 i15 i16 i17 i18 i19 i20 i21 i22 i8 i9 i23 i24:Nat} {t0 t1 t2 t3 t4 t5 t6 t7 t8 t9 t10 t11 t12 t13 t14 t15 t16 t17 t18 t19 t20 t21 t22 t23 t24 t25 t26 t27 t28 t29 t30 t31 t32 t33 t34 t35 t36 t37 t38 t39 t40 t41 t42 t43 t44 t45 t46 t47 t48 t49 t50 t51 t52 t53 t54 t55 t56 t57 t58 t59 t60 t61 t62 t63 t64 t65 t66 t67 t68 t69 t70 t71 t72 t73 t74 t75 t76 t77 t78 t79 t80 t81 t82 t83 t84 t85 t86 t87 t88 t89 t90 t91 t92 t93 t94 t95 t96:TypeId} {p0 p1 p2 p3 p4 p5 p6 p7 p8 p9 p10 p11 p12 p13 p14 p15 p16 p17 p18 p19 p20 p21 p22 p23 p24 p25 p26 p27 p28 p29 p30 p31 p32 p33 p34 p35 p36 p37 p38 p39 p40 p41 p42 p43 p44 p45 p46 p47 p48 p49 p50 p51 p52 p53 p54 p55 p56 p57 p58 p59 p60 p61 p62 p63 p64 p65 p66 p67 p68 p69 p70 p71 p72 p73 p74 p75 p76 p77 p78 p79 p80 p81 p82 p83 p84 p85 p86 p87 p88 p89 p90 p91 p92 p93 p94 p95 p96:String} {e0 e1 e2 e3 e4 e5 e6 e7 e8 e9 e10 e11 e12 e13 e14 e15 e16 e17 e18 e19 e20 e21 e22 e23 e24 e25 e26 e27 e28 e29 e30 e31 e32 e33 e34 e35 e36 e37 e38 e39 e40 e41 e42 e43 e44 e45 e46 e47 e48 e49 e50 e51 e52 e53 e54 e55 e56 e57 e58 e59 e60 e61 e62 e63 e64 e65 e66 e67 e68 e69 e70 e71 e72 e73 e74 e75 e76 e77 e78 e79 e80 e81 e82 e83 e84 e85 e86 e87 e88 e89 e90 e91 e92 e93 e94 e95 e96:Array Edge} {te8:TypeId} {tb:Nat} {fs:List Fd}
    (hf:P.funcs[f]?=some fn) (hname:(fn.name == "runtime.NumGoroutine")=false) (hres:fn.results = #[.tmp 4]) (hN:fn.ntmps=89)
    (hbody:fn.body=some (.seq (Code.region i0 ⟨[⟨some 3,.box T26 (.tmp 1),t0,p0,e0,none⟩,
    ⟨some 4,.assign (.const (.bool false)),t1,p1,e1,none⟩]⟩ false)
  (.seq (.seq (Code.region i1 ⟨[⟨some 8,.fieldAddr T26 (.tmp 3) 4,t2,p2,e2,none⟩,
    ⟨some 9,.load T24 (.tmp 8),t3,p3,e3,none⟩,
    ⟨some 10,.call ⟨.builtin .len,#[(.tmp 9)],#[T24]⟩,t4,p4,e4,none⟩,
    ⟨some 11,.binOp .gtr T3 (.tmp 10) (.const (.int .i64 0)) T3,t5,p5,e5,none⟩]⟩ false)
  (.cond (.tmp 11) (.seq (Code.region i2 ⟨[⟨some 4,.assign (.const (.bool false)),t6,p6,e6,none⟩]⟩ false)
  .ret)
  .skip))
  (.seq (.seq (Code.region i3 ⟨[⟨some 12,.move (.tmp 0),t7,p7,e7,none⟩,
    ⟨some 13,.call ⟨.builtin .len,#[(.tmp 12)],#[T29]⟩,t8,p8,e8,none⟩,
    ⟨some 14,.move (.const (.int .i64 0)),t9,p9,e9,none⟩]⟩ false)
  (.block 0 (.loop (.seq (Code.region i4 ⟨[⟨some 15,.binOp .lss T3 (.tmp 14) (.tmp 13) T3,t10,p10,e10,none⟩]⟩ false)
  (.seq (.cond (.tmp 15) .skip
  (.exit 0))
  (.seq (.block 1 (.seq (Code.region i5 ⟨[⟨some 16,.move (.tmp 14),t11,p11,e11,none⟩,
    ⟨some 17,.indexAddr T29 (.tmp 12) (.tmp 14),t12,p12,e12,none⟩,
    ⟨some 18,.load T51 (.tmp 17),t13,p13,e13,none⟩,
    ⟨some 6,.alloc T51,t14,p14,e14,none⟩,
    ⟨some 5,.assign (.tmp 16),t15,p15,e15,none⟩,
    ⟨none,.store T51 (.tmp 6) (.tmp 18),t16,p16,e16,none⟩]⟩ false)
  (.seq (Code.region i6 ⟨[⟨some 19,.load T26 (.tmp 3),t17,p17,e17,none⟩,
    ⟨some 20,.move (.tmp 5),t18,p18,e18,none⟩,
    ⟨some 21,.call ⟨.value (.func f29),#[(.tmp 19),(.tmp 20)],ct0⟩,t19,p19,e19,none⟩,
    ⟨some 7,.alloc T26,t20,p20,e20,none⟩,
    ⟨none,.store T26 (.tmp 7) (.tmp 21),t21,p21,e21,none⟩]⟩ false)
  (.seq (Code.region i7 ⟨[⟨some 22,.fieldAddr T51 (.tmp 6) 0,t22,p22,e22,none⟩,
    ⟨some 23,.load T3 (.tmp 22),t23,p23,e23,none⟩]⟩ false)
  (.block 2 (.seq (Code.region i10 ⟨[⟨some 33,.binOp .eql T3 (.tmp 23) (.const (.int .i64 8)) T3,t24,p24,e24,none⟩,
    ⟨some 32,.assign (.tmp 33),t25,p25,e25,none⟩]⟩ false)
  (.cond (.tmp 32) (.seq (Code.region i11 ⟨[⟨some 34,.fieldAddr T26 (.tmp 7) 2,t26,p26,e26,none⟩,
    ⟨some 35,.load T4 (.tmp 34),t27,p27,e27,none⟩,
    ⟨some 36,.fieldAddr T51 (.tmp 6) 3,t28,p28,e28,none⟩,
    ⟨some 37,.load T3 (.tmp 36),t29,p29,e29,none⟩,
    ⟨some 38,.binOp .geq T3 (.tmp 37) (.const (.int .i64 0)) T3,t30,p30,e30,none⟩,
    ⟨some 39,.binOp .neq T4 (.tmp 35) (.tmp 38) T4,t31,p31,e31,none⟩,
    ⟨some 40,.move (.tmp 39),t32,p32,e32,none⟩,
    ⟨some 41,.fieldAddr T26 (.tmp 7) 1,t33,p33,e33,some (6,false)⟩,
    ⟨some 42,.load T22 (.tmp 41),t34,p34,e34,some (6,false)⟩,
    ⟨some 43,.call ⟨.builtin .len,#[(.tmp 42)],#[T22]⟩,t35,p35,e35,some (6,false)⟩,
    ⟨some 44,.binOp .gtr T3 (.tmp 43) (.const (.int .i64 0)) T3,t36,p36,e36,some (6,false)⟩,
    ⟨some 45,.pick (.tmp 40) (.const (.bool true)) (.tmp 44),t37,p37,e37,none⟩]⟩ false)
  (.cond (.tmp 45) (.seq (Code.region i12 ⟨[⟨some 4,.assign (.const (.bool false)),t38,p38,e38,none⟩]⟩ false)
  .ret)
  .skip))
  (.seq (Code.region i13 ⟨[⟨some 47,.binOp .eql T3 (.tmp 23) (.const (.int .i64 7)) T3,t39,p39,e39,none⟩,
    ⟨some 46,.assign (.tmp 47),t40,p40,e40,none⟩]⟩ false)
  (.cond (.tmp 46) (.seq (Code.region i14 ⟨[⟨some 48,.fieldAddr T26 (.tmp 7) 1,t41,p41,e41,none⟩,
    ⟨some 49,.load T22 (.tmp 48),t42,p42,e42,none⟩,
    ⟨some 50,.makeSlice T22 (.const (.int .i64 16)) (.const (.int .i64 16)),t43,p43,e43,none⟩,
    ⟨some 51,.call ⟨.value (.func f35),#[(.tmp 49),(.tmp 50)],ct1⟩,t44,p44,e44,none⟩,
    ⟨some 52,.unOp .not T4 (.tmp 51),t45,p45,e45,none⟩]⟩ true)
  (.cond (.tmp 52) (.seq (Code.region i15 ⟨[⟨some 4,.assign (.const (.bool false)),t46,p46,e46,none⟩]⟩ false)
  .ret)
  .skip))
  (.seq (.seq (Code.region i16 ⟨[⟨some 54,.binOp .eql T3 (.tmp 23) (.const (.int .i64 9)) T3,t47,p47,e47,none⟩,
    ⟨some 53,.assign (.tmp 54),t48,p48,e48,none⟩]⟩ false)
  (.cond (.tmp 53) .skip
  (Code.region i17 ⟨[⟨some 55,.binOp .eql T3 (.tmp 23) (.const (.int .i64 11)) T3,t49,p49,e49,none⟩,
    ⟨some 53,.assign (.tmp 55),t50,p50,e50,none⟩]⟩ false)))
  (.cond (.tmp 53) (.seq (Code.region i18 ⟨[⟨some 56,.fieldAddr T26 (.tmp 7) 1,t51,p51,e51,none⟩,
    ⟨some 57,.load T22 (.tmp 56),t52,p52,e52,none⟩,
    ⟨some 58,.call ⟨.builtin .len,#[(.tmp 57)],#[T22]⟩,t53,p53,e53,none⟩,
    ⟨some 59,.binOp .gtr T3 (.tmp 58) (.const (.int .i64 0)) T3,t54,p54,e54,none⟩,
    ⟨some 60,.move (.tmp 59),t55,p55,e55,none⟩,
    ⟨some 61,.fieldAddr T26 (.tmp 7) 3,t56,p56,e56,some (4,false)⟩,
    ⟨some 62,.load T23 (.tmp 61),t57,p57,e57,some (4,false)⟩,
    ⟨some 63,.call ⟨.builtin .len,#[(.tmp 62)],#[T23]⟩,t58,p58,e58,some (4,false)⟩,
    ⟨some 64,.binOp .gtr T3 (.tmp 63) (.const (.int .i64 0)) T3,t59,p59,e59,some (4,false)⟩,
    ⟨some 65,.pick (.tmp 60) (.const (.bool true)) (.tmp 64),t60,p60,e60,none⟩]⟩ false)
  (.cond (.tmp 65) (.seq (Code.region i19 ⟨[⟨some 4,.assign (.const (.bool false)),t61,p61,e61,none⟩]⟩ false)
  .ret)
  .skip))
  (.seq (Code.region i20 ⟨[⟨some 67,.binOp .eql T3 (.tmp 23) (.const (.int .i64 10)) T3,t62,p62,e62,none⟩,
    ⟨some 66,.assign (.tmp 67),t63,p63,e63,none⟩]⟩ false)
  (.cond (.tmp 66) (.seq (Code.region i21 ⟨[⟨some 68,.fieldAddr T51 (.tmp 6) 3,t64,p64,e64,none⟩,
    ⟨some 69,.load T3 (.tmp 68),t65,p65,e65,none⟩,
    ⟨some 70,.binOp .geq T3 (.tmp 69) (.const (.int .i64 0)) T3,t66,p66,e66,none⟩,
    ⟨some 71,.move (.tmp 70),t67,p67,e67,none⟩,
    ⟨some 72,.fieldAddr T26 (.tmp 7) 2,t68,p68,e68,some (3,true)⟩,
    ⟨some 73,.load T4 (.tmp 72),t69,p69,e69,some (3,true)⟩,
    ⟨some 74,.unOp .not T4 (.tmp 73),t70,p70,e70,some (3,true)⟩,
    ⟨some 75,.pick (.tmp 71) (.tmp 74) (.const (.bool false)),t71,p71,e71,none⟩,
    ⟨some 76,.move (.tmp 75),t72,p72,e72,none⟩,
    ⟨some 77,.fieldAddr T51 (.tmp 6) 3,t73,p73,e73,some (8,false)⟩,
    ⟨some 78,.load T3 (.tmp 77),t74,p74,e74,some (8,false)⟩,
    ⟨some 79,.binOp .lss T3 (.tmp 78) (.const (.int .i64 0)) T3,t75,p75,e75,some (8,false)⟩,
    ⟨some 80,.move (.tmp 79),t76,p76,e76,some (8,false)⟩,
    ⟨some 81,.fieldAddr T51 (.tmp 6) 7,t77,p77,e77,some (12,true)⟩,
    ⟨some 82,.load T29 (.tmp 81),t78,p78,e78,some (12,true)⟩,
    ⟨some 83,.load T26 (.tmp 7),t79,p79,e79,some (12,true)⟩,
    ⟨some 84,.call ⟨.value (.func f33),#[(.tmp 82),(.tmp 83)],ct2⟩,t80,p80,e80,some (12,true)⟩,
    ⟨some 85,.unOp .not T4 (.tmp 84),t81,p81,e81,some (12,true)⟩,
    ⟨some 86,.pick (.tmp 80) (.tmp 85) (.const (.bool false)),t82,p82,e82,some (8,false)⟩,
    ⟨some 87,.pick (.tmp 76) (.const (.bool true)) (.tmp 86),t83,p83,e83,none⟩]⟩ false)
  (.cond (.tmp 87) (.seq (Code.region i22 ⟨[⟨some 4,.assign (.const (.bool false)),t84,p84,e84,none⟩]⟩ false)
  .ret)
  .skip))
  (.seq (Code.region i8 ⟨[⟨some 24,.fieldAddr T26 (.tmp 7) 0,t85,p85,e85,none⟩,
    ⟨some 25,.load T2 (.tmp 24),t86,p86,e86,none⟩,
    ⟨some 26,.fieldAddr T51 (.tmp 6) 0,t87,p87,e87,none⟩,
    ⟨some 27,.load T3 (.tmp 26),t88,p88,e88,none⟩,
    ⟨some 28,.fieldAddr T51 (.tmp 6) 5,t89,p89,e89,none⟩,
    ⟨some 29,.load T2 (.tmp 28),t90,p90,e90,none⟩,
    ⟨some 30,.call ⟨.value (.func f65),#[(.tmp 27),(.tmp 29)],ct3⟩,t91,p91,e91,none⟩,
    ⟨some 31,.binOp .neq T2 (.tmp 25) (.tmp 30) T2,t92,p92,e92,none⟩]⟩ true)
  (.cond (.tmp 31) (.seq (Code.region i9 ⟨[⟨some 4,.assign (.const (.bool false)),t93,p93,e93,none⟩]⟩ false)
  .ret)
  .skip)))))))))))))))
  (Code.region i23 ⟨[⟨some 88,.binOp .add T3 (.tmp 14) (.const (.int .i64 1)) T3,t94,p94,e94,none⟩,
    ⟨some 14,.move (.tmp 88),t95,p95,e95,none⟩]⟩ false)))))))
  (.seq (Code.region i24 ⟨[⟨some 4,.assign (.const (.bool true)),t96,p96,e96,none⟩]⟩ false)
  .ret)))))
    (hFlT26:Flat P T26 zT) (hcT24:scal P T24=true) (hsT24:slTy P T24=true) (hsT29:slTy P T29=true) (hs_T29:sliceOf P T29 te8 8 tb=true) (hFlT51:Flat P T51 zF) (hcT3:scal P T3=true) (hcT4:scal P T4=true) (hbT4:boolTy P T4=true) (hcT22:scal P T22=true) (hsT22:slTy P T22=true) (hcT23:scal P T23=true) (hsT23:slTy P T23=true) (hcT2:scal P T2=true) (he8:edgeOk 0 [e85,e86,e87,e88,e89,e90,e91,e92] [[],[0],[],[2],[],[4],[3,5],[1,6]]=true) (hmx:P.follows .mixedOrders=true) (hAt:AtM P f29) (hNum:NumM P f65):UsuM P f fs:=by
  refine ⟨enters_of hf hname hbody,?_⟩
  intro w A B v ct t hfs ht hA hB hu0 hus
  cases t with
  | mk n s nl l u =>
  have ht0:=ht
  obtain ⟨sv,lv,uv,rfl,hn,hs,hl,hu⟩:=repT_iff.1 ht
  obtain ⟨uq,ucap,rfl,-,-,-⟩:=hu.sl2
  simp only[T.u,T.l] at hu0 hus
  have hul:u.length=0:=by rw[hu0];rfl
  obtain ⟨q,cap,hv,hbig,hk⟩:=hfs.slice
  subst hv
  refine calls_of_wp hf hbody ?_
  generalize ha0:({ tmps:=#[Value.slice q fs.length cap,Value.agg ([.int .i64 n,sv,.bool nl,lv,.slice uq u.length ucap]:List Value).toArray]++Array.replicate (fn.ntmps - (#[Value.slice q fs.length cap,Value.agg ([.int .i64 n,sv,.bool nl,lv,.slice uq u.length ucap]:List Value).toArray]:Array Value).size) undef,defers:=[] }:Act)=a0
  have hz0:a0.tmps.size=89:=by subst ha0;simp[hN]
  have hd0:a0.defers=[]:=by subst ha0;rfl
  have g0_0:get a0 0 = .slice q fs.length cap:=by subst ha0;exact gAr rfl
  have g0_1:get a0 1 = .agg ([.int .i64 n,sv,.bool nl,lv,.slice uq u.length ucap]:List Value).toArray:=by subst ha0;exact gAr rfl
  refine wT fun K1 hK1=>?_
  refine wC (wp_boxL (cs:=[.int .i64 n,sv,.bool nl,lv,.slice uq u.length ucap]) (eK g0_1) ?_)
  rintro w2 f2 sz2 r2 th2
  have hF3:Fr [] w w2:=f2
  refine wC (wAs (v:=.bool false) rfl ?_)
  refine wEn fun a4 ha4=>?_
  have hz4:=kS ha4 hz0
  have hd4:=kD ha4 hd0
  have g4_0:=kP ha4 g0_0
  have g4_1:=kP ha4 g0_1
  have g4_3:get a4 3 = .pointer (some ⟨w.heap.size,0,none⟩):=kG ha4 hz0
  have g4_4:get a4 4 = .bool false:=kG ha4 hz0
  have hsz0:w.heap.size+1≤w2.heap.size:=by omega
  refine hK1 a4 w2 (tUp ?_)
  refine tId (wp_seq_k fun K5 hK5=>?_)
  refine wS fun K6 hK6=>?_
  refine wC (wFa (b:=w.heap.size) (i:=0) (hFlT26.fld (by decide)) (eK g4_3) ?_)
  rw[show (0+4:Nat)=4 from rfl]
  refine wC (wL0 (j:=4) (v:=.slice uq u.length ucap) hcT24 (eS hz4) r2 rfl ?_)
  refine wC (wp_lenS (n:=u.length) hsT24 (eS hz4) ?_)
  refine wC (wp_gtrF (k1:=.i64) (i:=((u.length:Nat):Int)) (j:=0) (by omega) (eS hz4) rfl ?_)
  refine wEn fun a7 ha7=>?_
  have hz7:=kS ha7 hz4
  have hd7:=kD ha7 hd4
  have g7_0:=kP ha7 g4_0
  have g7_1:=kP ha7 g4_1
  have g7_3:=kP ha7 g4_3
  have g7_4:=kP ha7 g4_4
  have g7_11:get a7 11 = .bool false:=kG ha7 hz4
  refine hK6 a7 w2 ?_
  refine wp_cond_split (t:=false) (eK g7_11) (fun h=>by cases h) (fun _=>?_)
  refine wp_skip ?_
  refine hK5 a7 w2 (tUp ?_)
  refine tId (wp_seq_k fun K9 hK9=>?_)
  refine wS fun K10 hK10=>?_
  refine wC (wMv (v:=.slice q fs.length cap) (eK g7_0) ?_)
  refine wC (wp_lenS (n:=fs.length) hsT29 (eS hz7) ?_)
  refine wC (wMv (v:=.int .i64 0) rfl ?_)
  refine wEn fun a11 ha11=>?_
  have hz11:=kS ha11 hz7
  have hd11:=kD ha11 hd7
  have g11_0:=kP ha11 g7_0
  have g11_1:=kP ha11 g7_1
  have g11_3:=kP ha11 g7_3
  have g11_4:=kP ha11 g7_4
  have g11_11:=kP ha11 g7_11
  have g11_12:get a11 12 = .slice q fs.length cap:=kG ha11 hz7
  have g11_13:get a11 13 = .int .i64 ((fs.length:Nat):Int):=kG ha11 hz7
  have g11_14:get a11 14 = .int .i64 0:=kG ha11 hz7
  refine hK10 a11 w2 ?_
  refine wp_block (wp_loop_ghost (fun (m:Nat) a' w'=>∃ (j:Nat),a'.tmps.size=89∧a'.defers=[]∧get a' 0 = .slice q fs.length cap∧get a' 1 = .agg ([.int .i64 n,sv,.bool nl,lv,.slice uq u.length ucap]:List Value).toArray∧get a' 3 = .pointer (some ⟨w.heap.size,0,none⟩)∧get a' 4 = .bool false∧get a' 11 = .bool false∧get a' 12 = .slice q fs.length cap∧get a' 13 = .int .i64 ((fs.length:Nat):Int)∧get a' 14 = .int .i64 (j:Int)∧j+m=fs.length∧w'.rangeAt w.heap.size 0 [.int .i64 n,sv,.bool nl,lv,.slice uq u.length ucap]∧Fr [] w w'∧w.heap.size+1≤w'.heap.size) fs.length ?_ ?_)
  · exact ⟨0,hz11,hd11,g11_0,g11_1,g11_3,g11_4,g11_11,g11_12,g11_13,g11_14,by omega,r2,hF3,hsz0⟩
  · rintro m a12 w12 ⟨j, hz12, hd12, g12_0, g12_1, g12_3, g12_4, g12_11, g12_12, g12_13, g12_14, hjm, hb3, hfl, hSl⟩
    refine wS fun K13 hK13=>?_
    refine wC (wp_lss (k1:=.i64) (i:=(j:Int)) (j:=((fs.length:Nat):Int)) (eK g12_14) (eK g12_13) ?_)
    refine wEn fun a14 ha14=>?_
    have hz14:=kS ha14 hz12
    have hd14:=kD ha14 hd12
    have g14_0:=kP ha14 g12_0
    have g14_1:=kP ha14 g12_1
    have g14_3:=kP ha14 g12_3
    have g14_4:=kP ha14 g12_4
    have g14_11:=kP ha14 g12_11
    have g14_12:=kP ha14 g12_12
    have g14_13:=kP ha14 g12_13
    have g14_14:=kP ha14 g12_14
    have g14_15:get a14 15 = .bool (decide (((j:Int):Int) < (((fs.length:Nat):Int):Int))):=kG ha14 hz12
    refine hK13 a14 w12 ?_
    refine wp_seq_k fun K15 hK15=>?_
    refine wp_cond_split (t:=decide (((j:Int):Int) < (((fs.length:Nat):Int):Int))) (eK g14_15) (fun hc16=>?_) (fun hc16=>?_)
    · have hjl : j < fs.length := by simpa using hc16
      obtain ⟨fd,hfd⟩:∃ fd,fs[j]?=some fd:=⟨fs[j],by simp[hjl]⟩
      obtain ⟨bl,ol,cl,hq,hbl2,hrl,hrep⟩:=hk j fd hfd
      obtain ⟨fsv,rfl,hsub⟩:=repF_iff.1 hrep
      have hU:=hus j fd hfd
      refine wp_skip ?_
      refine hK15 a14 w12 ?_
      refine wp_seq_k fun K17 hK17=>?_
      refine wp_blockT ?_
      refine wS fun K18 hK18=>?_
      refine wC (wMv (v:=.int .i64 (j:Int)) (eK g14_14) ?_)
      refine wC (wp_ixN (b:=bl) (o:=ol) (i:=j) hs_T29 (by rw[eTm,nZ (by decide),g14_12,hq]) (eK g14_14) hjl ?_)
      refine wC (wp_loadFlat (cs:=[.int .i64 fd.kind,.int .i64 fd.fr,.int .i64 fd.to,.int .i64 fd.nul,.int .i64 fd.tag,.int .i64 fd.df,.int .i64 fd.of,fsv]) (b:=bl) (o:=ol+j * 8) hFlT51 rfl (eS hz14) (hfl.range hrl .nil) ?_)
      rw[wCo]
      have hgs19:=hfl.size
      have hgs20:=(Fr.refl [] w12).size
      refine wp_allocL hFlT51 ?_
      rintro w21 f21 sz21 r21 th21
      have hF22:Fr [] w w21:=hfl.tr f21
      have hL22_w12:Fr [] w12 w21:=(Fr.refl [] w12).tr f21
      have rb23:=f21.range hb3 .nil
      refine wC (wAs (v:=.int .i64 (j:Int)) (eS hz14) ?_)
      refine wC (wp_storeL (cs:=[.int .i64 fd.kind,.int .i64 fd.fr,.int .i64 fd.to,.int .i64 fd.nul,.int .i64 fd.tag,.int .i64 fd.df,.int .i64 fd.of,fsv]) (o:=0) hFlT51 rfl (eS hz14) (eS hz14) (by intro u hu;simp at hu;rcases hu with rfl | rfl | rfl | rfl | rfl | rfl | rfl | rfl <;> first | rfl | exact hsub.one) th21 ?_)
      rintro w24 f24 sz24 r24 th24
      have hF24:Fr [] w w24:=hF22.trans f24 (fun r hr=>.inl (by simp at hr;subst hr;have:=hfl.size;simp only;omega))
      have rb25:=f24.range rb23 (.cons (.inl (by simp only;omega)) .nil)
      have hL24_w12:Fr [] w12 w24:=hL22_w12.trans f24 (fun r hr=>.inl (by simp at hr;subst hr;have:=(Fr.refl [] w12).size;simp only;omega))
      refine wEn fun a26 ha26=>?_
      have hz26:=kS ha26 hz14
      have hd26:=kD ha26 hd14
      have g26_0:=kP ha26 g14_0
      have g26_1:=kP ha26 g14_1
      have g26_3:=kP ha26 g14_3
      have g26_4:=kP ha26 g14_4
      have g26_5:get a26 5 = .int .i64 (j:Int):=kG ha26 hz14
      have g26_6:get a26 6 = .pointer (some ⟨w12.heap.size,0,none⟩):=kG ha26 hz14
      have g26_11:=kP ha26 g14_11
      have g26_12:=kP ha26 g14_12
      have g26_13:=kP ha26 g14_13
      have g26_14:=kP ha26 g14_14
      refine hK18 a26 w24 ?_
      refine wS fun K27 hK27=>?_
      refine wC (wp_loadFlat (cs:=[.int .i64 n,sv,.bool nl,lv,.slice uq u.length ucap]) (b:=w.heap.size) (o:=0) hFlT26 rfl (eK g26_3) rb25 ?_)
      refine wC (wMv (v:=.int .i64 (j:Int)) (eK g26_5) ?_)
      refine wC (wCr (R:=fun x wz=>∃ cs:List Value,x = .agg cs.toArray∧Fr [] w24 wz∧((∀ b,B b→b < w24.heap.size)→RepT wz B cs (atT l j))) (vs:=#[.agg ([.int .i64 n,sv,.bool nl,lv,.slice uq u.length ucap]:List Value).toArray,.int .i64 (j:Int)]) hAt.enters (mX2 (eS hz26) (eS hz26)) ((hAt.call w24 B _ (.mk n s nl l u) j (ht0.kept hF24 (by simp) (fun _ h=>h))).mono (by rintro e wz ⟨cs,rfl,h1,h2⟩;exact ⟨_,rfl,cs,rfl,h1,h2⟩)) ?_)
      rintro _ w28 ⟨xc,rfl,fr28,hxr28⟩
      have hxt:=hxr28 (fun b hb=>Nat.lt_of_lt_of_le (hB b hb) hF24.size)
      obtain ⟨xn,xs,xnl,xl,xu,hxe⟩:∃ xn xs xnl xl xu,atT l j = .mk xn xs xnl xl xu:=by cases atT l j;exact ⟨_,_,_,_,_,rfl⟩
      rw[hxe] at hxt hU
      obtain ⟨xsv,xlv,xuv,rfl,hxn,hxs,hxll,hxu⟩:=repT_iff.1 hxt
      obtain ⟨xq,xcap,rfl,-,-,-⟩:=hxs.slice2
      obtain ⟨xlq,xlcap,rfl,-,-,-⟩:=hxll.sl2
      have hF29:Fr [] w w28:=hF24.tr fr28
      have hL29_w12:Fr [] w12 w28:=hL24_w12.tr fr28
      have hL29_w24:Fr [] w24 w28:=(Fr.refl [] w24).tr fr28
      have rb30:=fr28.range rb25 .nil
      have rb31:=fr28.range r24 .nil
      rw[wCo]
      have hgs32:=hF29.size
      have hgs33:=hL29_w12.size
      have hgs34:=hL29_w24.size
      have hgs35:=(Fr.refl [] w28).size
      refine wp_allocL hFlT26 ?_
      rintro w36 f36 sz36 r36 th36
      have hF37:Fr [] w w36:=hF29.tr f36
      have hL37_w12:Fr [] w12 w36:=hL29_w12.tr f36
      have rb38:=f36.range rb30 .nil
      have rb39:=f36.range rb31 .nil
      refine wC (wp_storeL (cs:=[.int .i64 xn,.slice xq xs.length xcap,.bool xnl,.slice xlq xl.length xlcap,xuv]) (o:=0) hFlT26 rfl (eS hz26) (eS hz26) (by intro u hu;simp at hu;rcases hu with rfl | rfl | rfl | rfl | rfl <;> first | rfl | exact hxu.one) th36 ?_)
      rintro w40 f40 sz40 r40 th40
      have hF40:Fr [] w w40:=hF37.trans f40 (fun r hr=>.inl (by simp at hr;subst hr;have:=hF29.size;simp only;omega))
      have rb41:=f40.range rb38 (.cons (.inl (by simp only;omega)) .nil)
      have rb42:=f40.range rb39 (.cons (.inl (by simp only;omega)) .nil)
      have hL40_w12:Fr [] w12 w40:=hL37_w12.trans f40 (fun r hr=>.inl (by simp at hr;subst hr;have:=hL29_w12.size;simp only;omega))
      refine wEn fun a43 ha43=>?_
      have hz43:=kS ha43 hz26
      have hd43:=kD ha43 hd26
      have g43_0:=kP ha43 g26_0
      have g43_1:=kP ha43 g26_1
      have g43_3:=kP ha43 g26_3
      have g43_4:=kP ha43 g26_4
      have g43_6:=kP ha43 g26_6
      have g43_7:get a43 7 = .pointer (some ⟨w28.heap.size,0,none⟩):=kG ha43 hz26
      have g43_11:=kP ha43 g26_11
      have g43_12:=kP ha43 g26_12
      have g43_13:=kP ha43 g26_13
      have g43_14:=kP ha43 g26_14
      refine hK27 a43 w40 ?_
      refine wS fun K44 hK44=>?_
      refine wC (wFa (b:=w12.heap.size) (i:=0) (hFlT51.fld (by decide)) (eK g43_6) ?_)
      rw[show (0+0:Nat)=0 from rfl]
      refine wC (wL0 (j:=0) (v:=.int .i64 fd.kind) hcT3 (eS hz43) rb42 rfl ?_)
      refine wEn fun a45 ha45=>?_
      have hz45:=kS ha45 hz43
      have hd45:=kD ha45 hd43
      have g45_0:=kP ha45 g43_0
      have g45_1:=kP ha45 g43_1
      have g45_3:=kP ha45 g43_3
      have g45_4:=kP ha45 g43_4
      have g45_6:=kP ha45 g43_6
      have g45_7:=kP ha45 g43_7
      have g45_11:=kP ha45 g43_11
      have g45_12:=kP ha45 g43_12
      have g45_13:=kP ha45 g43_13
      have g45_14:=kP ha45 g43_14
      have g45_23:get a45 23 = .int .i64 fd.kind:=kG ha45 hz43
      by_cases h8:fd.kind=8
      · have hU8 : xnl = decide (fd.nul ≥ 0) ∧ xs = [] := by simpa [UsB, h8, T.nl, T.s] using hU
        have hxs0:xs.length=0:=by rw[hU8.2];rfl
        refine hK44 a45 w40 ?_
        refine wp_blockT ?_
        refine wS fun K46 hK46=>?_
        refine wC (wp_eqlT (k1:=.i64) (i:=fd.kind) (j:=8) h8 (eK g45_23) rfl ?_)
        refine wC (wAs (v:=.bool true) (eS hz45) ?_)
        refine wEn fun a47 ha47=>?_
        have hz47:=kS ha47 hz45
        have hd47:=kD ha47 hd45
        have g47_0:=kP ha47 g45_0
        have g47_1:=kP ha47 g45_1
        have g47_3:=kP ha47 g45_3
        have g47_4:=kP ha47 g45_4
        have g47_6:=kP ha47 g45_6
        have g47_7:=kP ha47 g45_7
        have g47_11:=kP ha47 g45_11
        have g47_12:=kP ha47 g45_12
        have g47_13:=kP ha47 g45_13
        have g47_14:=kP ha47 g45_14
        have g47_32:get a47 32 = .bool true:=kG ha47 hz45
        refine hK46 a47 w40 ?_
        refine wp_cond_split (t:=true) (eK g47_32) (fun _=>?_) (fun h=>by cases h)
        refine wp_seq_k fun K49 hK49=>?_
        refine wp_regG ?_
        refine gCn ?_
        refine wFa (b:=w28.heap.size) (i:=0) (hFlT26.fld (by decide)) (eK g47_7) ?_
        rw[show (0+2:Nat)=2 from rfl]
        refine gCn ?_
        refine wL0 (j:=2) (v:=.bool xnl) hcT4 (eS hz47) r40 rfl ?_
        refine gCn ?_
        refine wFa (b:=w12.heap.size) (i:=0) (hFlT51.fld (by decide)) (eK g47_6) ?_
        rw[show (0+3:Nat)=3 from rfl]
        refine gCn ?_
        refine wL0 (j:=3) (v:=.int .i64 fd.nul) hcT3 (eS hz47) rb42 rfl ?_
        refine gCn ?_
        refine wp_geq (k1:=.i64) (i:=fd.nul) (j:=0) (eS hz47) rfl ?_
        refine gCn ?_
        refine wp_neqBool (i:=xnl) (j:=decide ((fd.nul:Int)≥(0:Int))) hbT4 (eS hz47) (eS hz47) ?_
        rw[show (!(xnl==(decide ((fd.nul:Int)≥(0:Int)))))=false from by rw[hU8.1];simp]
        refine gCn ?_
        refine wMv (v:=.bool false) (eS hz47) ?_
        refine wg_yes (dj:=40) rfl (lZ hz47) (gS hz47) ?_
        refine wFa (b:=w28.heap.size) (i:=0) (hFlT26.fld (by decide)) (eK g47_7) ?_
        rw[show (0+1:Nat)=1 from rfl]
        refine wg_yes (dj:=40) rfl (lZ hz47) (gS hz47) ?_
        refine wL0 (j:=1) (v:=.slice xq xs.length xcap) hcT22 (eS hz47) r40 rfl ?_
        refine wg_yes (dj:=40) rfl (lZ hz47) (gS hz47) ?_
        refine wp_lenS (n:=xs.length) hsT22 (eS hz47) ?_
        refine wg_yes (dj:=40) rfl (lZ hz47) (gS hz47) ?_
        refine wp_gtrF (k1:=.i64) (i:=((xs.length:Nat):Int)) (j:=0) (by omega) (eS hz47) rfl ?_
        refine gCn ?_
        refine wp_pickNo (v:=.bool false) (eS hz47) (eS hz47) ?_
        refine wg_end fun a50 ha50=>?_
        have hz50:=kS ha50 hz47
        have hd50:=kD ha50 hd47
        have g50_0:=kP ha50 g47_0
        have g50_1:=kP ha50 g47_1
        have g50_3:=kP ha50 g47_3
        have g50_4:=kP ha50 g47_4
        have g50_11:=kP ha50 g47_11
        have g50_12:=kP ha50 g47_12
        have g50_13:=kP ha50 g47_13
        have g50_14:=kP ha50 g47_14
        have g50_45:get a50 45 = .bool false:=kG ha50 hz47
        refine hK49 a50 w40 ?_
        refine wp_cond_split (t:=false) (eK g50_45) (fun h=>by cases h) (fun _=>?_)
        refine wp_skip ?_
        refine hK17 a50 w40 ?_
        refine wp_reg ?_
        refine wC (wp_add (k1:=.i64) (i:=(j:Int)) (j:=1) (eK g50_14) rfl ?_)
        rw[show (IntKind.i64.wrap (((j:Int):Int)+(1:Int)):Int)=(((j+1:Nat):Int):Int) from by simp only[IntKind.wrap,IntKind.bits,IntKind.signed];simp;omega]
        refine wC (wMv (v:=.int .i64 ((j+1:Nat):Int)) (eS hz50) ?_)
        refine wEn fun a52 ha52=>?_
        have hz52:=kS ha52 hz50
        have hd52:=kD ha52 hd50
        have g52_0:=kP ha52 g50_0
        have g52_1:=kP ha52 g50_1
        have g52_3:=kP ha52 g50_3
        have g52_4:=kP ha52 g50_4
        have g52_11:=kP ha52 g50_11
        have g52_12:=kP ha52 g50_12
        have g52_13:=kP ha52 g50_13
        have g52_14:get a52 14 = .int .i64 ((j+1:Nat):Int):=kG ha52 hz50
        exact ⟨m - 1,by omega,j+1,hz52,hd52,g52_0,g52_1,g52_3,g52_4,g52_11,g52_12,g52_13,g52_14,by omega,rb41,hF40,Nat.le_trans hSl hL40_w12.size⟩
      by_cases h9:fd.kind=9
      · have hU9 : xs = [] ∧ xl = [] := by simpa [UsB, h9, T.l, T.s] using hU
        have hxs0:xs.length=0:=by rw[hU9.1];rfl
        have hxl0:xl.length=0:=by rw[hU9.2];rfl
        refine hK44 a45 w40 ?_
        refine wp_blockT ?_
        refine wS fun K53 hK53=>?_
        refine wC (wp_eqlF (k1:=.i64) (i:=fd.kind) (j:=8) h8 (eK g45_23) rfl ?_)
        refine wC (wAs (v:=.bool false) (eS hz45) ?_)
        refine wEn fun a54 ha54=>?_
        have hz54:=kS ha54 hz45
        have hd54:=kD ha54 hd45
        have g54_0:=kP ha54 g45_0
        have g54_1:=kP ha54 g45_1
        have g54_3:=kP ha54 g45_3
        have g54_4:=kP ha54 g45_4
        have g54_7:=kP ha54 g45_7
        have g54_11:=kP ha54 g45_11
        have g54_12:=kP ha54 g45_12
        have g54_13:=kP ha54 g45_13
        have g54_14:=kP ha54 g45_14
        have g54_23:=kP ha54 g45_23
        have g54_32:get a54 32 = .bool false:=kG ha54 hz45
        refine hK53 a54 w40 ?_
        refine wp_cond_split (t:=false) (eK g54_32) (fun h=>by cases h) (fun _=>?_)
        refine wS fun K56 hK56=>?_
        refine wC (wp_eqlF (k1:=.i64) (i:=fd.kind) (j:=7) (by omega) (eK g54_23) rfl ?_)
        refine wC (wAs (v:=.bool false) (eS hz54) ?_)
        refine wEn fun a57 ha57=>?_
        have hz57:=kS ha57 hz54
        have hd57:=kD ha57 hd54
        have g57_0:=kP ha57 g54_0
        have g57_1:=kP ha57 g54_1
        have g57_3:=kP ha57 g54_3
        have g57_4:=kP ha57 g54_4
        have g57_7:=kP ha57 g54_7
        have g57_11:=kP ha57 g54_11
        have g57_12:=kP ha57 g54_12
        have g57_13:=kP ha57 g54_13
        have g57_14:=kP ha57 g54_14
        have g57_23:=kP ha57 g54_23
        have g57_46:get a57 46 = .bool false:=kG ha57 hz54
        refine hK56 a57 w40 ?_
        refine wp_cond_split (t:=false) (eK g57_46) (fun h=>by cases h) (fun _=>?_)
        refine wp_seq_k fun K59 hK59=>?_
        refine wS fun K60 hK60=>?_
        refine wC (wp_eqlT (k1:=.i64) (i:=fd.kind) (j:=9) h9 (eK g57_23) rfl ?_)
        refine wC (wAs (v:=.bool true) (eS hz57) ?_)
        refine wEn fun a61 ha61=>?_
        have hz61:=kS ha61 hz57
        have hd61:=kD ha61 hd57
        have g61_0:=kP ha61 g57_0
        have g61_1:=kP ha61 g57_1
        have g61_3:=kP ha61 g57_3
        have g61_4:=kP ha61 g57_4
        have g61_7:=kP ha61 g57_7
        have g61_11:=kP ha61 g57_11
        have g61_12:=kP ha61 g57_12
        have g61_13:=kP ha61 g57_13
        have g61_14:=kP ha61 g57_14
        have g61_53:get a61 53 = .bool true:=kG ha61 hz57
        refine hK60 a61 w40 ?_
        refine wp_cond_split (t:=true) (eK g61_53) (fun _=>?_) (fun h=>by cases h)
        refine wp_skip ?_
        refine hK59 a61 w40 ?_
        refine wp_cond_split (t:=true) (eK g61_53) (fun _=>?_) (fun h=>by cases h)
        refine wp_seq_k fun K64 hK64=>?_
        refine wp_regG ?_
        refine gCn ?_
        refine wFa (b:=w28.heap.size) (i:=0) (hFlT26.fld (by decide)) (eK g61_7) ?_
        rw[show (0+1:Nat)=1 from rfl]
        refine gCn ?_
        refine wL0 (j:=1) (v:=.slice xq xs.length xcap) hcT22 (eS hz61) r40 rfl ?_
        refine gCn ?_
        refine wp_lenS (n:=xs.length) hsT22 (eS hz61) ?_
        refine gCn ?_
        refine wp_gtrF (k1:=.i64) (i:=((xs.length:Nat):Int)) (j:=0) (by omega) (eS hz61) rfl ?_
        refine gCn ?_
        refine wMv (v:=.bool false) (eS hz61) ?_
        refine wg_yes (dj:=60) rfl (lZ hz61) (gS hz61) ?_
        refine wFa (b:=w28.heap.size) (i:=0) (hFlT26.fld (by decide)) (eK g61_7) ?_
        rw[show (0+3:Nat)=3 from rfl]
        refine wg_yes (dj:=60) rfl (lZ hz61) (gS hz61) ?_
        refine wL0 (j:=3) (v:=.slice xlq xl.length xlcap) hcT23 (eS hz61) r40 rfl ?_
        refine wg_yes (dj:=60) rfl (lZ hz61) (gS hz61) ?_
        refine wp_lenS (n:=xl.length) hsT23 (eS hz61) ?_
        refine wg_yes (dj:=60) rfl (lZ hz61) (gS hz61) ?_
        refine wp_gtrF (k1:=.i64) (i:=((xl.length:Nat):Int)) (j:=0) (by omega) (eS hz61) rfl ?_
        refine gCn ?_
        refine wp_pickNo (v:=.bool false) (eS hz61) (eS hz61) ?_
        refine wg_end fun a65 ha65=>?_
        have hz65:=kS ha65 hz61
        have hd65:=kD ha65 hd61
        have g65_0:=kP ha65 g61_0
        have g65_1:=kP ha65 g61_1
        have g65_3:=kP ha65 g61_3
        have g65_4:=kP ha65 g61_4
        have g65_11:=kP ha65 g61_11
        have g65_12:=kP ha65 g61_12
        have g65_13:=kP ha65 g61_13
        have g65_14:=kP ha65 g61_14
        have g65_65:get a65 65 = .bool false:=kG ha65 hz61
        refine hK64 a65 w40 ?_
        refine wp_cond_split (t:=false) (eK g65_65) (fun h=>by cases h) (fun _=>?_)
        refine wp_skip ?_
        refine hK17 a65 w40 ?_
        refine wp_reg ?_
        refine wC (wp_add (k1:=.i64) (i:=(j:Int)) (j:=1) (eK g65_14) rfl ?_)
        rw[show (IntKind.i64.wrap (((j:Int):Int)+(1:Int)):Int)=(((j+1:Nat):Int):Int) from by simp only[IntKind.wrap,IntKind.bits,IntKind.signed];simp;omega]
        refine wC (wMv (v:=.int .i64 ((j+1:Nat):Int)) (eS hz65) ?_)
        refine wEn fun a67 ha67=>?_
        have hz67:=kS ha67 hz65
        have hd67:=kD ha67 hd65
        have g67_0:=kP ha67 g65_0
        have g67_1:=kP ha67 g65_1
        have g67_3:=kP ha67 g65_3
        have g67_4:=kP ha67 g65_4
        have g67_11:=kP ha67 g65_11
        have g67_12:=kP ha67 g65_12
        have g67_13:=kP ha67 g65_13
        have g67_14:get a67 14 = .int .i64 ((j+1:Nat):Int):=kG ha67 hz65
        exact ⟨m - 1,by omega,j+1,hz67,hd67,g67_0,g67_1,g67_3,g67_4,g67_11,g67_12,g67_13,g67_14,by omega,rb41,hF40,Nat.le_trans hSl hL40_w12.size⟩
      by_cases h11:fd.kind=11
      · have hU9 : xs = [] ∧ xl = [] := by simpa [UsB, h11, T.l, T.s] using hU
        have hxs0:xs.length=0:=by rw[hU9.1];rfl
        have hxl0:xl.length=0:=by rw[hU9.2];rfl
        refine hK44 a45 w40 ?_
        refine wp_blockT ?_
        refine wS fun K68 hK68=>?_
        refine wC (wp_eqlF (k1:=.i64) (i:=fd.kind) (j:=8) h8 (eK g45_23) rfl ?_)
        refine wC (wAs (v:=.bool false) (eS hz45) ?_)
        refine wEn fun a69 ha69=>?_
        have hz69:=kS ha69 hz45
        have hd69:=kD ha69 hd45
        have g69_0:=kP ha69 g45_0
        have g69_1:=kP ha69 g45_1
        have g69_3:=kP ha69 g45_3
        have g69_4:=kP ha69 g45_4
        have g69_7:=kP ha69 g45_7
        have g69_11:=kP ha69 g45_11
        have g69_12:=kP ha69 g45_12
        have g69_13:=kP ha69 g45_13
        have g69_14:=kP ha69 g45_14
        have g69_23:=kP ha69 g45_23
        have g69_32:get a69 32 = .bool false:=kG ha69 hz45
        refine hK68 a69 w40 ?_
        refine wp_cond_split (t:=false) (eK g69_32) (fun h=>by cases h) (fun _=>?_)
        refine wS fun K71 hK71=>?_
        refine wC (wp_eqlF (k1:=.i64) (i:=fd.kind) (j:=7) (by omega) (eK g69_23) rfl ?_)
        refine wC (wAs (v:=.bool false) (eS hz69) ?_)
        refine wEn fun a72 ha72=>?_
        have hz72:=kS ha72 hz69
        have hd72:=kD ha72 hd69
        have g72_0:=kP ha72 g69_0
        have g72_1:=kP ha72 g69_1
        have g72_3:=kP ha72 g69_3
        have g72_4:=kP ha72 g69_4
        have g72_7:=kP ha72 g69_7
        have g72_11:=kP ha72 g69_11
        have g72_12:=kP ha72 g69_12
        have g72_13:=kP ha72 g69_13
        have g72_14:=kP ha72 g69_14
        have g72_23:=kP ha72 g69_23
        have g72_46:get a72 46 = .bool false:=kG ha72 hz69
        refine hK71 a72 w40 ?_
        refine wp_cond_split (t:=false) (eK g72_46) (fun h=>by cases h) (fun _=>?_)
        refine wp_seq_k fun K74 hK74=>?_
        refine wS fun K75 hK75=>?_
        refine wC (wp_eqlF (k1:=.i64) (i:=fd.kind) (j:=9) h9 (eK g72_23) rfl ?_)
        refine wC (wAs (v:=.bool false) (eS hz72) ?_)
        refine wEn fun a76 ha76=>?_
        have hz76:=kS ha76 hz72
        have hd76:=kD ha76 hd72
        have g76_0:=kP ha76 g72_0
        have g76_1:=kP ha76 g72_1
        have g76_3:=kP ha76 g72_3
        have g76_4:=kP ha76 g72_4
        have g76_7:=kP ha76 g72_7
        have g76_11:=kP ha76 g72_11
        have g76_12:=kP ha76 g72_12
        have g76_13:=kP ha76 g72_13
        have g76_14:=kP ha76 g72_14
        have g76_23:=kP ha76 g72_23
        have g76_53:get a76 53 = .bool false:=kG ha76 hz72
        refine hK75 a76 w40 ?_
        refine wp_cond_split (t:=false) (eK g76_53) (fun h=>by cases h) (fun _=>?_)
        refine wp_reg ?_
        refine wC (wp_eqlT (k1:=.i64) (i:=fd.kind) (j:=11) h11 (eK g76_23) rfl ?_)
        refine wC (wAs (v:=.bool true) (eS hz76) ?_)
        refine wEn fun a78 ha78=>?_
        have hz78:=kS ha78 hz76
        have hd78:=kD ha78 hd76
        have g78_0:=kP ha78 g76_0
        have g78_1:=kP ha78 g76_1
        have g78_3:=kP ha78 g76_3
        have g78_4:=kP ha78 g76_4
        have g78_7:=kP ha78 g76_7
        have g78_11:=kP ha78 g76_11
        have g78_12:=kP ha78 g76_12
        have g78_13:=kP ha78 g76_13
        have g78_14:=kP ha78 g76_14
        have g78_53:get a78 53 = .bool true:=kG ha78 hz76
        refine hK74 a78 w40 ?_
        refine wp_cond_split (t:=true) (eK g78_53) (fun _=>?_) (fun h=>by cases h)
        refine wp_seq_k fun K80 hK80=>?_
        refine wp_regG ?_
        refine gCn ?_
        refine wFa (b:=w28.heap.size) (i:=0) (hFlT26.fld (by decide)) (eK g78_7) ?_
        rw[show (0+1:Nat)=1 from rfl]
        refine gCn ?_
        refine wL0 (j:=1) (v:=.slice xq xs.length xcap) hcT22 (eS hz78) r40 rfl ?_
        refine gCn ?_
        refine wp_lenS (n:=xs.length) hsT22 (eS hz78) ?_
        refine gCn ?_
        refine wp_gtrF (k1:=.i64) (i:=((xs.length:Nat):Int)) (j:=0) (by omega) (eS hz78) rfl ?_
        refine gCn ?_
        refine wMv (v:=.bool false) (eS hz78) ?_
        refine wg_yes (dj:=60) rfl (lZ hz78) (gS hz78) ?_
        refine wFa (b:=w28.heap.size) (i:=0) (hFlT26.fld (by decide)) (eK g78_7) ?_
        rw[show (0+3:Nat)=3 from rfl]
        refine wg_yes (dj:=60) rfl (lZ hz78) (gS hz78) ?_
        refine wL0 (j:=3) (v:=.slice xlq xl.length xlcap) hcT23 (eS hz78) r40 rfl ?_
        refine wg_yes (dj:=60) rfl (lZ hz78) (gS hz78) ?_
        refine wp_lenS (n:=xl.length) hsT23 (eS hz78) ?_
        refine wg_yes (dj:=60) rfl (lZ hz78) (gS hz78) ?_
        refine wp_gtrF (k1:=.i64) (i:=((xl.length:Nat):Int)) (j:=0) (by omega) (eS hz78) rfl ?_
        refine gCn ?_
        refine wp_pickNo (v:=.bool false) (eS hz78) (eS hz78) ?_
        refine wg_end fun a81 ha81=>?_
        have hz81:=kS ha81 hz78
        have hd81:=kD ha81 hd78
        have g81_0:=kP ha81 g78_0
        have g81_1:=kP ha81 g78_1
        have g81_3:=kP ha81 g78_3
        have g81_4:=kP ha81 g78_4
        have g81_11:=kP ha81 g78_11
        have g81_12:=kP ha81 g78_12
        have g81_13:=kP ha81 g78_13
        have g81_14:=kP ha81 g78_14
        have g81_65:get a81 65 = .bool false:=kG ha81 hz78
        refine hK80 a81 w40 ?_
        refine wp_cond_split (t:=false) (eK g81_65) (fun h=>by cases h) (fun _=>?_)
        refine wp_skip ?_
        refine hK17 a81 w40 ?_
        refine wp_reg ?_
        refine wC (wp_add (k1:=.i64) (i:=(j:Int)) (j:=1) (eK g81_14) rfl ?_)
        rw[show (IntKind.i64.wrap (((j:Int):Int)+(1:Int)):Int)=(((j+1:Nat):Int):Int) from by simp only[IntKind.wrap,IntKind.bits,IntKind.signed];simp;omega]
        refine wC (wMv (v:=.int .i64 ((j+1:Nat):Int)) (eS hz81) ?_)
        refine wEn fun a83 ha83=>?_
        have hz83:=kS ha83 hz81
        have hd83:=kD ha83 hd81
        have g83_0:=kP ha83 g81_0
        have g83_1:=kP ha83 g81_1
        have g83_3:=kP ha83 g81_3
        have g83_4:=kP ha83 g81_4
        have g83_11:=kP ha83 g81_11
        have g83_12:=kP ha83 g81_12
        have g83_13:=kP ha83 g81_13
        have g83_14:get a83 14 = .int .i64 ((j+1:Nat):Int):=kG ha83 hz81
        exact ⟨m - 1,by omega,j+1,hz83,hd83,g83_0,g83_1,g83_3,g83_4,g83_11,g83_12,g83_13,g83_14,by omega,rb41,hF40,Nat.le_trans hSl hL40_w12.size⟩
      have hUx:fd.kind ≠ 7∧fd.kind ≠ 10∧xn=numW fd.kind fd.df:=by
          have:=hU
          simp only[UsB,h8,h9,h11,if_false,or_self] at this
          split at this
          · exact this.elim
          · rename_i h;exact ⟨fun e=>h (.inl e),fun e=>h (.inr e),this⟩
      obtain ⟨h7,h10,hUn⟩:=hUx
      refine hK44 a45 w40 ?_
      refine wp_blockT ?_
      refine wS fun K84 hK84=>?_
      refine wC (wp_eqlF (k1:=.i64) (i:=fd.kind) (j:=8) h8 (eK g45_23) rfl ?_)
      refine wC (wAs (v:=.bool false) (eS hz45) ?_)
      refine wEn fun a85 ha85=>?_
      have hz85:=kS ha85 hz45
      have hd85:=kD ha85 hd45
      have g85_0:=kP ha85 g45_0
      have g85_1:=kP ha85 g45_1
      have g85_3:=kP ha85 g45_3
      have g85_4:=kP ha85 g45_4
      have g85_6:=kP ha85 g45_6
      have g85_7:=kP ha85 g45_7
      have g85_11:=kP ha85 g45_11
      have g85_12:=kP ha85 g45_12
      have g85_13:=kP ha85 g45_13
      have g85_14:=kP ha85 g45_14
      have g85_23:=kP ha85 g45_23
      have g85_32:get a85 32 = .bool false:=kG ha85 hz45
      refine hK84 a85 w40 ?_
      refine wp_cond_split (t:=false) (eK g85_32) (fun h=>by cases h) (fun _=>?_)
      refine wS fun K87 hK87=>?_
      refine wC (wp_eqlF (k1:=.i64) (i:=fd.kind) (j:=7) h7 (eK g85_23) rfl ?_)
      refine wC (wAs (v:=.bool false) (eS hz85) ?_)
      refine wEn fun a88 ha88=>?_
      have hz88:=kS ha88 hz85
      have hd88:=kD ha88 hd85
      have g88_0:=kP ha88 g85_0
      have g88_1:=kP ha88 g85_1
      have g88_3:=kP ha88 g85_3
      have g88_4:=kP ha88 g85_4
      have g88_6:=kP ha88 g85_6
      have g88_7:=kP ha88 g85_7
      have g88_11:=kP ha88 g85_11
      have g88_12:=kP ha88 g85_12
      have g88_13:=kP ha88 g85_13
      have g88_14:=kP ha88 g85_14
      have g88_23:=kP ha88 g85_23
      have g88_46:get a88 46 = .bool false:=kG ha88 hz85
      refine hK87 a88 w40 ?_
      refine wp_cond_split (t:=false) (eK g88_46) (fun h=>by cases h) (fun _=>?_)
      refine wp_seq_k fun K90 hK90=>?_
      refine wS fun K91 hK91=>?_
      refine wC (wp_eqlF (k1:=.i64) (i:=fd.kind) (j:=9) h9 (eK g88_23) rfl ?_)
      refine wC (wAs (v:=.bool false) (eS hz88) ?_)
      refine wEn fun a92 ha92=>?_
      have hz92:=kS ha92 hz88
      have hd92:=kD ha92 hd88
      have g92_0:=kP ha92 g88_0
      have g92_1:=kP ha92 g88_1
      have g92_3:=kP ha92 g88_3
      have g92_4:=kP ha92 g88_4
      have g92_6:=kP ha92 g88_6
      have g92_7:=kP ha92 g88_7
      have g92_11:=kP ha92 g88_11
      have g92_12:=kP ha92 g88_12
      have g92_13:=kP ha92 g88_13
      have g92_14:=kP ha92 g88_14
      have g92_23:=kP ha92 g88_23
      have g92_53:get a92 53 = .bool false:=kG ha92 hz88
      refine hK91 a92 w40 ?_
      refine wp_cond_split (t:=false) (eK g92_53) (fun h=>by cases h) (fun _=>?_)
      refine wp_reg ?_
      refine wC (wp_eqlF (k1:=.i64) (i:=fd.kind) (j:=11) h11 (eK g92_23) rfl ?_)
      refine wC (wAs (v:=.bool false) (eS hz92) ?_)
      refine wEn fun a94 ha94=>?_
      have hz94:=kS ha94 hz92
      have hd94:=kD ha94 hd92
      have g94_0:=kP ha94 g92_0
      have g94_1:=kP ha94 g92_1
      have g94_3:=kP ha94 g92_3
      have g94_4:=kP ha94 g92_4
      have g94_6:=kP ha94 g92_6
      have g94_7:=kP ha94 g92_7
      have g94_11:=kP ha94 g92_11
      have g94_12:=kP ha94 g92_12
      have g94_13:=kP ha94 g92_13
      have g94_14:=kP ha94 g92_14
      have g94_23:=kP ha94 g92_23
      have g94_53:get a94 53 = .bool false:=kG ha94 hz92
      refine hK90 a94 w40 ?_
      refine wp_cond_split (t:=false) (eK g94_53) (fun h=>by cases h) (fun _=>?_)
      refine wS fun K96 hK96=>?_
      refine wC (wp_eqlF (k1:=.i64) (i:=fd.kind) (j:=10) h10 (eK g94_23) rfl ?_)
      refine wC (wAs (v:=.bool false) (eS hz94) ?_)
      refine wEn fun a97 ha97=>?_
      have hz97:=kS ha97 hz94
      have hd97:=kD ha97 hd94
      have g97_0:=kP ha97 g94_0
      have g97_1:=kP ha97 g94_1
      have g97_3:=kP ha97 g94_3
      have g97_4:=kP ha97 g94_4
      have g97_6:=kP ha97 g94_6
      have g97_7:=kP ha97 g94_7
      have g97_11:=kP ha97 g94_11
      have g97_12:=kP ha97 g94_12
      have g97_13:=kP ha97 g94_13
      have g97_14:=kP ha97 g94_14
      have g97_66:get a97 66 = .bool false:=kG ha97 hz94
      refine hK96 a97 w40 ?_
      refine wp_cond_split (t:=false) (eK g97_66) (fun h=>by cases h) (fun _=>?_)
      refine wp_seq_k fun K99 hK99=>?_
      refine wp_drawE0 [spC [] (.pointer (some ⟨w28.heap.size,0,none⟩)),spC [0] (.int .i64 xn),spC [] (.pointer (some ⟨w12.heap.size,0,none⟩)),spC [2] (.int .i64 fd.kind),spC [] (.pointer (some ⟨w12.heap.size,5,none⟩)),spC [4] (.int .i64 fd.df),spR [3,5] (fun x w'=>x = .int .i64 (numW fd.kind fd.df)),spC [1,6] (.bool false)] 24 [] hmx he8 (by simp[shape]) (by simp[spC,spR]) (by simp;omega) ⟨lCc _ _ _,lCc _ _ _,lCc _ _ _,lCc _ _ _,lCc _ _ _,lCc _ _ _,(fun v w1 w2 f h=>h),lCc _ _ _,trivial⟩ ?_ ?_
      · refine oCs ?_ ?_
        · refine op_c fun a' w' hk' hf' hd' K' hK' => ?_
          refine wFa (b:=w28.heap.size) (i:=0) (hFlT26.fld (by decide)) (by rw[eTm,hk'.get 7 (by omega),g97_7]) ?_
          rw[show (0+0:Nat)=0 from rfl]
          exact hK'
        refine oCs ?_ ?_
        · refine op_c fun a' w' hk' hf' hd' K' hK' => ?_
          refine wL0 (j:=0) (v:=.int .i64 xn) hcT2 (by rw[eTm];exact hd'.c (nd':=[]) 0 (by simp) rfl) (hf'.range r40 .nil) rfl ?_
          exact hK'
        refine oCs ?_ ?_
        · refine op_c fun a' w' hk' hf' hd' K' hK' => ?_
          refine wFa (b:=w12.heap.size) (i:=0) (hFlT51.fld (by decide)) (by rw[eTm,hk'.get 6 (by omega),g97_6]) ?_
          rw[show (0+0:Nat)=0 from rfl]
          exact hK'
        refine oCs ?_ ?_
        · refine op_c fun a' w' hk' hf' hd' K' hK' => ?_
          refine wL0 (j:=0) (v:=.int .i64 fd.kind) hcT3 (by rw[eTm];exact hd'.c (nd':=[]) 2 (by simp) rfl) (hf'.range rb42 .nil) rfl ?_
          exact hK'
        refine oCs ?_ ?_
        · refine op_c fun a' w' hk' hf' hd' K' hK' => ?_
          refine wFa (b:=w12.heap.size) (i:=0) (hFlT51.fld (by decide)) (by rw[eTm,hk'.get 6 (by omega),g97_6]) ?_
          rw[show (0+5:Nat)=5 from rfl]
          exact hK'
        refine oCs ?_ ?_
        · refine op_c fun a' w' hk' hf' hd' K' hK' => ?_
          refine wL0 (j:=5) (v:=.int .i64 fd.df) hcT2 (by rw[eTm];exact hd'.c (nd':=[]) 4 (by simp) rfl) (hf'.range rb42 .nil) rfl ?_
          exact hK'
        refine oCs ?_ ?_
        · refine op_r fun a' w' hk' hf' hd' K' hK' => ?_
          refine wCr (R:=fun x wz=>x = .int .i64 (numW fd.kind fd.df)∧wz=w') (vs:=#[.int .i64 fd.kind,.int .i64 fd.df]) hNum.enters (by simp only[List.map_toArray,List.map_cons,List.map_nil];rw[show a'.eval (.tmp 27)=Value.int .i64 fd.kind from (by rw[eTm];exact hd'.c (nd':=[2]) 3 (by simp) rfl),show a'.eval (.tmp 29)=Value.int .i64 fd.df from (by rw[eTm];exact hd'.c (nd':=[4]) 5 (by simp) rfl)]) ((hNum.call w' fd.kind fd.df).mono (by rintro e wz ⟨rfl,rfl⟩;exact ⟨_,rfl,rfl,rfl⟩)) ?_
          rintro _ _ ⟨rfl,rfl⟩
          exact hK' _ _ rfl (Fr.refl _ _)
        refine oCs ?_ ?_
        · refine op_c fun a' w' hk' hf' hd' K' hK' => ?_
          have hn6:get a' 30 = .int .i64 (numW fd.kind fd.df):=hd'.at (d:=6) (by simp) rfl
          refine wp_neqF (k1:=.i64) (i:=xn) (j:=numW fd.kind fd.df) hUn (by rw[eTm];exact hd'.c (nd':=[0]) 1 (by simp) rfl) (by rw[eTm];exact hn6) ?_
          exact hK'
        exact opsOk_nil
      intro a100 w100 k100 f100 hd_100
      have g100_0:get a100 0 = .slice q fs.length cap:=by rw[k100.get 0 (by omega),g97_0]
      have g100_1:get a100 1 = .agg ([.int .i64 n,sv,.bool nl,lv,.slice uq u.length ucap]:List Value).toArray:=by rw[k100.get 1 (by omega),g97_1]
      have g100_3:get a100 3 = .pointer (some ⟨w.heap.size,0,none⟩):=by rw[k100.get 3 (by omega),g97_3]
      have g100_4:get a100 4 = .bool false:=by rw[k100.get 4 (by omega),g97_4]
      have g100_11:get a100 11 = .bool false:=by rw[k100.get 11 (by omega),g97_11]
      have g100_12:get a100 12 = .slice q fs.length cap:=by rw[k100.get 12 (by omega),g97_12]
      have g100_13:get a100 13 = .int .i64 ((fs.length:Nat):Int):=by rw[k100.get 13 (by omega),g97_13]
      have g100_14:get a100 14 = .int .i64 (j:Int):=by rw[k100.get 14 (by omega),g97_14]
      have hz100:a100.tmps.size=89:=k100.size.trans hz97
      have hd100:a100.defers=[]:=k100.defers.trans hd97
      have g100_31:get a100 31 = .bool false:=hd_100.c (nd':=[1,6]) 7 (by simp) rfl
      have hF101:Fr [] w w100:=hF40.tr f100
      have hL101_w12:Fr [] w12 w100:=hL40_w12.tr f100
      have rb102:=f100.range rb41 .nil
      have rb103:=f100.range rb42 .nil
      have rb104:=f100.range r40 .nil
      refine hK99 a100 w100 ?_
      refine wp_cond_split (t:=false) (eK g100_31) (fun h=>by cases h) (fun _=>?_)
      refine wp_skip ?_
      refine hK17 a100 w100 ?_
      refine wp_reg ?_
      refine wC (wp_add (k1:=.i64) (i:=(j:Int)) (j:=1) (eK g100_14) rfl ?_)
      rw[show (IntKind.i64.wrap (((j:Int):Int)+(1:Int)):Int)=(((j+1:Nat):Int):Int) from by simp only[IntKind.wrap,IntKind.bits,IntKind.signed];simp;omega]
      refine wC (wMv (v:=.int .i64 ((j+1:Nat):Int)) (eS hz100) ?_)
      refine wEn fun a106 ha106=>?_
      have hz106:=kS ha106 hz100
      have hd106:=kD ha106 hd100
      have g106_0:=kP ha106 g100_0
      have g106_1:=kP ha106 g100_1
      have g106_3:=kP ha106 g100_3
      have g106_4:=kP ha106 g100_4
      have g106_11:=kP ha106 g100_11
      have g106_12:=kP ha106 g100_12
      have g106_13:=kP ha106 g100_13
      have g106_14:get a106 14 = .int .i64 ((j+1:Nat):Int):=kG ha106 hz100
      exact ⟨m - 1,by omega,j+1,hz106,hd106,g106_0,g106_1,g106_3,g106_4,g106_11,g106_12,g106_13,g106_14,by omega,rb102,hF101,Nat.le_trans hSl hL101_w12.size⟩
    · refine wp_exit ?_
      show K9 a14 w12
      refine hK9 a14 w12 (tUp ?_)
      refine wT fun K107 hK107=>?_
      refine wC (wAs (v:=.bool true) rfl ?_)
      refine wEn fun a108 ha108=>?_
      have hz108:=kS ha108 hz14
      have hd108:=kD ha108 hd14
      have g108_4:get a108 4 = .bool true:=kG ha108 hz14
      refine hK107 a108 w12 (tUp ?_)
      refine wp_ret ?_
      exact ⟨hd108,_,rIs hres g108_4,rfl,hfl⟩
end Go.Kq

namespace Go.Kq
open Go Go.Proofs
def TdG (fs:List Fd) (Rf:Fd→Int→Bool→T→T→Prop) (ver:Int) (flex:Bool) (t g:T):Prop :=
  g.l.length=fs.length∧(∀ (j:Nat) (fd:Fd) (y:T),fs[j]?=some fd→g.l[j]?=some y→fd.tag < 0∧if fd.has ver then Rf fd ver flex (atT t.l j) y else UsB fd y)∧g.u=if flex then unksW fs t else []
section
variable {P:Program} {a:Act} {w:World} {K:Act→World→Prop} {Q:Exit→Act→World→Prop} {d:Option Tmp} {t:TypeId} {p:String} {af:Array Edge} {g:Option (Nat × Bool)}
theorem wp_fd1 {T e bs s0:Nat} {A:Nat→Prop} {x:Operand} {cs:List Value} {fd:Fd} (hT:sliceOf P T e 8 bs=true) (hz:zeroIs P e zF) (hx:a.eval x = .agg cs.toArray) (h:RepF w A cs fd) (hs:s0≤w.heap.size)
    (k:∀ w' v,Fr [] w w'→FdsR w' (fun b=>A b∨From s0 w' b) v [fd]→K (a.put d v) w'):OW P ⟨d,.buildSlice T 1 #[(0,x)],t,p,af,g⟩ a w K Q:=by
  have hl:=h.length
  refine wp_slice1 (cs:=cs) hT hz rfl (by omega) (by rw[hx];rfl) hl fun _=>?_
  have fb:=Fr.alloc [] w (.cells cs.toArray e)
  have rb:(w.alloc (.cells cs.toArray e)).rangeAt w.heap.size 0 cs:=by have:=range_new w cs.toArray e (0,0);simpa using this
  have sb:=size_alloc w (.cells cs.toArray e)
  refine k _ _ fb (FdsR.laid (cs:=[cs]) (fs:=[fd]) (.cons (h.kept fb (by simp) (fun _ h=>.inl h)) .nil) (by simpa using rb) (.inr ⟨hs,by omega⟩) (by simp))
theorem wp_th1 {T e bs s0:Nat} {A:Nat→Prop} {x:Operand} {cs:List Value} {y:Kq.T} (hT:sliceOf P T e 5 bs=true) (hz:zeroIs P e zT) (hx:a.eval x = .agg cs.toArray) (h:RepT w A cs y) (hs:s0≤w.heap.size)
    (k:∀ w' v,Fr [] w w'→Things w' (fun b=>A b∨From s0 w' b) v [y]→K (a.put d v) w'):OW P ⟨d,.buildSlice T 1 #[(0,x)],t,p,af,g⟩ a w K Q:=by
  have hl:=h.length
  refine wp_slice1 (cs:=cs) hT hz rfl (by omega) (by rw[hx];rfl) hl fun _=>?_
  have fb:=Fr.alloc [] w (.cells cs.toArray e)
  have rb:(w.alloc (.cells cs.toArray e)).rangeAt w.heap.size 0 cs:=by have:=range_new w cs.toArray e (0,0);simpa using this
  have sb:=size_alloc w (.cells cs.toArray e)
  refine k _ _ fb (.inr ⟨w.heap.size,0,1,.inr ⟨hs,by omega⟩,rfl,by simp,fun _=>cs,fun i z hi=>?_,fun i z hi=>?_⟩)
  · cases i with
    | zero=>simpa using rb
    | succ i=>simp at hi
  · cases i with
    | zero=>simp at hi;subst hi;exact h.kept fb (by simp) (fun _ h=>.inl h)
    | succ i=>simp at hi
end
set_option maxHeartbeats 4000000 in
theorem toldg_m {P:Program} {f:FuncId} {fn:Func} {T3 T4 T22 T23 T24 T26 T29 T51 T64 T66:TypeId} {f29 f30 f31 f32 f33 f34 f35 f36:FuncId} {ct0:Array TypeId} {ct1:Array TypeId} {ct2:Array TypeId} {ct3:Array TypeId} {ct4:Array TypeId} {ct5:Array TypeId} {ct6:Array TypeId} {ct7:Array TypeId} {i0 i1 i2 i3 i4 i5 i6 i7 i8 i9 i10 i11 i12 i13 i14 i15 i16 i17 i18 i19 i20 i21 i22 i23 i24:Nat} {t0 t1 t2 t3 t4 t5 t6 t7 t8 t9 t10 t11 t12 t13 t14 t15 t16 t17 t18 t19 t20 t21 t22 t23 t24 t25 t26 t27 t28 t29 t30 t31 t32 t33 t34 t35 t36 t37 t38 t39 t40 t41 t42 t43 t44 t45 t46 t47 t48 t49 t50 t51 t52 t53 t54 t55 t56 t57 t58 t59 t60 t61 t62 t63 t64 t65 t66 t67 t68 t69 t70 t71 t72 t73 t74 t75 t76 t77 t78 t79 t80 t81 t82 t83 t84 t85 t86 t87 t88 t89 t90 t91 t92 t93 t94 t95 t96 t97 t98 t99 t100 t101 t102 t103 t104 t105 t106 t107 t108 t109 t110 t111 t112 t113 t114 t115 t116 t117 t118 t119 t120 t121 t122 t123:TypeId} {p0 p1 p2 p3 p4 p5 p6 p7 p8 p9 p10 p11 p12 p13 p14 p15 p16 p17 p18 p19 p20 p21 p22 p23 p24 p25 p26 p27 p28 p29 p30 p31 p32 p33 p34 p35 p36 p37 p38 p39 p40 p41 p42 p43 p44 p45 p46 p47 p48 p49 p50 p51 p52 p53 p54 p55 p56 p57 p58 p59 p60 p61 p62 p63 p64 p65 p66 p67 p68 p69 p70 p71 p72 p73 p74 p75 p76 p77 p78 p79 p80 p81 p82 p83 p84 p85 p86 p87 p88 p89 p90 p91 p92 p93 p94 p95 p96 p97 p98 p99 p100 p101 p102 p103 p104 p105 p106 p107 p108 p109 p110 p111 p112 p113 p114 p115 p116 p117 p118 p119 p120 p121 p122 p123:String} {e0 e1 e2 e3 e4 e5 e6 e7 e8 e9 e10 e11 e12 e13 e14 e15 e16 e17 e18 e19 e20 e21 e22 e23 e24 e25 e26 e27 e28 e29 e30 e31 e32 e33 e34 e35 e36 e37 e38 e39 e40 e41 e42 e43 e44 e45 e46 e47 e48 e49 e50 e51 e52 e53 e54 e55 e56 e57 e58 e59 e60 e61 e62 e63 e64 e65 e66 e67 e68 e69 e70 e71 e72 e73 e74 e75 e76 e77 e78 e79 e80 e81 e82 e83 e84 e85 e86 e87 e88 e89 e90 e91 e92 e93 e94 e95 e96 e97 e98 e99 e100 e101 e102 e103 e104 e105 e106 e107 e108 e109 e110 e111 e112 e113 e114 e115 e116 e117 e118 e119 e120 e121 e122 e123:Array Edge} {te8 te5 teT:TypeId} {tb tb5:Nat} {fs:List Fd} {Rf:Fd→Int→Bool→T→T→Prop}
    (hf:P.funcs[f]?=some fn) (hname:(fn.name == "runtime.NumGoroutine")=false) (hres:fn.results = #[.tmp 10]) (hN:fn.ntmps=120)
    (hbody:fn.body=some (.seq (Code.region i0 ⟨[⟨some 8,.box T26 (.tmp 3),t0,p0,e0,none⟩,
    ⟨some 9,.box T26 (.tmp 4),t1,p1,e1,none⟩,
    ⟨some 10,.assign (.const (.bool false)),t2,p2,e2,none⟩]⟩ false)
  (.seq (.seq (Code.region i1 ⟨[⟨some 17,.fieldAddr T26 (.tmp 9) 3,t3,p3,e3,none⟩,
    ⟨some 18,.load T23 (.tmp 17),t4,p4,e4,none⟩,
    ⟨some 19,.call ⟨.builtin .len,#[(.tmp 18)],#[T23]⟩,t5,p5,e5,none⟩,
    ⟨some 20,.move (.tmp 0),t6,p6,e6,none⟩,
    ⟨some 21,.call ⟨.builtin .len,#[(.tmp 20)],#[T29]⟩,t7,p7,e7,none⟩,
    ⟨some 22,.binOp .neq T3 (.tmp 19) (.tmp 21) T3,t8,p8,e8,none⟩]⟩ false)
  (.cond (.tmp 22) (.seq (Code.region i2 ⟨[⟨some 10,.assign (.const (.bool false)),t9,p9,e9,none⟩]⟩ false)
  .ret)
  .skip))
  (.seq (.seq (Code.region i3 ⟨[⟨some 23,.move (.tmp 0),t10,p10,e10,none⟩,
    ⟨some 24,.call ⟨.builtin .len,#[(.tmp 23)],#[T29]⟩,t11,p11,e11,none⟩,
    ⟨some 25,.move (.const (.int .i64 0)),t12,p12,e12,none⟩]⟩ false)
  (.block 0 (.loop (.seq (Code.region i4 ⟨[⟨some 26,.binOp .lss T3 (.tmp 25) (.tmp 24) T3,t13,p13,e13,none⟩]⟩ false)
  (.seq (.cond (.tmp 26) .skip
  (.exit 0))
  (.seq (.block 1 (.seq (Code.region i5 ⟨[⟨some 27,.move (.tmp 25),t14,p14,e14,none⟩,
    ⟨some 28,.indexAddr T29 (.tmp 23) (.tmp 25),t15,p15,e15,none⟩,
    ⟨some 29,.load T51 (.tmp 28),t16,p16,e16,none⟩,
    ⟨some 12,.alloc T51,t17,p17,e17,none⟩,
    ⟨some 11,.assign (.tmp 27),t18,p18,e18,none⟩,
    ⟨none,.store T51 (.tmp 12) (.tmp 29),t19,p19,e19,none⟩]⟩ false)
  (.seq (Code.region i6 ⟨[⟨some 30,.load T26 (.tmp 8),t20,p20,e20,none⟩,
    ⟨some 31,.move (.tmp 11),t21,p21,e21,none⟩,
    ⟨some 32,.call ⟨.value (.func f29),#[(.tmp 30),(.tmp 31)],ct0⟩,t22,p22,e22,none⟩,
    ⟨some 13,.alloc T26,t23,p23,e23,none⟩,
    ⟨none,.store T26 (.tmp 13) (.tmp 32),t24,p24,e24,none⟩]⟩ false)
  (.seq (.seq (Code.region i7 ⟨[⟨some 33,.fieldAddr T51 (.tmp 12) 4,t25,p25,e25,none⟩,
    ⟨some 34,.load T3 (.tmp 33),t26,p26,e26,none⟩,
    ⟨some 35,.binOp .lss T3 (.tmp 34) (.const (.int .i64 0)) T3,t27,p27,e27,none⟩,
    ⟨some 36,.move (.tmp 35),t28,p28,e28,none⟩,
    ⟨some 37,.load T51 (.tmp 12),t29,p29,e29,some (3,true)⟩,
    ⟨some 38,.move (.tmp 1),t30,p30,e30,some (3,true)⟩,
    ⟨some 39,.call ⟨.value (.func f30),#[(.tmp 37),(.tmp 38)],ct1⟩,t31,p31,e31,some (3,true)⟩,
    ⟨some 40,.pick (.tmp 36) (.tmp 39) (.const (.bool false)),t32,p32,e32,none⟩,
    ⟨some 41,.move (.tmp 40),t33,p33,e33,none⟩,
    ⟨some 42,.fieldAddr T51 (.tmp 12) 4,t34,p34,e34,some (8,false)⟩,
    ⟨some 43,.load T3 (.tmp 42),t35,p35,e35,some (8,false)⟩,
    ⟨some 44,.binOp .geq T3 (.tmp 43) (.const (.int .i64 0)) T3,t36,p36,e36,some (8,false)⟩,
    ⟨some 45,.move (.tmp 44),t37,p37,e37,some (8,false)⟩,
    ⟨some 46,.move (.tmp 2),t38,p38,e38,some (12,true)⟩,
    ⟨some 47,.pick (.tmp 45) (.tmp 46) (.const (.bool false)),t39,p39,e39,some (8,false)⟩,
    ⟨some 48,.move (.tmp 47),t40,p40,e40,some (8,false)⟩,
    ⟨some 49,.load T51 (.tmp 12),t41,p41,e41,some (15,true)⟩,
    ⟨some 50,.load T26 (.tmp 13),t42,p42,e42,some (15,true)⟩,
    ⟨some 51,.call ⟨.value (.func f31),#[(.tmp 49),(.tmp 50)],ct2⟩,t43,p43,e43,some (15,true)⟩,
    ⟨some 52,.unOp .not T4 (.tmp 51),t44,p44,e44,some (15,true)⟩,
    ⟨some 53,.pick (.tmp 48) (.tmp 52) (.const (.bool false)),t45,p45,e45,some (8,false)⟩,
    ⟨some 54,.pick (.tmp 41) (.const (.bool true)) (.tmp 53),t46,p46,e46,none⟩]⟩ false)
  (.cond (.tmp 54) (.seq (.seq (Code.region i8 ⟨[⟨some 55,.load T51 (.tmp 12),t47,p47,e47,none⟩,
    ⟨some 56,.move (.tmp 1),t48,p48,e48,none⟩,
    ⟨some 57,.move (.tmp 2),t49,p49,e49,none⟩,
    ⟨some 58,.load T26 (.tmp 13),t50,p50,e50,none⟩,
    ⟨some 59,.fieldAddr T26 (.tmp 9) 3,t51,p51,e51,none⟩,
    ⟨some 60,.load T23 (.tmp 59),t52,p52,e52,none⟩,
    ⟨some 61,.move (.tmp 11),t53,p53,e53,none⟩,
    ⟨some 62,.indexAddr T23 (.tmp 60) (.tmp 61),t54,p54,e54,none⟩,
    ⟨some 63,.load T26 (.tmp 62),t55,p55,e55,none⟩,
    ⟨some 64,.call ⟨.value (.func f32),#[(.tmp 55),(.tmp 56),(.tmp 57),(.tmp 58),(.tmp 63)],ct3⟩,t56,p56,e56,none⟩,
    ⟨some 65,.unOp .not T4 (.tmp 64),t57,p57,e57,none⟩]⟩ true)
  (.cond (.tmp 65) (.seq (Code.region i9 ⟨[⟨some 10,.assign (.const (.bool false)),t58,p58,e58,none⟩]⟩ false)
  .ret)
  .skip))
  (.exit 1))
  .skip))
  (.seq (Code.region i10 ⟨[⟨some 66,.load T51 (.tmp 12),t59,p59,e59,none⟩,
    ⟨some 67,.buildSlice T29 1 #[(0,.tmp 66)],t60,p60,e60,none⟩,
    ⟨some 68,.fieldAddr T26 (.tmp 9) 3,t61,p61,e61,none⟩,
    ⟨some 69,.load T23 (.tmp 68),t62,p62,e62,none⟩,
    ⟨some 70,.move (.tmp 11),t63,p63,e63,none⟩,
    ⟨some 71,.indexAddr T23 (.tmp 69) (.tmp 70),t64,p64,e64,none⟩,
    ⟨some 72,.load T26 (.tmp 71),t65,p65,e65,none⟩,
    ⟨some 73,.buildSlice T23 1 #[(0,.tmp 72)],t66,p66,e66,none⟩,
    ⟨some 74,.build T26 #[(3,.tmp 73)],t67,p67,e67,none⟩,
    ⟨some 75,.call ⟨.value (.func f33),#[(.tmp 67),(.tmp 74)],ct4⟩,t68,p68,e68,none⟩,
    ⟨some 76,.unOp .not T4 (.tmp 75),t69,p69,e69,none⟩]⟩ true)
  (.cond (.tmp 76) (.seq (Code.region i11 ⟨[⟨some 10,.assign (.const (.bool false)),t70,p70,e70,none⟩]⟩ false)
  .ret)
  .skip))))))
  (Code.region i12 ⟨[⟨some 77,.binOp .add T3 (.tmp 25) (.const (.int .i64 1)) T3,t71,p71,e71,none⟩,
    ⟨some 25,.move (.tmp 77),t72,p72,e72,none⟩]⟩ false)))))))
  (.seq (Code.region i13 ⟨[⟨some 78,.move (.tmp 0),t73,p73,e73,none⟩,
    ⟨some 79,.fieldAddr T26 (.tmp 8) 4,t74,p74,e74,none⟩,
    ⟨some 80,.load T24 (.tmp 79),t75,p75,e75,none⟩,
    ⟨some 81,.call ⟨.value (.func f34),#[(.tmp 78),(.tmp 80)],ct5⟩,t76,p76,e76,none⟩,
    ⟨some 14,.assign (.tmp 81),t77,p77,e77,none⟩]⟩ false)
  (.seq (.seq (Code.region i14 ⟨[⟨some 82,.move (.tmp 2),t78,p78,e78,none⟩,
    ⟨some 83,.unOp .not T4 (.tmp 82),t79,p79,e79,none⟩]⟩ false)
  (.cond (.tmp 83) (Code.region i15 ⟨[⟨some 14,.assign (.const (.slice none 0 0)),t80,p80,e80,none⟩]⟩ false)
  .skip))
  (.seq (.seq (Code.region i16 ⟨[⟨some 84,.fieldAddr T26 (.tmp 9) 4,t81,p81,e81,none⟩,
    ⟨some 85,.load T24 (.tmp 84),t82,p82,e82,none⟩,
    ⟨some 86,.call ⟨.builtin .len,#[(.tmp 85)],#[T24]⟩,t83,p83,e83,none⟩,
    ⟨some 87,.move (.tmp 14),t84,p84,e84,none⟩,
    ⟨some 88,.call ⟨.builtin .len,#[(.tmp 87)],#[T24]⟩,t85,p85,e85,none⟩,
    ⟨some 89,.binOp .neq T3 (.tmp 86) (.tmp 88) T3,t86,p86,e86,none⟩]⟩ false)
  (.cond (.tmp 89) (.seq (Code.region i17 ⟨[⟨some 10,.assign (.const (.bool false)),t87,p87,e87,none⟩]⟩ false)
  .ret)
  .skip))
  (.seq (.seq (Code.region i18 ⟨[⟨some 90,.move (.tmp 14),t88,p88,e88,none⟩,
    ⟨some 91,.call ⟨.builtin .len,#[(.tmp 90)],#[T24]⟩,t89,p89,e89,none⟩,
    ⟨some 92,.move (.const (.int .i64 0)),t90,p90,e90,none⟩]⟩ false)
  (.block 2 (.loop (.seq (Code.region i19 ⟨[⟨some 93,.binOp .lss T3 (.tmp 92) (.tmp 91) T3,t91,p91,e91,none⟩]⟩ false)
  (.seq (.cond (.tmp 93) .skip
  (.exit 2))
  (.seq (.block 3 (.seq (Code.region i20 ⟨[⟨some 94,.move (.tmp 92),t92,p92,e92,none⟩,
    ⟨some 95,.indexAddr T24 (.tmp 90) (.tmp 92),t93,p93,e93,none⟩,
    ⟨some 96,.load T66 (.tmp 95),t94,p94,e94,none⟩,
    ⟨some 16,.alloc T66,t95,p95,e95,none⟩,
    ⟨some 15,.assign (.tmp 94),t96,p96,e96,none⟩,
    ⟨none,.store T66 (.tmp 16) (.tmp 96),t97,p97,e97,none⟩]⟩ false)
  (.seq (Code.region i21 ⟨[⟨some 97,.fieldAddr T26 (.tmp 9) 4,t98,p98,e98,none⟩,
    ⟨some 98,.load T24 (.tmp 97),t99,p99,e99,none⟩,
    ⟨some 99,.move (.tmp 15),t100,p100,e100,none⟩,
    ⟨some 100,.indexAddr T24 (.tmp 98) (.tmp 99),t101,p101,e101,none⟩,
    ⟨some 101,.fieldAddr T66 (.tmp 100) 0,t102,p102,e102,none⟩,
    ⟨some 102,.load T64 (.tmp 101),t103,p103,e103,none⟩,
    ⟨some 103,.fieldAddr T66 (.tmp 16) 0,t104,p104,e104,none⟩,
    ⟨some 104,.load T64 (.tmp 103),t105,p105,e105,none⟩,
    ⟨some 105,.binOp .neq T64 (.tmp 102) (.tmp 104) T64,t106,p106,e106,none⟩,
    ⟨some 106,.move (.tmp 105),t107,p107,e107,none⟩,
    ⟨some 107,.fieldAddr T26 (.tmp 9) 4,t108,p108,e108,some (9,false)⟩,
    ⟨some 108,.load T24 (.tmp 107),t109,p109,e109,some (9,false)⟩,
    ⟨some 109,.move (.tmp 15),t110,p110,e110,some (9,false)⟩,
    ⟨some 110,.indexAddr T24 (.tmp 108) (.tmp 109),t111,p111,e111,some (9,false)⟩,
    ⟨some 111,.fieldAddr T66 (.tmp 110) 1,t112,p112,e112,some (9,false)⟩,
    ⟨some 112,.load T22 (.tmp 111),t113,p113,e113,some (9,false)⟩,
    ⟨some 113,.fieldAddr T66 (.tmp 16) 1,t114,p114,e114,some (9,false)⟩,
    ⟨some 114,.load T22 (.tmp 113),t115,p115,e115,some (9,false)⟩,
    ⟨some 115,.call ⟨.value (.func f36),#[(.tmp 114)],ct6⟩,t116,p116,e116,some (9,false)⟩,
    ⟨some 116,.call ⟨.value (.func f35),#[(.tmp 112),(.tmp 115)],ct7⟩,t117,p117,e117,some (9,false)⟩,
    ⟨some 117,.unOp .not T4 (.tmp 116),t118,p118,e118,some (9,false)⟩,
    ⟨some 118,.pick (.tmp 106) (.const (.bool true)) (.tmp 117),t119,p119,e119,none⟩]⟩ true)
  (.cond (.tmp 118) (.seq (Code.region i22 ⟨[⟨some 10,.assign (.const (.bool false)),t120,p120,e120,none⟩]⟩ false)
  .ret)
  .skip))))
  (Code.region i23 ⟨[⟨some 119,.binOp .add T3 (.tmp 92) (.const (.int .i64 1)) T3,t121,p121,e121,none⟩,
    ⟨some 92,.move (.tmp 119),t122,p122,e122,none⟩]⟩ false)))))))
  (.seq (Code.region i24 ⟨[⟨some 10,.assign (.const (.bool true)),t123,p123,e123,none⟩]⟩ false)
  .ret)))))))))
    (hFlT26:Flat P T26 zT) (hcT23:scal P T23=true) (hsT23:slTy P T23=true) (hsT29:slTy P T29=true) (hs_T29:sliceOf P T29 te8 8 tb=true) (hFlT51:Flat P T51 zF) (hcT3:scal P T3=true) (hs_T23:sliceOf P T23 te5 5 tb5=true) (he8:edgeOk 0 [e47,e48,e49,e50,e51,e52,e53,e54,e55,e56,e57] [[],[],[],[],[],[4],[],[5,6],[7],[0,1,2,3,8],[9]]=true) (hmx:P.follows .mixedOrders=true) (hz8:zeroIs P te8 zF) (hz5:zeroIs P te5 zT) (he10:edgeOk 0 [e59,e60,e61,e62,e63,e64,e65,e66,e67,e68,e69] [[],[0],[],[2],[],[3,4],[5],[6],[7],[1,8],[9]]=true) (hcT24:scal P T24=true) (hsT24:slTy P T24=true) (hs_T24:sliceOf P T24 teT 2 32=true) (hFlT66:Flat P T66 zTag) (hcT64:scal P T64=true) (hcT22:scal P T22=true) (he21:edgeOk 0 [e98,e99,e100,e101,e102,e103,e104,e105,e106,e107,e108,e109,e110,e111,e112,e113,e114,e115,e116,e117,e118,e119] [[],[0],[],[1,2],[3],[4],[],[6],[5,7],[8],[9],[9,10],[9],[9,11,12],[9,13],[9,14],[9],[9,16],[9,17],[9,15,18],[9,19],[9,20]]=true) (hUsu:∀ fd ∈ fs,UsuM P f33 [fd]) (htg:∀ f ∈ fs,f.tag < 4294967295) (hFd:∀ fd ∈ fs,ToldFM P f32 fd (Rf fd)) (hAt:AtM P f29) (hHa:HasM P f30) (hUn:UnkM P f34) (hWh:WholeM P f36) (hSa:SameM P f35):ToldM P f fs (TdG fs Rf):=by
  refine ⟨enters_of hf hname hbody,?_⟩
  intro w A B C v ver flex ct cg t g hfs ht hg hA hB hC hR
  cases t with
  | mk n s nl l u =>
  cases g with
  | mk gn gs gnl gl gu =>
  have ht0:=ht
  obtain ⟨sv,lv,uv,rfl,hn,hs,hl,hu⟩:=repT_iff.1 ht
  obtain ⟨gsv,glv,guv,rfl,hgn,hgs,hgl,hgu⟩:=repT_iff.1 hg
  obtain ⟨gq,gcap,rfl,-,-,hge⟩:=hgl.sl2
  obtain ⟨guq,gucap,rfl,-,hgub,hgue⟩:=hgu.sl2
  obtain ⟨hR1,hR2,hR3⟩:=hR
  simp only[T.l,T.u] at hR1 hR2 hR3
  obtain ⟨q,cap,hv,hbig,hk⟩:=hfs.slice
  subst hv
  refine calls_of_wp hf hbody ?_
  generalize ha0:({ tmps:=#[Value.slice q fs.length cap,Value.int .i64 ver,Value.bool flex,Value.agg ([.int .i64 n,sv,.bool nl,lv,uv]:List Value).toArray,Value.agg ([.int .i64 gn,gsv,.bool gnl,.slice gq gl.length gcap,.slice guq gu.length gucap]:List Value).toArray]++Array.replicate (fn.ntmps - (#[Value.slice q fs.length cap,Value.int .i64 ver,Value.bool flex,Value.agg ([.int .i64 n,sv,.bool nl,lv,uv]:List Value).toArray,Value.agg ([.int .i64 gn,gsv,.bool gnl,.slice gq gl.length gcap,.slice guq gu.length gucap]:List Value).toArray]:Array Value).size) undef,defers:=[] }:Act)=a0
  have hz0:a0.tmps.size=120:=by subst ha0;simp[hN]
  have hd0:a0.defers=[]:=by subst ha0;rfl
  have g0_0:get a0 0 = .slice q fs.length cap:=by subst ha0;exact gAr rfl
  have g0_1:get a0 1 = .int .i64 ver:=by subst ha0;exact gAr rfl
  have g0_2:get a0 2 = .bool flex:=by subst ha0;exact gAr rfl
  have g0_3:get a0 3 = .agg ([.int .i64 n,sv,.bool nl,lv,uv]:List Value).toArray:=by subst ha0;exact gAr rfl
  have g0_4:get a0 4 = .agg ([.int .i64 gn,gsv,.bool gnl,.slice gq gl.length gcap,.slice guq gu.length gucap]:List Value).toArray:=by subst ha0;exact gAr rfl
  refine wT fun K1 hK1=>?_
  refine wC (wp_boxL (cs:=[.int .i64 n,sv,.bool nl,lv,uv]) (eK g0_3) ?_)
  rintro w2 f2 sz2 r2 th2
  have hF3:Fr [] w w2:=f2
  refine wC (wp_boxL (cs:=[.int .i64 gn,gsv,.bool gnl,.slice gq gl.length gcap,.slice guq gu.length gucap]) (eK g0_4) ?_)
  rintro w4 f4 sz4 r4 th4
  have hF5:Fr [] w w4:=hF3.tr f4
  have rb6:=f4.range r2 .nil
  refine wC (wAs (v:=.bool false) rfl ?_)
  refine wEn fun a7 ha7=>?_
  have hz7:=kS ha7 hz0
  have hd7:=kD ha7 hd0
  have g7_0:=kP ha7 g0_0
  have g7_1:=kP ha7 g0_1
  have g7_2:=kP ha7 g0_2
  have g7_3:=kP ha7 g0_3
  have g7_4:=kP ha7 g0_4
  have g7_8:get a7 8 = .pointer (some ⟨w.heap.size,0,none⟩):=kG ha7 hz0
  have g7_9:get a7 9 = .pointer (some ⟨w2.heap.size,0,none⟩):=kG ha7 hz0
  have g7_10:get a7 10 = .bool false:=kG ha7 hz0
  have hsz0:w.heap.size+2≤w4.heap.size:=by omega
  refine hK1 a7 w4 (tUp ?_)
  refine tId (wp_seq_k fun K8 hK8=>?_)
  refine wS fun K9 hK9=>?_
  refine wC (wFa (b:=w2.heap.size) (i:=0) (hFlT26.fld (by decide)) (eK g7_9) ?_)
  rw[show (0+3:Nat)=3 from rfl]
  refine wC (wL0 (j:=3) (v:=.slice gq gl.length gcap) hcT23 (eS hz7) r4 rfl ?_)
  refine wC (wp_lenS (n:=gl.length) hsT23 (eS hz7) ?_)
  refine wC (wMv (v:=.slice q fs.length cap) (eK g7_0) ?_)
  refine wC (wp_lenS (n:=fs.length) hsT29 (eS hz7) ?_)
  refine wC (wp_neqF (k1:=.i64) (i:=((gl.length:Nat):Int)) (j:=((fs.length:Nat):Int)) (by rw[hR1]) (eS hz7) (eS hz7) ?_)
  refine wEn fun a10 ha10=>?_
  have hz10:=kS ha10 hz7
  have hd10:=kD ha10 hd7
  have g10_0:=kP ha10 g7_0
  have g10_1:=kP ha10 g7_1
  have g10_2:=kP ha10 g7_2
  have g10_3:=kP ha10 g7_3
  have g10_4:=kP ha10 g7_4
  have g10_8:=kP ha10 g7_8
  have g10_9:=kP ha10 g7_9
  have g10_10:=kP ha10 g7_10
  have g10_22:get a10 22 = .bool false:=kG ha10 hz7
  refine hK9 a10 w4 ?_
  refine wp_cond_split (t:=false) (eK g10_22) (fun h=>by cases h) (fun _=>?_)
  refine wp_skip ?_
  refine hK8 a10 w4 (tUp ?_)
  refine tId (wp_seq_k fun K12 hK12=>?_)
  refine wS fun K13 hK13=>?_
  refine wC (wMv (v:=.slice q fs.length cap) (eK g10_0) ?_)
  refine wC (wp_lenS (n:=fs.length) hsT29 (eS hz10) ?_)
  refine wC (wMv (v:=.int .i64 0) rfl ?_)
  refine wEn fun a14 ha14=>?_
  have hz14:=kS ha14 hz10
  have hd14:=kD ha14 hd10
  have g14_0:=kP ha14 g10_0
  have g14_1:=kP ha14 g10_1
  have g14_2:=kP ha14 g10_2
  have g14_3:=kP ha14 g10_3
  have g14_4:=kP ha14 g10_4
  have g14_8:=kP ha14 g10_8
  have g14_9:=kP ha14 g10_9
  have g14_10:=kP ha14 g10_10
  have g14_22:=kP ha14 g10_22
  have g14_23:get a14 23 = .slice q fs.length cap:=kG ha14 hz10
  have g14_24:get a14 24 = .int .i64 ((fs.length:Nat):Int):=kG ha14 hz10
  have g14_25:get a14 25 = .int .i64 0:=kG ha14 hz10
  refine hK13 a14 w4 ?_
  refine wp_block (wp_loop_ghost (fun (m:Nat) a' w'=>∃ (j:Nat),a'.tmps.size=120∧a'.defers=[]∧get a' 0 = .slice q fs.length cap∧get a' 1 = .int .i64 ver∧get a' 2 = .bool flex∧get a' 3 = .agg ([.int .i64 n,sv,.bool nl,lv,uv]:List Value).toArray∧get a' 4 = .agg ([.int .i64 gn,gsv,.bool gnl,.slice gq gl.length gcap,.slice guq gu.length gucap]:List Value).toArray∧get a' 8 = .pointer (some ⟨w.heap.size,0,none⟩)∧get a' 9 = .pointer (some ⟨w2.heap.size,0,none⟩)∧get a' 10 = .bool false∧get a' 22 = .bool false∧get a' 23 = .slice q fs.length cap∧get a' 24 = .int .i64 ((fs.length:Nat):Int)∧get a' 25 = .int .i64 (j:Int)∧j+m=fs.length∧w'.rangeAt w.heap.size 0 [.int .i64 n,sv,.bool nl,lv,uv]∧w'.rangeAt w2.heap.size 0 [.int .i64 gn,gsv,.bool gnl,.slice gq gl.length gcap,.slice guq gu.length gucap]∧Fr [] w w'∧w.heap.size+2≤w'.heap.size) fs.length ?_ ?_)
  · exact ⟨0,hz14,hd14,g14_0,g14_1,g14_2,g14_3,g14_4,g14_8,g14_9,g14_10,g14_22,g14_23,g14_24,g14_25,by omega,rb6,r4,hF5,hsz0⟩
  · rintro m a15 w15 ⟨j, hz15, hd15, g15_0, g15_1, g15_2, g15_3, g15_4, g15_8, g15_9, g15_10, g15_22, g15_23, g15_24, g15_25, hjm, hb8, hb9, hfl, hSl⟩
    refine wS fun K16 hK16=>?_
    refine wC (wp_lss (k1:=.i64) (i:=(j:Int)) (j:=((fs.length:Nat):Int)) (eK g15_25) (eK g15_24) ?_)
    refine wEn fun a17 ha17=>?_
    have hz17:=kS ha17 hz15
    have hd17:=kD ha17 hd15
    have g17_0:=kP ha17 g15_0
    have g17_1:=kP ha17 g15_1
    have g17_2:=kP ha17 g15_2
    have g17_3:=kP ha17 g15_3
    have g17_4:=kP ha17 g15_4
    have g17_8:=kP ha17 g15_8
    have g17_9:=kP ha17 g15_9
    have g17_10:=kP ha17 g15_10
    have g17_22:=kP ha17 g15_22
    have g17_23:=kP ha17 g15_23
    have g17_24:=kP ha17 g15_24
    have g17_25:=kP ha17 g15_25
    have g17_26:get a17 26 = .bool (decide (((j:Int):Int) < (((fs.length:Nat):Int):Int))):=kG ha17 hz15
    refine hK16 a17 w15 ?_
    refine wp_seq_k fun K18 hK18=>?_
    refine wp_cond_split (t:=decide (((j:Int):Int) < (((fs.length:Nat):Int):Int))) (eK g17_26) (fun hc19=>?_) (fun hc19=>?_)
    · have hjl : j < fs.length := by simpa using hc19
      obtain ⟨fd,hfd⟩:∃ fd,fs[j]?=some fd:=⟨fs[j],by simp[hjl]⟩
      obtain ⟨bl,ol,cl,hq,hbl2,hrl,hrep⟩:=hk j fd hfd
      obtain ⟨fsv,rfl,hsub⟩:=repF_iff.1 hrep
      have hgj:j < gl.length:=by omega
      obtain ⟨y,hy⟩:∃ y,gl[j]?=some y:=⟨gl[j],by simp[hgj]⟩
      obtain ⟨gb,gol,ec,hgq,hgb,hgr,hgt⟩:=hge j y hy
      have hel:=hgt.length
      obtain ⟨hft,hTd0⟩:=hR2 j fd y hfd hy
      refine wp_skip ?_
      refine hK18 a17 w15 ?_
      refine wp_seq_k fun K20 hK20=>?_
      refine wp_blockT ?_
      refine wS fun K21 hK21=>?_
      refine wC (wMv (v:=.int .i64 (j:Int)) (eK g17_25) ?_)
      refine wC (wp_ixN (b:=bl) (o:=ol) (i:=j) hs_T29 (by rw[eTm,nZ (by decide),g17_23,hq]) (eK g17_25) hjl ?_)
      refine wC (wp_loadFlat (cs:=[.int .i64 fd.kind,.int .i64 fd.fr,.int .i64 fd.to,.int .i64 fd.nul,.int .i64 fd.tag,.int .i64 fd.df,.int .i64 fd.of,fsv]) (b:=bl) (o:=ol+j * 8) hFlT51 rfl (eS hz17) (hfl.range hrl .nil) ?_)
      rw[wCo]
      have hgs22:=hfl.size
      have hgs23:=(Fr.refl [] w15).size
      refine wp_allocL hFlT51 ?_
      rintro w24 f24 sz24 r24 th24
      have hF25:Fr [] w w24:=hfl.tr f24
      have hL25_w15:Fr [] w15 w24:=(Fr.refl [] w15).tr f24
      have rb26:=f24.range hb8 .nil
      have rb27:=f24.range hb9 .nil
      refine wC (wAs (v:=.int .i64 (j:Int)) (eS hz17) ?_)
      refine wC (wp_storeL (cs:=[.int .i64 fd.kind,.int .i64 fd.fr,.int .i64 fd.to,.int .i64 fd.nul,.int .i64 fd.tag,.int .i64 fd.df,.int .i64 fd.of,fsv]) (o:=0) hFlT51 rfl (eS hz17) (eS hz17) (by intro u hu;simp at hu;rcases hu with rfl | rfl | rfl | rfl | rfl | rfl | rfl | rfl <;> first | rfl | exact hsub.one) th24 ?_)
      rintro w28 f28 sz28 r28 th28
      have hF28:Fr [] w w28:=hF25.trans f28 (fun r hr=>.inl (by simp at hr;subst hr;have:=hfl.size;simp only;omega))
      have rb29:=f28.range rb26 (.cons (.inl (by simp only;omega)) .nil)
      have rb30:=f28.range rb27 (.cons (.inl (by simp only;omega)) .nil)
      have hL28_w15:Fr [] w15 w28:=hL25_w15.trans f28 (fun r hr=>.inl (by simp at hr;subst hr;have:=(Fr.refl [] w15).size;simp only;omega))
      refine wEn fun a31 ha31=>?_
      have hz31:=kS ha31 hz17
      have hd31:=kD ha31 hd17
      have g31_0:=kP ha31 g17_0
      have g31_1:=kP ha31 g17_1
      have g31_2:=kP ha31 g17_2
      have g31_3:=kP ha31 g17_3
      have g31_4:=kP ha31 g17_4
      have g31_8:=kP ha31 g17_8
      have g31_9:=kP ha31 g17_9
      have g31_10:=kP ha31 g17_10
      have g31_11:get a31 11 = .int .i64 (j:Int):=kG ha31 hz17
      have g31_12:get a31 12 = .pointer (some ⟨w15.heap.size,0,none⟩):=kG ha31 hz17
      have g31_22:=kP ha31 g17_22
      have g31_23:=kP ha31 g17_23
      have g31_24:=kP ha31 g17_24
      have g31_25:=kP ha31 g17_25
      refine hK21 a31 w28 ?_
      refine wS fun K32 hK32=>?_
      refine wC (wp_loadFlat (cs:=[.int .i64 n,sv,.bool nl,lv,uv]) (b:=w.heap.size) (o:=0) hFlT26 rfl (eK g31_8) rb29 ?_)
      refine wC (wMv (v:=.int .i64 (j:Int)) (eK g31_11) ?_)
      refine wC (wCr (R:=fun x wz=>∃ cs:List Value,x = .agg cs.toArray∧Fr [] w28 wz∧((∀ b,B b→b < w28.heap.size)→RepT wz B cs (atT l j))) (vs:=#[.agg ([.int .i64 n,sv,.bool nl,lv,uv]:List Value).toArray,.int .i64 (j:Int)]) hAt.enters (mX2 (eS hz31) (eS hz31)) ((hAt.call w28 B _ (.mk n s nl l u) j (ht0.kept hF28 (by simp) (fun _ h=>h))).mono (by rintro e wz ⟨cs,rfl,h1,h2⟩;exact ⟨_,rfl,cs,rfl,h1,h2⟩)) ?_)
      rintro _ w33 ⟨xc,rfl,fr33,hxr33⟩
      have hxt:=hxr33 (fun b hb=>Nat.lt_of_lt_of_le (hB b hb) hF28.size)
      have hxl:=hxt.length
      have hxo:=hxt.ones
      have hF34:Fr [] w w33:=hF28.tr fr33
      have hL34_w15:Fr [] w15 w33:=hL28_w15.tr fr33
      have hL34_w28:Fr [] w28 w33:=(Fr.refl [] w28).tr fr33
      have rb35:=fr33.range rb29 .nil
      have rb36:=fr33.range rb30 .nil
      have rb37:=fr33.range r28 .nil
      rw[wCo]
      have hgs38:=hF34.size
      have hgs39:=hL34_w15.size
      have hgs40:=hL34_w28.size
      have hgs41:=(Fr.refl [] w33).size
      refine wp_allocL hFlT26 ?_
      rintro w42 f42 sz42 r42 th42
      have hF43:Fr [] w w42:=hF34.tr f42
      have hL43_w15:Fr [] w15 w42:=hL34_w15.tr f42
      have hL43_w33:Fr [] w33 w42:=(Fr.refl [] w33).tr f42
      have rb44:=f42.range rb35 .nil
      have rb45:=f42.range rb36 .nil
      have rb46:=f42.range rb37 .nil
      refine wC (wp_storeL (cs:=xc) (o:=0) hFlT26 hxl (eS hz31) (eS hz31) hxo th42 ?_)
      rintro w47 f47 sz47 r47 th47
      have hF47:Fr [] w w47:=hF43.trans f47 (fun r hr=>.inl (by simp at hr;subst hr;have:=hF34.size;simp only;omega))
      have rb48:=f47.range rb44 (.cons (.inl (by simp only;omega)) .nil)
      have rb49:=f47.range rb45 (.cons (.inl (by simp only;omega)) .nil)
      have rb50:=f47.range rb46 (.cons (.inl (by simp only;omega)) .nil)
      have hL47_w15:Fr [] w15 w47:=hL43_w15.trans f47 (fun r hr=>.inl (by simp at hr;subst hr;have:=hL34_w15.size;simp only;omega))
      have hL47_w33:Fr [] w33 w47:=hL43_w33.trans f47 (fun r hr=>.inl (by simp at hr;subst hr;have:=(Fr.refl [] w33).size;simp only;omega))
      refine wEn fun a51 ha51=>?_
      have hz51:=kS ha51 hz31
      have hd51:=kD ha51 hd31
      have g51_0:=kP ha51 g31_0
      have g51_1:=kP ha51 g31_1
      have g51_2:=kP ha51 g31_2
      have g51_3:=kP ha51 g31_3
      have g51_4:=kP ha51 g31_4
      have g51_8:=kP ha51 g31_8
      have g51_9:=kP ha51 g31_9
      have g51_10:=kP ha51 g31_10
      have g51_11:=kP ha51 g31_11
      have g51_12:=kP ha51 g31_12
      have g51_13:get a51 13 = .pointer (some ⟨w33.heap.size,0,none⟩):=kG ha51 hz31
      have g51_22:=kP ha51 g31_22
      have g51_23:=kP ha51 g31_23
      have g51_24:=kP ha51 g31_24
      have g51_25:=kP ha51 g31_25
      refine hK32 a51 w47 ?_
      refine wp_seq_k fun K52 hK52=>?_
      refine wp_seq_k fun K53 hK53=>?_
      by_cases hhas:fd.has ver=true
      · have hTd : Rf fd ver flex (atT l j) y := by rw [if_pos hhas] at hTd0; exact hTd0
        refine wp_regG ?_
        refine gCn ?_
        refine wFa (b:=w15.heap.size) (i:=0) (hFlT51.fld (by decide)) (eK g51_12) ?_
        rw[show (0+4:Nat)=4 from rfl]
        refine gCn ?_
        refine wL0 (j:=4) (v:=.int .i64 fd.tag) hcT3 (eS hz51) rb50 rfl ?_
        refine gCn ?_
        refine wp_lssT (k1:=.i64) (i:=fd.tag) (j:=0) (by exact hft) (eS hz51) rfl ?_
        refine gCn ?_
        refine wMv (v:=.bool true) (eS hz51) ?_
        refine wg_yes (dj:=36) rfl (lZ hz51) (gS hz51) ?_
        refine wp_loadFlat (cs:=[.int .i64 fd.kind,.int .i64 fd.fr,.int .i64 fd.to,.int .i64 fd.nul,.int .i64 fd.tag,.int .i64 fd.df,.int .i64 fd.of,fsv]) (b:=w15.heap.size) (o:=0) hFlT51 rfl (eK g51_12) rb50 ?_
        refine wg_yes (dj:=36) rfl (lZ hz51) (gS hz51) ?_
        refine wMv (v:=.int .i64 ver) (eK g51_1) ?_
        refine wg_yes (dj:=36) rfl (lZ hz51) (gS hz51) ?_
        refine wCr (R:=fun x wz=>x = .bool true∧Fr [] w47 wz) (vs:=#[.agg ([.int .i64 fd.kind,.int .i64 fd.fr,.int .i64 fd.to,.int .i64 fd.nul,.int .i64 fd.tag,.int .i64 fd.df,.int .i64 fd.of,fsv]:List Value).toArray,.int .i64 ver]) hHa.enters (mX2 (eS hz51) (eS hz51)) ((hHa.call w47 A _ fd ver (hrep.kept hF47 (by simp) (fun _ h=>h))).mono (by rintro e w' ⟨rfl,hf⟩;exact ⟨_,rfl,by rw[hhas],hf⟩)) ?_
        rintro x54 w54 ⟨rfl,fr54⟩
        have hF55:Fr [] w w54:=hF47.tr fr54
        have hL55_w15:Fr [] w15 w54:=hL47_w15.tr fr54
        have hL55_w33:Fr [] w33 w54:=hL47_w33.tr fr54
        have rb56:=fr54.range rb48 .nil
        have rb57:=fr54.range rb49 .nil
        have rb58:=fr54.range rb50 .nil
        have rb59:=fr54.range r47 .nil
        refine gCn ?_
        refine wp_pickYes (v:=.bool true) (eS hz51) (eS hz51) ?_
        refine gCn ?_
        refine wMv (v:=.bool true) (eS hz51) ?_
        refine wg_noF (dj:=41) rfl (lZ hz51) (gS hz51) ?_
        refine wg_noF (dj:=41) rfl (lZ hz51) (gS hz51) ?_
        refine wg_noF (dj:=41) rfl (lZ hz51) (gS hz51) ?_
        refine wg_noF (dj:=41) rfl (lZ hz51) (gS hz51) ?_
        refine wg_un (dj:=45) rfl (gS hz51) ?_
        refine wg_noF (dj:=41) rfl (lZ hz51) (gS hz51) ?_
        refine wg_noF (dj:=41) rfl (lZ hz51) (gS hz51) ?_
        refine wg_un (dj:=48) rfl (gS hz51) ?_
        refine wg_un (dj:=48) rfl (gS hz51) ?_
        refine wg_un (dj:=48) rfl (gS hz51) ?_
        refine wg_un (dj:=48) rfl (gS hz51) ?_
        refine wg_noF (dj:=41) rfl (lZ hz51) (gS hz51) ?_
        refine gCn ?_
        refine wp_pickYes (v:=.bool true) (eS hz51) rfl ?_
        refine wg_end fun a60 ha60=>?_
        have hz60:=kS ha60 hz51
        have hd60:=kD ha60 hd51
        have g60_0:=kP ha60 g51_0
        have g60_1:=kP ha60 g51_1
        have g60_2:=kP ha60 g51_2
        have g60_3:=kP ha60 g51_3
        have g60_4:=kP ha60 g51_4
        have g60_8:=kP ha60 g51_8
        have g60_9:=kP ha60 g51_9
        have g60_10:=kP ha60 g51_10
        have g60_11:=kP ha60 g51_11
        have g60_12:=kP ha60 g51_12
        have g60_13:=kP ha60 g51_13
        have g60_22:=kP ha60 g51_22
        have g60_23:=kP ha60 g51_23
        have g60_24:=kP ha60 g51_24
        have g60_25:=kP ha60 g51_25
        have g60_54:get a60 54 = .bool true:=kG ha60 hz51
        refine hK53 a60 w54 ?_
        refine wp_cond_split (t:=true) (eK g60_54) (fun _=>?_) (fun h=>by cases h)
        refine wp_seq_k fun K62 hK62=>?_
        refine wp_seq_k fun K63 hK63=>?_
        have hxt8:=hxt.kept hL55_w33 (by simp) (fun _ h=>h)
        refine wp_drawE0 [spC [] (.agg ([.int .i64 fd.kind,.int .i64 fd.fr,.int .i64 fd.to,.int .i64 fd.nul,.int .i64 fd.tag,.int .i64 fd.df,.int .i64 fd.of,fsv]:List Value).toArray),spC [] (.int .i64 ver),spC [] (.bool flex),spC [] (.agg (xc).toArray),spC [] (.pointer (some ⟨w2.heap.size,3,none⟩)),spC [4] (.slice gq gl.length gcap),spC [] (.int .i64 (j:Int)),spC [5,6] (.pointer (some ⟨gb,gol+j * 5,none⟩)),spC [7] (.agg (ec).toArray),spR [0,1,2,3,8] (fun x w'=>x = .bool true),spC [9] (.bool false)] 55 [] hmx he8 (by simp[shape]) (by simp[spC,spR]) (by simp;omega) ⟨lCc _ _ _,lCc _ _ _,lCc _ _ _,lCc _ _ _,lCc _ _ _,lCc _ _ _,lCc _ _ _,lCc _ _ _,lCc _ _ _,(fun v w1 w2 f h=>h),lCc _ _ _,trivial⟩ ?_ ?_
        · refine oCs ?_ ?_
          · refine op_c fun a' w' hk' hf' hd' K' hK' => ?_
            refine wp_loadFlat (cs:=[.int .i64 fd.kind,.int .i64 fd.fr,.int .i64 fd.to,.int .i64 fd.nul,.int .i64 fd.tag,.int .i64 fd.df,.int .i64 fd.of,fsv]) (b:=w15.heap.size) (o:=0) hFlT51 rfl (by rw[eTm,hk'.get 12 (by omega),g60_12]) (hf'.range rb58 .nil) ?_
            exact hK'
          refine oCs ?_ ?_
          · refine op_c fun a' w' hk' hf' hd' K' hK' => ?_
            refine wMv (v:=.int .i64 ver) (by rw[eTm,hk'.get 1 (by omega),g60_1]) ?_
            exact hK'
          refine oCs ?_ ?_
          · refine op_c fun a' w' hk' hf' hd' K' hK' => ?_
            refine wMv (v:=.bool flex) (by rw[eTm,hk'.get 2 (by omega),g60_2]) ?_
            exact hK'
          refine oCs ?_ ?_
          · refine op_c fun a' w' hk' hf' hd' K' hK' => ?_
            refine wp_loadFlat (cs:=xc) (b:=w33.heap.size) (o:=0) hFlT26 hxl (by rw[eTm,hk'.get 13 (by omega),g60_13]) ((hf'.range rb59 .nil)) ?_
            exact hK'
          refine oCs ?_ ?_
          · refine op_c fun a' w' hk' hf' hd' K' hK' => ?_
            refine wFa (b:=w2.heap.size) (i:=0) (hFlT26.fld (by decide)) (by rw[eTm,hk'.get 9 (by omega),g60_9]) ?_
            rw[show (0+3:Nat)=3 from rfl]
            exact hK'
          refine oCs ?_ ?_
          · refine op_c fun a' w' hk' hf' hd' K' hK' => ?_
            refine wL0 (j:=3) (v:=.slice gq gl.length gcap) hcT23 (by rw[eTm];exact hd'.c (nd':=[]) 4 (by simp) rfl) (hf'.range rb57 .nil) rfl ?_
            exact hK'
          refine oCs ?_ ?_
          · refine op_c fun a' w' hk' hf' hd' K' hK' => ?_
            refine wMv (v:=.int .i64 (j:Int)) (by rw[eTm,hk'.get 11 (by omega),g60_11]) ?_
            exact hK'
          refine oCs ?_ ?_
          · refine op_c fun a' w' hk' hf' hd' K' hK' => ?_
            refine wp_ixN (b:=gb) (o:=gol) (i:=j) hs_T23 (by rw[eTm,← hgq];exact hd'.c (nd':=[4]) 5 (by simp) rfl) (by rw[eTm];exact hd'.c (nd':=[]) 6 (by simp) rfl) hgj ?_
            exact hK'
          refine oCs ?_ ?_
          · refine op_c fun a' w' hk' hf' hd' K' hK' => ?_
            refine wp_loadFlat (cs:=ec) (b:=gb) (o:=gol+j * 5) hFlT26 hel (by rw[eTm];exact hd'.c (nd':=[5,6]) 7 (by simp) rfl) ((hF55.tr hf').range hgr .nil) ?_
            exact hK'
          refine oCs ?_ ?_
          · refine op_r fun a' w' hk' hf' hd' K' hK' => ?_
            refine wCr (R:=fun x wz=>x = .bool true∧Fr [] w' wz) (vs:=#[.agg ([.int .i64 fd.kind,.int .i64 fd.fr,.int .i64 fd.to,.int .i64 fd.nul,.int .i64 fd.tag,.int .i64 fd.df,.int .i64 fd.of,fsv]:List Value).toArray,.int .i64 ver,.bool flex,.agg (xc).toArray,.agg (ec).toArray]) (hFd fd (List.mem_of_getElem? hfd)).enters (by simp only[List.map_toArray,List.map_cons,List.map_nil];rw[show a'.eval (.tmp 55)=Value.agg ([.int .i64 fd.kind,.int .i64 fd.fr,.int .i64 fd.to,.int .i64 fd.nul,.int .i64 fd.tag,.int .i64 fd.df,.int .i64 fd.of,fsv]:List Value).toArray from (by rw[eTm];exact hd'.c (nd':=[]) 0 (by simp) rfl),show a'.eval (.tmp 56)=Value.int .i64 ver from (by rw[eTm];exact hd'.c (nd':=[]) 1 (by simp) rfl),show a'.eval (.tmp 57)=Value.bool flex from (by rw[eTm];exact hd'.c (nd':=[]) 2 (by simp) rfl),show a'.eval (.tmp 58)=Value.agg (xc).toArray from (by rw[eTm];exact hd'.c (nd':=[]) 3 (by simp) rfl),show a'.eval (.tmp 63)=Value.agg (ec).toArray from (by rw[eTm];exact hd'.c (nd':=[7]) 8 (by simp) rfl)]) (((hFd fd (List.mem_of_getElem? hfd)).call w' A B C ver flex _ _ ec (atT l j) y (hrep.kept (hF55.tr hf') (by simp) (fun _ h=>h)) (hxt8.kept hf' (by simp) (fun _ h=>h)) (hgt.kept (hF55.tr hf') (by simp) (fun _ h=>h)) (fun b hb=>Nat.lt_of_lt_of_le (hA b hb) (hF55.tr hf').size) (fun b hb=>Nat.lt_of_lt_of_le (hB b hb) (hF55.tr hf').size) (fun b hb=>Nat.lt_of_lt_of_le (hC b hb) (hF55.tr hf').size) hTd).mono (by rintro e wz ⟨rfl,h⟩;exact ⟨_,rfl,rfl,h⟩)) ?_
            rintro _ w64 ⟨rfl,fr64⟩
            exact hK' _ w64 rfl fr64
          refine oCs ?_ ?_
          · refine op_c fun a' w' hk' hf' hd' K' hK' => ?_
            have hbt:get a' 64 = .bool true:=hd'.at (d:=9) (by simp) rfl
            refine wp_not (b:=true) (by rw[eTm];exact hbt) ?_
            rw[show (!true)=false from rfl]
            exact hK'
          exact opsOk_nil
        intro a65 w65 k65 f65 hd_65
        have g65_0:get a65 0 = .slice q fs.length cap:=by rw[k65.get 0 (by omega),g60_0]
        have g65_1:get a65 1 = .int .i64 ver:=by rw[k65.get 1 (by omega),g60_1]
        have g65_2:get a65 2 = .bool flex:=by rw[k65.get 2 (by omega),g60_2]
        have g65_3:get a65 3 = .agg ([.int .i64 n,sv,.bool nl,lv,uv]:List Value).toArray:=by rw[k65.get 3 (by omega),g60_3]
        have g65_4:get a65 4 = .agg ([.int .i64 gn,gsv,.bool gnl,.slice gq gl.length gcap,.slice guq gu.length gucap]:List Value).toArray:=by rw[k65.get 4 (by omega),g60_4]
        have g65_8:get a65 8 = .pointer (some ⟨w.heap.size,0,none⟩):=by rw[k65.get 8 (by omega),g60_8]
        have g65_9:get a65 9 = .pointer (some ⟨w2.heap.size,0,none⟩):=by rw[k65.get 9 (by omega),g60_9]
        have g65_10:get a65 10 = .bool false:=by rw[k65.get 10 (by omega),g60_10]
        have g65_22:get a65 22 = .bool false:=by rw[k65.get 22 (by omega),g60_22]
        have g65_23:get a65 23 = .slice q fs.length cap:=by rw[k65.get 23 (by omega),g60_23]
        have g65_24:get a65 24 = .int .i64 ((fs.length:Nat):Int):=by rw[k65.get 24 (by omega),g60_24]
        have g65_25:get a65 25 = .int .i64 (j:Int):=by rw[k65.get 25 (by omega),g60_25]
        have hz65:a65.tmps.size=120:=k65.size.trans hz60
        have hd65:a65.defers=[]:=k65.defers.trans hd60
        have g65_65:get a65 65 = .bool false:=hd_65.c (nd':=[9]) 10 (by simp) rfl
        have hF66:Fr [] w w65:=hF55.tr f65
        have hL66_w15:Fr [] w15 w65:=hL55_w15.tr f65
        have rb67:=f65.range rb56 .nil
        have rb68:=f65.range rb57 .nil
        have rb69:=f65.range rb58 .nil
        have rb70:=f65.range rb59 .nil
        refine hK63 a65 w65 ?_
        refine wp_cond_split (t:=false) (eK g65_65) (fun h=>by cases h) (fun _=>?_)
        refine wp_skip ?_
        refine hK62 a65 w65 ?_
        refine wp_exit ?_
        show K20 a65 w65
        refine hK20 a65 w65 ?_
        refine wp_reg ?_
        refine wC (wp_add (k1:=.i64) (i:=(j:Int)) (j:=1) (eK g65_25) rfl ?_)
        rw[show (IntKind.i64.wrap (((j:Int):Int)+(1:Int)):Int)=(((j+1:Nat):Int):Int) from by simp only[IntKind.wrap,IntKind.bits,IntKind.signed];simp;omega]
        refine wC (wMv (v:=.int .i64 ((j+1:Nat):Int)) (eS hz65) ?_)
        refine wEn fun a72 ha72=>?_
        have hz72:=kS ha72 hz65
        have hd72:=kD ha72 hd65
        have g72_0:=kP ha72 g65_0
        have g72_1:=kP ha72 g65_1
        have g72_2:=kP ha72 g65_2
        have g72_3:=kP ha72 g65_3
        have g72_4:=kP ha72 g65_4
        have g72_8:=kP ha72 g65_8
        have g72_9:=kP ha72 g65_9
        have g72_10:=kP ha72 g65_10
        have g72_22:=kP ha72 g65_22
        have g72_23:=kP ha72 g65_23
        have g72_24:=kP ha72 g65_24
        have g72_25:get a72 25 = .int .i64 ((j+1:Nat):Int):=kG ha72 hz65
        exact ⟨m - 1,by omega,j+1,hz72,hd72,g72_0,g72_1,g72_2,g72_3,g72_4,g72_8,g72_9,g72_10,g72_22,g72_23,g72_24,g72_25,by omega,rb67,rb68,hF66,Nat.le_trans hSl hL66_w15.size⟩
      have hUs:UsB fd y:=by rw[if_neg hhas] at hTd0;exact hTd0
      have hhas0:fd.has ver=false:=by simpa using hhas
      refine wp_regG ?_
      refine gCn ?_
      refine wFa (b:=w15.heap.size) (i:=0) (hFlT51.fld (by decide)) (eK g51_12) ?_
      rw[show (0+4:Nat)=4 from rfl]
      refine gCn ?_
      refine wL0 (j:=4) (v:=.int .i64 fd.tag) hcT3 (eS hz51) rb50 rfl ?_
      refine gCn ?_
      refine wp_lssT (k1:=.i64) (i:=fd.tag) (j:=0) (by exact hft) (eS hz51) rfl ?_
      refine gCn ?_
      refine wMv (v:=.bool true) (eS hz51) ?_
      refine wg_yes (dj:=36) rfl (lZ hz51) (gS hz51) ?_
      refine wp_loadFlat (cs:=[.int .i64 fd.kind,.int .i64 fd.fr,.int .i64 fd.to,.int .i64 fd.nul,.int .i64 fd.tag,.int .i64 fd.df,.int .i64 fd.of,fsv]) (b:=w15.heap.size) (o:=0) hFlT51 rfl (eK g51_12) rb50 ?_
      refine wg_yes (dj:=36) rfl (lZ hz51) (gS hz51) ?_
      refine wMv (v:=.int .i64 ver) (eK g51_1) ?_
      refine wg_yes (dj:=36) rfl (lZ hz51) (gS hz51) ?_
      refine wCr (R:=fun x wz=>x = .bool false∧Fr [] w47 wz) (vs:=#[.agg ([.int .i64 fd.kind,.int .i64 fd.fr,.int .i64 fd.to,.int .i64 fd.nul,.int .i64 fd.tag,.int .i64 fd.df,.int .i64 fd.of,fsv]:List Value).toArray,.int .i64 ver]) hHa.enters (mX2 (eS hz51) (eS hz51)) ((hHa.call w47 A _ fd ver (hrep.kept hF47 (by simp) (fun _ h=>h))).mono (by rintro e w' ⟨rfl,hf⟩;exact ⟨_,rfl,by rw[hhas0],hf⟩)) ?_
      rintro x73 w73 ⟨rfl,fr73⟩
      have hF74:Fr [] w w73:=hF47.tr fr73
      have hL74_w15:Fr [] w15 w73:=hL47_w15.tr fr73
      have rb75:=fr73.range rb48 .nil
      have rb76:=fr73.range rb49 .nil
      have rb77:=fr73.range rb50 .nil
      have rb78:=fr73.range r47 .nil
      refine gCn ?_
      refine wp_pickYes (v:=.bool false) (eS hz51) (eS hz51) ?_
      refine gCn ?_
      refine wMv (v:=.bool false) (eS hz51) ?_
      refine wg_yes (dj:=41) rfl (lZ hz51) (gS hz51) ?_
      refine wFa (b:=w15.heap.size) (i:=0) (hFlT51.fld (by decide)) (eK g51_12) ?_
      rw[show (0+4:Nat)=4 from rfl]
      refine wg_yes (dj:=41) rfl (lZ hz51) (gS hz51) ?_
      refine wL0 (j:=4) (v:=.int .i64 fd.tag) hcT3 (eS hz51) rb77 rfl ?_
      refine wg_yes (dj:=41) rfl (lZ hz51) (gS hz51) ?_
      refine wp_geqF (k1:=.i64) (i:=fd.tag) (j:=0) (by omega) (eS hz51) rfl ?_
      refine wg_yes (dj:=41) rfl (lZ hz51) (gS hz51) ?_
      refine wMv (v:=.bool false) (eS hz51) ?_
      refine wg_noT (dj:=45) rfl (lZ hz51) (gS hz51) ?_
      refine wg_yes (dj:=41) rfl (lZ hz51) (gS hz51) ?_
      refine wp_pickNo (v:=.bool false) (eS hz51) rfl ?_
      refine wg_yes (dj:=41) rfl (lZ hz51) (gS hz51) ?_
      refine wMv (v:=.bool false) (eS hz51) ?_
      refine wg_noT (dj:=48) rfl (lZ hz51) (gS hz51) ?_
      refine wg_noT (dj:=48) rfl (lZ hz51) (gS hz51) ?_
      refine wg_noT (dj:=48) rfl (lZ hz51) (gS hz51) ?_
      refine wg_noT (dj:=48) rfl (lZ hz51) (gS hz51) ?_
      refine wg_yes (dj:=41) rfl (lZ hz51) (gS hz51) ?_
      refine wp_pickNo (v:=.bool false) (eS hz51) rfl ?_
      refine gCn ?_
      refine wp_pickNo (v:=.bool false) (eS hz51) (eS hz51) ?_
      refine wg_end fun a79 ha79=>?_
      have hz79:=kS ha79 hz51
      have hd79:=kD ha79 hd51
      have g79_0:=kP ha79 g51_0
      have g79_1:=kP ha79 g51_1
      have g79_2:=kP ha79 g51_2
      have g79_3:=kP ha79 g51_3
      have g79_4:=kP ha79 g51_4
      have g79_8:=kP ha79 g51_8
      have g79_9:=kP ha79 g51_9
      have g79_10:=kP ha79 g51_10
      have g79_11:=kP ha79 g51_11
      have g79_12:=kP ha79 g51_12
      have g79_22:=kP ha79 g51_22
      have g79_23:=kP ha79 g51_23
      have g79_24:=kP ha79 g51_24
      have g79_25:=kP ha79 g51_25
      have g79_54:get a79 54 = .bool false:=kG ha79 hz51
      refine hK53 a79 w73 ?_
      refine wp_cond_split (t:=false) (eK g79_54) (fun h=>by cases h) (fun _=>?_)
      refine wp_skip ?_
      refine hK52 a79 w73 ?_
      refine wp_seq_k fun K81 hK81=>?_
      refine wp_drawE0 [spC [] (.agg ([.int .i64 fd.kind,.int .i64 fd.fr,.int .i64 fd.to,.int .i64 fd.nul,.int .i64 fd.tag,.int .i64 fd.df,.int .i64 fd.of,fsv]:List Value).toArray),spR [0] (fun x w'=>FdsR w' (fun b=>A b∨From w73.heap.size w' b) x [fd]),spC [] (.pointer (some ⟨w2.heap.size,3,none⟩)),spC [2] (.slice gq gl.length gcap),spC [] (.int .i64 (j:Int)),spC [3,4] (.pointer (some ⟨gb,gol+j * 5,none⟩)),spC [5] (.agg (ec).toArray),spR [6] (fun x w'=>Things w' (fun b=>C b∨From w73.heap.size w' b) x [y]),spR [7] (fun x w'=>∃ gc:List Value,x = .agg gc.toArray∧RepT w' (fun b=>C b∨From w73.heap.size w' b) gc (.mk 0 [] false [y] [])),spR [1,8] (fun x w'=>x = .bool true),spC [9] (.bool false)] 66 [] hmx he10 (by simp[shape]) (by simp[spC,spR]) (by simp;omega) ⟨lCc _ _ _,(fun v w1 w2 f h=>FdsR.kept h f (by simp) (fun b hb=>hb.imp id (From.mono f.size b))),lCc _ _ _,lCc _ _ _,lCc _ _ _,lCc _ _ _,lCc _ _ _,(fun v w1 w2 f h=>Things.kept h f (by simp) (fun b hb=>hb.imp id (From.mono f.size b))),(fun v w1 w2 f h=>by obtain ⟨gc,h1,h2⟩:=h;exact ⟨gc,h1,h2.kept f (by simp) (fun b hb=>hb.imp id (From.mono f.size b))⟩),(fun v w1 w2 f h=>h),lCc _ _ _,trivial⟩ ?_ ?_
      · refine oCs ?_ ?_
        · refine op_c fun a' w' hk' hf' hd' K' hK' => ?_
          refine wp_loadFlat (cs:=[.int .i64 fd.kind,.int .i64 fd.fr,.int .i64 fd.to,.int .i64 fd.nul,.int .i64 fd.tag,.int .i64 fd.df,.int .i64 fd.of,fsv]) (b:=w15.heap.size) (o:=0) hFlT51 rfl (by rw[eTm,hk'.get 12 (by omega),g79_12]) ((hf'.range rb77 .nil)) ?_
          exact hK'
        refine oCs ?_ ?_
        · refine op_r fun a' w' hk' hf' hd' K' hK' => ?_
          refine wp_fd1 (s0:=w73.heap.size) (A:=A) (cs:=[.int .i64 fd.kind,.int .i64 fd.fr,.int .i64 fd.to,.int .i64 fd.nul,.int .i64 fd.tag,.int .i64 fd.df,.int .i64 fd.of,fsv]) (fd:=fd) hs_T29 hz8 (by rw[eTm];exact hd'.c (nd':=[]) 0 (by simp) rfl) (hrep.kept (hF74.tr hf') (by simp) (fun _ h=>h)) hf'.size ?_
          exact fun w'' v f h=>hK' v w'' h f
        refine oCs ?_ ?_
        · refine op_c fun a' w' hk' hf' hd' K' hK' => ?_
          refine wFa (b:=w2.heap.size) (i:=0) (hFlT26.fld (by decide)) (by rw[eTm,hk'.get 9 (by omega),g79_9]) ?_
          rw[show (0+3:Nat)=3 from rfl]
          exact hK'
        refine oCs ?_ ?_
        · refine op_c fun a' w' hk' hf' hd' K' hK' => ?_
          refine wL0 (j:=3) (v:=.slice gq gl.length gcap) hcT23 (by rw[eTm];exact hd'.c (nd':=[]) 2 (by simp) rfl) (hf'.range rb76 .nil) rfl ?_
          exact hK'
        refine oCs ?_ ?_
        · refine op_c fun a' w' hk' hf' hd' K' hK' => ?_
          refine wMv (v:=.int .i64 (j:Int)) (by rw[eTm,hk'.get 11 (by omega),g79_11]) ?_
          exact hK'
        refine oCs ?_ ?_
        · refine op_c fun a' w' hk' hf' hd' K' hK' => ?_
          refine wp_ixN (b:=gb) (o:=gol) (i:=j) hs_T23 (by rw[eTm,← hgq];exact hd'.c (nd':=[2]) 3 (by simp) rfl) (by rw[eTm];exact hd'.c (nd':=[]) 4 (by simp) rfl) hgj ?_
          exact hK'
        refine oCs ?_ ?_
        · refine op_c fun a' w' hk' hf' hd' K' hK' => ?_
          refine wp_loadFlat (cs:=ec) (b:=gb) (o:=gol+j * 5) hFlT26 hel (by rw[eTm];exact hd'.c (nd':=[3,4]) 5 (by simp) rfl) ((hF74.tr hf').range hgr .nil) ?_
          exact hK'
        refine oCs ?_ ?_
        · refine op_r fun a' w' hk' hf' hd' K' hK' => ?_
          refine wp_th1 (s0:=w73.heap.size) (A:=C) (cs:=ec) (y:=y) hs_T23 hz5 (by rw[eTm];exact hd'.c (nd':=[5]) 6 (by simp) rfl) (hgt.kept (hF74.tr hf') (by simp) (fun _ h=>h)) hf'.size ?_
          exact fun w'' v f h=>hK' v w'' h f
        refine oCs ?_ ?_
        · refine op_r fun a' w' hk' hf' hd' K' hK' => ?_
          have hth:Things w' (fun b=>C b∨From w73.heap.size w' b) (get a' 73) [y]:=hd'.at (d:=7) (by simp) rfl
          refine wp_build1 hFlT26 (by decide) (v:=get a' 73) (by rw[eTm]) hth.one ?_
          exact hK' _ w' ⟨zT.set 3 (get a' 73),rfl,repT_iff.2 ⟨.slice none 0 0,get a' 73,.slice none 0 0,rfl,by omega,.nil,hth,.inl ⟨.inl rfl,rfl⟩⟩⟩ (Fr.refl _ _)
        refine oCs ?_ ?_
        · refine op_r fun a' w' hk' hf' hd' K' hK' => ?_
          obtain ⟨gc,hgc,hgr⟩:∃ gc:List Value,get a' 74 = .agg gc.toArray∧RepT w' (fun b=>C b∨From w73.heap.size w' b) gc (.mk 0 [] false [y] []):=hd'.at (d:=8) (by simp) rfl
          have hfr:FdsR w' (fun b=>A b∨From w73.heap.size w' b) (get a' 67) [fd]:=hd'.at (d:=1) (by simp) rfl
          refine wCr (R:=fun x wz=>x = .bool true∧Fr [] w' wz) (vs:=#[get a' 67,.agg gc.toArray]) (hUsu fd (List.mem_of_getElem? hfd)).enters (by simp only[List.map_toArray,List.map_cons,List.map_nil,eTm];rw[hgc]) (((hUsu fd (List.mem_of_getElem? hfd)).call w' _ _ _ gc _ hfr hgr (by rintro b (hb | hb);exact Nat.lt_of_lt_of_le (hA b hb) (hF74.tr hf').size;exact hb.2) (by rintro b (hb | hb);exact Nat.lt_of_lt_of_le (hC b hb) (hF74.tr hf').size;exact hb.2) rfl (by intro i fd' hi;cases i with | zero=>(obtain rfl:fd=fd':=by simpa using hi);exact hUs | succ i=>simp at hi)).mono (by rintro e wz ⟨rfl,h⟩;exact ⟨_,rfl,rfl,h⟩)) ?_
          rintro _ w82 ⟨rfl,fr82⟩
          exact hK' _ w82 rfl fr82
        refine oCs ?_ ?_
        · refine op_c fun a' w' hk' hf' hd' K' hK' => ?_
          have hbt:get a' 75 = .bool true:=hd'.at (d:=9) (by simp) rfl
          refine wp_not (b:=true) (by rw[eTm];exact hbt) ?_
          rw[show (!true)=false from rfl]
          exact hK'
        exact opsOk_nil
      intro a83 w83 k83 f83 hd_83
      have g83_0:get a83 0 = .slice q fs.length cap:=by rw[k83.get 0 (by omega),g79_0]
      have g83_1:get a83 1 = .int .i64 ver:=by rw[k83.get 1 (by omega),g79_1]
      have g83_2:get a83 2 = .bool flex:=by rw[k83.get 2 (by omega),g79_2]
      have g83_3:get a83 3 = .agg ([.int .i64 n,sv,.bool nl,lv,uv]:List Value).toArray:=by rw[k83.get 3 (by omega),g79_3]
      have g83_4:get a83 4 = .agg ([.int .i64 gn,gsv,.bool gnl,.slice gq gl.length gcap,.slice guq gu.length gucap]:List Value).toArray:=by rw[k83.get 4 (by omega),g79_4]
      have g83_8:get a83 8 = .pointer (some ⟨w.heap.size,0,none⟩):=by rw[k83.get 8 (by omega),g79_8]
      have g83_9:get a83 9 = .pointer (some ⟨w2.heap.size,0,none⟩):=by rw[k83.get 9 (by omega),g79_9]
      have g83_10:get a83 10 = .bool false:=by rw[k83.get 10 (by omega),g79_10]
      have g83_22:get a83 22 = .bool false:=by rw[k83.get 22 (by omega),g79_22]
      have g83_23:get a83 23 = .slice q fs.length cap:=by rw[k83.get 23 (by omega),g79_23]
      have g83_24:get a83 24 = .int .i64 ((fs.length:Nat):Int):=by rw[k83.get 24 (by omega),g79_24]
      have g83_25:get a83 25 = .int .i64 (j:Int):=by rw[k83.get 25 (by omega),g79_25]
      have hz83:a83.tmps.size=120:=k83.size.trans hz79
      have hd83:a83.defers=[]:=k83.defers.trans hd79
      have g83_76:get a83 76 = .bool false:=hd_83.c (nd':=[9]) 10 (by simp) rfl
      have hF84:Fr [] w w83:=hF74.tr f83
      have hL84_w15:Fr [] w15 w83:=hL74_w15.tr f83
      have rb85:=f83.range rb75 .nil
      have rb86:=f83.range rb76 .nil
      have rb87:=f83.range rb77 .nil
      have rb88:=f83.range rb78 .nil
      refine hK81 a83 w83 ?_
      refine wp_cond_split (t:=false) (eK g83_76) (fun h=>by cases h) (fun _=>?_)
      refine wp_skip ?_
      refine hK20 a83 w83 ?_
      refine wp_reg ?_
      refine wC (wp_add (k1:=.i64) (i:=(j:Int)) (j:=1) (eK g83_25) rfl ?_)
      rw[show (IntKind.i64.wrap (((j:Int):Int)+(1:Int)):Int)=(((j+1:Nat):Int):Int) from by simp only[IntKind.wrap,IntKind.bits,IntKind.signed];simp;omega]
      refine wC (wMv (v:=.int .i64 ((j+1:Nat):Int)) (eS hz83) ?_)
      refine wEn fun a90 ha90=>?_
      have hz90:=kS ha90 hz83
      have hd90:=kD ha90 hd83
      have g90_0:=kP ha90 g83_0
      have g90_1:=kP ha90 g83_1
      have g90_2:=kP ha90 g83_2
      have g90_3:=kP ha90 g83_3
      have g90_4:=kP ha90 g83_4
      have g90_8:=kP ha90 g83_8
      have g90_9:=kP ha90 g83_9
      have g90_10:=kP ha90 g83_10
      have g90_22:=kP ha90 g83_22
      have g90_23:=kP ha90 g83_23
      have g90_24:=kP ha90 g83_24
      have g90_25:get a90 25 = .int .i64 ((j+1:Nat):Int):=kG ha90 hz83
      exact ⟨m - 1,by omega,j+1,hz90,hd90,g90_0,g90_1,g90_2,g90_3,g90_4,g90_8,g90_9,g90_10,g90_22,g90_23,g90_24,g90_25,by omega,rb85,rb86,hF84,Nat.le_trans hSl hL84_w15.size⟩
    · refine wp_exit ?_
      show K12 a17 w15
      refine hK12 a17 w15 (tUp ?_)
      refine wT fun K91 hK91=>?_
      refine wC (wMv (v:=.slice q fs.length cap) (eK g17_0) ?_)
      refine wC (wFa (b:=w.heap.size) (i:=0) (hFlT26.fld (by decide)) (eK g17_8) ?_)
      rw[show (0+4:Nat)=4 from rfl]
      refine wC (wL0 (j:=4) (v:=uv) hcT24 (eS hz17) hb8 rfl ?_)
      refine wC (wCr (R:=fun x wz=>Fr [] w15 wz∧TagsR wz (fun b=>B b∨From w15.heap.size wz b) x (unknownW fs u)) (vs:=#[.slice q fs.length cap,uv]) hUn.enters (mX2 (eS hz17) (eS hz17)) ((hUn.call w15 A B _ fs uv u (hfs.kept hfl (by simp) (fun _ h=>h)) htg (hu.kept hfl (by simp) (fun _ h=>h)) (fun b hb=>Nat.lt_of_lt_of_le (hB b hb) hfl.size)).mono (by rintro e wz ⟨x,rfl,h1,h2⟩;exact ⟨x,rfl,h1,h2⟩)) ?_)
      rintro x92 w92 ⟨fr92,hus92⟩
      have hus:=hus92.kept (A':=fun b=>b < w92.heap.size) (Fr.refl [] _) (by simp) (by rintro b (hb | hb);exact Nat.lt_of_lt_of_le (hB b hb) (Nat.le_trans hfl.size fr92.size);exact hb.2)
      have hSu:=Nat.le_trans hSl ((Fr.refl [] w15).tr fr92).size
      have hF93:Fr [] w w92:=hfl.tr fr92
      have rb94:=fr92.range hb8 .nil
      have rb95:=fr92.range hb9 .nil
      refine wC (wAs (v:=x92) (eS hz17) ?_)
      refine wEn fun a96 ha96=>?_
      have hz96:=kS ha96 hz17
      have hd96:=kD ha96 hd17
      have g96_0:=kP ha96 g17_0
      have g96_1:=kP ha96 g17_1
      have g96_2:=kP ha96 g17_2
      have g96_3:=kP ha96 g17_3
      have g96_4:=kP ha96 g17_4
      have g96_8:=kP ha96 g17_8
      have g96_9:=kP ha96 g17_9
      have g96_10:=kP ha96 g17_10
      have g96_14:get a96 14=x92:=kG ha96 hz17
      have g96_22:=kP ha96 g17_22
      have g96_23:=kP ha96 g17_23
      have g96_24:=kP ha96 g17_24
      have g96_25:=kP ha96 g17_25
      refine hK91 a96 w92 (tUp ?_)
      refine tId (wp_seq_k fun K97 hK97=>?_)
      obtain ⟨ul,hul⟩:∃ x,x=if flex then unknownW fs u else []:=⟨_,rfl⟩
      have hgul:gu=ul.map fun p=>(p.1,wholeS p.2):=by rw[hR3,hul];cases flex <;> simp[unksW,T.u]
      have hJ98:∀ (a':Act) (w':World),(∃ (lv14:Value),a'.tmps.size=120∧a'.defers=[]∧get a' 0 = .slice q fs.length cap∧get a' 1 = .int .i64 ver∧get a' 2 = .bool flex∧get a' 3 = .agg ([.int .i64 n,sv,.bool nl,lv,uv]:List Value).toArray∧get a' 4 = .agg ([.int .i64 gn,gsv,.bool gnl,.slice gq gl.length gcap,.slice guq gu.length gucap]:List Value).toArray∧get a' 8 = .pointer (some ⟨w.heap.size,0,none⟩)∧get a' 9 = .pointer (some ⟨w2.heap.size,0,none⟩)∧get a' 10 = .bool false∧get a' 14=lv14∧get a' 22 = .bool false∧get a' 23 = .slice q fs.length cap∧get a' 24 = .int .i64 ((fs.length:Nat):Int)∧get a' 25 = .int .i64 (j:Int)∧TagsR w' (fun b=>b < w92.heap.size) lv14 ul∧w'.rangeAt w2.heap.size 0 [.int .i64 gn,gsv,.bool gnl,.slice gq gl.length gcap,.slice guq gu.length gucap]∧Fr [] w w'∧w92.heap.size≤w'.heap.size)→K97 a' w':=by
        rintro a98 w98 ⟨lv14,hz98,hd98,g98_0,g98_1,g98_2,g98_3,g98_4,g98_8,g98_9,g98_10,g98_14,g98_22,g98_23,g98_24,g98_25,htr14,hb914,hfl14,hS14⟩
        obtain ⟨q14,c14,rfl,-,h14b,h14e⟩:=htr14.sl2
        have hglen:gu.length=ul.length:=by rw[hgul];simp
        refine hK97 a98 w98 (tUp ?_)
        refine tId (wp_seq_k fun K99 hK99=>?_)
        refine wS fun K100 hK100=>?_
        refine wC (wFa (b:=w2.heap.size) (i:=0) (hFlT26.fld (by decide)) (eK g98_9) ?_)
        rw[show (0+4:Nat)=4 from rfl]
        refine wC (wL0 (j:=4) (v:=.slice guq gu.length gucap) hcT24 (eS hz98) hb914 rfl ?_)
        refine wC (wp_lenS (n:=gu.length) hsT24 (eS hz98) ?_)
        refine wC (wMv (v:=.slice q14 ul.length c14) (eK g98_14) ?_)
        refine wC (wp_lenS (n:=ul.length) hsT24 (eS hz98) ?_)
        refine wC (wp_neqF (k1:=.i64) (i:=((gu.length:Nat):Int)) (j:=((ul.length:Nat):Int)) (by rw[hglen]) (eS hz98) (eS hz98) ?_)
        refine wEn fun a101 ha101=>?_
        have hz101:=kS ha101 hz98
        have hd101:=kD ha101 hd98
        have g101_9:=kP ha101 g98_9
        have g101_10:=kP ha101 g98_10
        have g101_14:=kP ha101 g98_14
        have g101_89:get a101 89 = .bool false:=kG ha101 hz98
        refine hK100 a101 w98 ?_
        refine wp_cond_split (t:=false) (eK g101_89) (fun h=>by cases h) (fun _=>?_)
        refine wp_skip ?_
        refine hK99 a101 w98 (tUp ?_)
        refine tId (wp_seq_k fun K103 hK103=>?_)
        refine wS fun K104 hK104=>?_
        refine wC (wMv (v:=.slice q14 ul.length c14) (eK g101_14) ?_)
        refine wC (wp_lenS (n:=ul.length) hsT24 (eS hz101) ?_)
        refine wC (wMv (v:=.int .i64 0) rfl ?_)
        refine wEn fun a105 ha105=>?_
        have hz105:=kS ha105 hz101
        have hd105:=kD ha105 hd101
        have g105_9:=kP ha105 g101_9
        have g105_10:=kP ha105 g101_10
        have g105_14:=kP ha105 g101_14
        have g105_90:get a105 90 = .slice q14 ul.length c14:=kG ha105 hz101
        have g105_91:get a105 91 = .int .i64 ((ul.length:Nat):Int):=kG ha105 hz101
        have g105_92:get a105 92 = .int .i64 0:=kG ha105 hz101
        refine hK104 a105 w98 ?_
        refine wp_block (wp_loop_ghost (fun (m2:Nat) a' w'=>∃ (j:Nat),a'.tmps.size=120∧a'.defers=[]∧get a' 9 = .pointer (some ⟨w2.heap.size,0,none⟩)∧get a' 10 = .bool false∧get a' 14 = .slice q14 ul.length c14∧get a' 90 = .slice q14 ul.length c14∧get a' 91 = .int .i64 ((ul.length:Nat):Int)∧get a' 92 = .int .i64 (j:Int)∧j+m2=ul.length∧w'.rangeAt w2.heap.size 0 [.int .i64 gn,gsv,.bool gnl,.slice gq gl.length gcap,.slice guq gu.length gucap]∧Fr [] w w'∧Fr [] w98 w') ul.length ?_ ?_)
        · exact ⟨0,hz105,hd105,g105_9,g105_10,g105_14,g105_90,g105_91,g105_92,by omega,hb914,hfl14,Fr.refl [] _⟩
        · rintro m2 a106 w106 ⟨j, hz106, hd106, g106_9, g106_10, g106_14, g106_90, g106_91, g106_92, hjm2, hb92, hfl2, hf14⟩
          refine wS fun K107 hK107=>?_
          refine wC (wp_lss (k1:=.i64) (i:=(j:Int)) (j:=((ul.length:Nat):Int)) (eK g106_92) (eK g106_91) ?_)
          refine wEn fun a108 ha108=>?_
          have hz108:=kS ha108 hz106
          have hd108:=kD ha108 hd106
          have g108_9:=kP ha108 g106_9
          have g108_10:=kP ha108 g106_10
          have g108_14:=kP ha108 g106_14
          have g108_90:=kP ha108 g106_90
          have g108_91:=kP ha108 g106_91
          have g108_92:=kP ha108 g106_92
          have g108_93:get a108 93 = .bool (decide (((j:Int):Int) < (((ul.length:Nat):Int):Int))):=kG ha108 hz106
          refine hK107 a108 w106 ?_
          refine wp_seq_k fun K109 hK109=>?_
          refine wp_cond_split (t:=decide (((j:Int):Int) < (((ul.length:Nat):Int):Int))) (eK g108_93) (fun hc110=>?_) (fun hc110=>?_)
          · have hjl : j < ul.length := by simpa using hc110
            obtain ⟨⟨kk,x⟩,hp⟩:∃ p,ul[j]?=some p:=⟨ul[j],by simp[hjl]⟩
            obtain ⟨tb0,to0,xv,hq14,htb,hkk,hrt,hox⟩:=h14e j kk x hp
            have hgp:gu[j]?=some (kk,wholeS x):=by rw[hgul,List.getElem?_map,hp];rfl
            obtain ⟨ub,uo,gxv,hguq,hub,hkk2,hru,hogx⟩:=hgue j kk (wholeS x) hgp
            have hgj:j < gu.length:=by omega
            have hox2:=hox.kept hf14 (by simp) (fun _ h=>h)
            refine wp_skip ?_
            refine hK109 a108 w106 ?_
            refine wp_seq_k fun K111 hK111=>?_
            refine wp_blockT ?_
            refine wS fun K112 hK112=>?_
            refine wC (wMv (v:=.int .i64 (j:Int)) (eK g108_92) ?_)
            refine wC (wp_ixN (b:=tb0) (o:=to0) (i:=j) hs_T24 (by rw[eTm,nZ (by decide),g108_90,hq14]) (eK g108_92) hjl ?_)
            refine wC (wp_loadFlat (cs:=[.int .u32 ((kk:Nat):Int),xv]) (b:=tb0) (o:=to0+j * 2) hFlT66 rfl (eS hz108) ((hf14.tr (Fr.refl [] w106)).range hrt .nil) ?_)
            rw[wCo]
            have hgt113:=hf14.size
            have hgu114:=hS14
            have hgs115:=hfl2.size
            have hgs116:=(Fr.refl [] w106).size
            refine wp_allocL hFlT66 ?_
            rintro w117 f117 sz117 r117 th117
            have hF118:Fr [] w w117:=hfl2.tr f117
            have hL118_w106:Fr [] w106 w117:=(Fr.refl [] w106).tr f117
            have rb119:=f117.range hb92 .nil
            refine wC (wAs (v:=.int .i64 (j:Int)) (eS hz108) ?_)
            refine wC (wp_storeL (cs:=[.int .u32 ((kk:Nat):Int),xv]) (o:=0) hFlT66 rfl (eS hz108) (eS hz108) (by intro u hu;simp at hu;rcases hu with rfl | rfl <;> first | rfl | exact hox.one) th117 ?_)
            rintro w120 f120 sz120 r120 th120
            have hF120:Fr [] w w120:=hF118.trans f120 (fun r hr=>.inl (by simp at hr;subst hr;have:=hfl2.size;simp only;omega))
            have rb121:=f120.range rb119 (.cons (.inl (by simp only;omega)) .nil)
            have hL120_w106:Fr [] w106 w120:=hL118_w106.trans f120 (fun r hr=>.inl (by simp at hr;subst hr;have:=(Fr.refl [] w106).size;simp only;omega))
            refine wEn fun a122 ha122=>?_
            have hz122:=kS ha122 hz108
            have hd122:=kD ha122 hd108
            have g122_9:=kP ha122 g108_9
            have g122_10:=kP ha122 g108_10
            have g122_14:=kP ha122 g108_14
            have g122_15:get a122 15 = .int .i64 (j:Int):=kG ha122 hz108
            have g122_16:get a122 16 = .pointer (some ⟨w106.heap.size,0,none⟩):=kG ha122 hz108
            have g122_90:=kP ha122 g108_90
            have g122_91:=kP ha122 g108_91
            have g122_92:=kP ha122 g108_92
            have hox3:=hox2.kept hL120_w106 (by simp) (fun _ h=>h)
            refine hK112 a122 w120 ?_
            refine wp_seq_k fun K123 hK123=>?_
            refine wp_drawE0 [spC [] (.pointer (some ⟨w2.heap.size,4,none⟩)),spC [0] (.slice guq gu.length gucap),spC [] (.int .i64 (j:Int)),spC [1,2] (.pointer (some ⟨ub,uo+j * 2,none⟩)),spC [3] (.pointer (some ⟨ub,uo+j * 2,none⟩)),spC [4] (.int .u32 ((kk:Nat):Int)),spC [] (.pointer (some ⟨w106.heap.size,0,none⟩)),spC [6] (.int .u32 ((kk:Nat):Int)),spC [5,7] (.bool false),spC [8] (.bool false),spC [9] (.pointer (some ⟨w2.heap.size,4,none⟩)),spC [9,10] (.slice guq gu.length gucap),spC [9] (.int .i64 (j:Int)),spC [9,11,12] (.pointer (some ⟨ub,uo+j * 2,none⟩)),spC [9,13] (.pointer (some ⟨ub,uo+j * 2+1,none⟩)),spC [9,14] (gxv),spC [9] (.pointer (some ⟨w106.heap.size,1,none⟩)),spC [9,16] (xv),spR [9,17] (fun y w'=>OctE w' (fun b=>b < w92.heap.size) y (wholeS x)),spR [9,15,18] (fun x w'=>x = .bool true),spC [9,19] (.bool false),spC [9,20] (.bool false)] 97 [] hmx he21 (by simp[shape]) (by simp[spC,spR]) (by simp;omega) ⟨lCc _ _ _,lCc _ _ _,lCc _ _ _,lCc _ _ _,lCc _ _ _,lCc _ _ _,lCc _ _ _,lCc _ _ _,lCc _ _ _,lCc _ _ _,lCc _ _ _,lCc _ _ _,lCc _ _ _,lCc _ _ _,lCc _ _ _,lCc _ _ _,lCc _ _ _,lCc _ _ _,(fun v w1 w2 f h=>OctE.kept h f (by simp) (fun _ h=>h)),(fun v w1 w2 f h=>h),lCc _ _ _,lCc _ _ _,trivial⟩ ?_ ?_
            · refine oCs ?_ ?_
              · refine op_c fun a' w' hk' hf' hd' K' hK' => ?_
                refine wFa (b:=w2.heap.size) (i:=0) (hFlT26.fld (by decide)) (by rw[eTm,hk'.get 9 (by omega),g122_9]) ?_
                rw[show (0+4:Nat)=4 from rfl]
                exact hK'
              refine oCs ?_ ?_
              · refine op_c fun a' w' hk' hf' hd' K' hK' => ?_
                refine wL0 (j:=4) (v:=.slice guq gu.length gucap) hcT24 (by rw[eTm];exact hd'.c (nd':=[]) 0 (by simp) rfl) (hf'.range rb121 .nil) rfl ?_
                exact hK'
              refine oCs ?_ ?_
              · refine op_c fun a' w' hk' hf' hd' K' hK' => ?_
                refine wMv (v:=.int .i64 (j:Int)) (by rw[eTm,hk'.get 15 (by omega),g122_15]) ?_
                exact hK'
              refine oCs ?_ ?_
              · refine op_c fun a' w' hk' hf' hd' K' hK' => ?_
                refine wp_ixN (b:=ub) (o:=uo) (i:=j) hs_T24 (by rw[eTm,← hguq];exact hd'.c (nd':=[0]) 1 (by simp) rfl) (by rw[eTm];exact hd'.c (nd':=[]) 2 (by simp) rfl) hgj ?_
                exact hK'
              refine oCs ?_ ?_
              · refine op_c fun a' w' hk' hf' hd' K' hK' => ?_
                refine wFa (b:=ub) (i:=uo+j * 2) (hFlT66.fld (by decide)) (by rw[eTm];exact hd'.c (nd':=[1,2]) 3 (by simp) rfl) ?_
                rw[Nat.add_zero]
                exact hK'
              refine oCs ?_ ?_
              · refine op_c fun a' w' hk' hf' hd' K' hK' => ?_
                refine wp_load (b:=ub) (o:=uo+j * 2) (v:=.int .u32 ((kk:Nat):Int)) hcT64 (by rw[eTm];exact hd'.c (nd':=[3]) 4 (by simp) rfl) (range_cons.1 ((hF120.tr hf').range hru .nil)).1 ?_
                exact hK'
              refine oCs ?_ ?_
              · refine op_c fun a' w' hk' hf' hd' K' hK' => ?_
                refine wFa (b:=w106.heap.size) (i:=0) (hFlT66.fld (by decide)) (by rw[eTm,hk'.get 16 (by omega),g122_16]) ?_
                rw[show (0+0:Nat)=0 from rfl]
                exact hK'
              refine oCs ?_ ?_
              · refine op_c fun a' w' hk' hf' hd' K' hK' => ?_
                refine wL0 (j:=0) (v:=.int .u32 ((kk:Nat):Int)) hcT64 (by rw[eTm];exact hd'.c (nd':=[]) 6 (by simp) rfl) (hf'.range r120 .nil) rfl ?_
                exact hK'
              refine oCs ?_ ?_
              · refine op_c fun a' w' hk' hf' hd' K' hK' => ?_
                refine wp_neqF (k1:=.u32) (i:=((kk:Nat):Int)) (j:=((kk:Nat):Int)) (by exact rfl) (by rw[eTm];exact hd'.c (nd':=[4]) 5 (by simp) rfl) (by rw[eTm];exact hd'.c (nd':=[6]) 7 (by simp) rfl) ?_
                exact hK'
              refine oCs ?_ ?_
              · refine op_c fun a' w' hk' hf' hd' K' hK' => ?_
                refine wMv (v:=.bool false) (by rw[eTm];exact hd'.c (nd':=[5,7]) 8 (by simp) rfl) ?_
                exact hK'
              refine oCs ?_ ?_
              · refine op_gy rfl (by decide) (fun a w h => h.c (nd' := [8]) 9 (by simp [spC, spR]) rfl) ?_
                refine op_c fun a' w' hk' hf' hd' K' hK'=>?_
                refine wFa (b:=w2.heap.size) (i:=0) (hFlT26.fld (by decide)) (by rw[eTm,hk'.get 9 (by omega),g122_9]) ?_
                rw[show (0+4:Nat)=4 from rfl]
                exact hK'
              refine oCs ?_ ?_
              · refine op_gy rfl (by decide) (fun a w h => h.c (nd' := [8]) 9 (by simp [spC, spR]) rfl) ?_
                refine op_c fun a' w' hk' hf' hd' K' hK'=>?_
                refine wL0 (j:=4) (v:=.slice guq gu.length gucap) hcT24 (by rw[eTm];exact hd'.c (nd':=[9]) 10 (by simp) rfl) (hf'.range rb121 .nil) rfl ?_
                exact hK'
              refine oCs ?_ ?_
              · refine op_gy rfl (by decide) (fun a w h => h.c (nd' := [8]) 9 (by simp [spC, spR]) rfl) ?_
                refine op_c fun a' w' hk' hf' hd' K' hK'=>?_
                refine wMv (v:=.int .i64 (j:Int)) (by rw[eTm,hk'.get 15 (by omega),g122_15]) ?_
                exact hK'
              refine oCs ?_ ?_
              · refine op_gy rfl (by decide) (fun a w h => h.c (nd' := [8]) 9 (by simp [spC, spR]) rfl) ?_
                refine op_c fun a' w' hk' hf' hd' K' hK'=>?_
                refine wp_ixN (b:=ub) (o:=uo) (i:=j) hs_T24 (by rw[eTm,← hguq];exact hd'.c (nd':=[9,10]) 11 (by simp) rfl) (by rw[eTm];exact hd'.c (nd':=[9]) 12 (by simp) rfl) hgj ?_
                exact hK'
              refine oCs ?_ ?_
              · refine op_gy rfl (by decide) (fun a w h => h.c (nd' := [8]) 9 (by simp [spC, spR]) rfl) ?_
                refine op_c fun a' w' hk' hf' hd' K' hK'=>?_
                refine wFa (b:=ub) (i:=uo+j * 2) (hFlT66.fld (by decide)) (by rw[eTm];exact hd'.c (nd':=[9,11,12]) 13 (by simp) rfl) ?_
                exact hK'
              refine oCs ?_ ?_
              · refine op_gy rfl (by decide) (fun a w h => h.c (nd' := [8]) 9 (by simp [spC, spR]) rfl) ?_
                refine op_c fun a' w' hk' hf' hd' K' hK'=>?_
                refine wp_load (b:=ub) (o:=uo+j * 2+1) (v:=gxv) hcT22 (by rw[eTm];exact hd'.c (nd':=[9,13]) 14 (by simp) rfl) (range_one.1 (range_cons.1 ((hF120.tr hf').range hru .nil)).2) ?_
                exact hK'
              refine oCs ?_ ?_
              · refine op_gy rfl (by decide) (fun a w h => h.c (nd' := [8]) 9 (by simp [spC, spR]) rfl) ?_
                refine op_c fun a' w' hk' hf' hd' K' hK'=>?_
                refine wFa (b:=w106.heap.size) (i:=0) (hFlT66.fld (by decide)) (by rw[eTm,hk'.get 16 (by omega),g122_16]) ?_
                rw[show (0+1:Nat)=1 from rfl]
                exact hK'
              refine oCs ?_ ?_
              · refine op_gy rfl (by decide) (fun a w h => h.c (nd' := [8]) 9 (by simp [spC, spR]) rfl) ?_
                refine op_c fun a' w' hk' hf' hd' K' hK'=>?_
                refine wL0 (j:=1) (v:=xv) hcT22 (by rw[eTm];exact hd'.c (nd':=[9]) 16 (by simp) rfl) (hf'.range r120 .nil) rfl ?_
                exact hK'
              refine oCs ?_ ?_
              · refine op_gy rfl (by decide) (fun a w h => h.c (nd' := [8]) 9 (by simp [spC, spR]) rfl) ?_
                refine op_r fun a' w' hk' hf' hd' K' hK'=>?_
                refine wCr (R:=fun y wz=>OctE wz (fun b=>b < w92.heap.size) y (wholeS x)∧w'=wz) (vs:=#[xv]) hWh.enters (by simp only[List.map_toArray,List.map_cons,List.map_nil];rw[show a'.eval (.tmp 114)=xv from (by rw[eTm];exact hd'.c (nd':=[9,16]) 17 (by simp) rfl)]) ((hWh.call w' _ xv x (hox3.kept hf' (by simp) (fun _ h=>h))).mono (by rintro e wz ⟨y,rfl,h1,rfl⟩;exact ⟨y,rfl,h1,rfl⟩)) ?_
                rintro x124 _ ⟨hx124,rfl⟩
                exact hK' x124 _ hx124 (Fr.refl [] _)
              refine oCs ?_ ?_
              · refine op_gy rfl (by decide) (fun a w h => h.c (nd' := [8]) 9 (by simp [spC, spR]) rfl) ?_
                refine op_r fun a' w' hk' hf' hd' K' hK'=>?_
                have hxo:OctE w' (fun b=>b < w92.heap.size) (get a' 115) (wholeS x):=hd'.at (d:=18) (by simp) rfl
                refine wCr (R:=fun x wz=>x = .bool true∧Fr [] w' wz) (vs:=#[gxv,get a' 115]) hSa.enters (by simp only[List.map_toArray,List.map_cons,List.map_nil,eTm];rw[hd'.c (nd':=[9,14]) 15 (by simp) rfl]) ((hSa.call w' _ _ _ _ _ (hogx.kept (hF120.tr hf') (by simp) (fun _ h=>h)) hxo).mono (by rintro e wz ⟨rfl,h⟩;exact ⟨_,rfl,rfl,h⟩)) ?_
                rintro _ w125 ⟨rfl,fr125⟩
                exact hK' _ w125 rfl fr125
              refine oCs ?_ ?_
              · refine op_gy rfl (by decide) (fun a w h => h.c (nd' := [8]) 9 (by simp [spC, spR]) rfl) ?_
                refine op_c fun a' w' hk' hf' hd' K' hK'=>?_
                have hbt:get a' 116 = .bool true:=hd'.at (d:=19) (by simp) rfl
                refine wp_not (b:=true) (by rw[eTm];exact hbt) ?_
                rw[show (!true)=false from rfl]
                exact hK'
              refine oCs ?_ ?_
              · refine op_c fun a' w' hk' hf' hd' K' hK' => ?_
                refine wp_pickNo (v:=.bool false) (by rw[eTm];exact hd'.c (nd':=[8]) 9 (by simp) rfl) (by rw[eTm];exact hd'.c (nd':=[9,19]) 20 (by simp) rfl) ?_
                exact hK'
              exact opsOk_nil
            intro a126 w126 k126 f126 hd_126
            have g126_9:get a126 9 = .pointer (some ⟨w2.heap.size,0,none⟩):=by rw[k126.get 9 (by omega),g122_9]
            have g126_10:get a126 10 = .bool false:=by rw[k126.get 10 (by omega),g122_10]
            have g126_14:get a126 14 = .slice q14 ul.length c14:=by rw[k126.get 14 (by omega),g122_14]
            have g126_90:get a126 90 = .slice q14 ul.length c14:=by rw[k126.get 90 (by omega),g122_90]
            have g126_91:get a126 91 = .int .i64 ((ul.length:Nat):Int):=by rw[k126.get 91 (by omega),g122_91]
            have g126_92:get a126 92 = .int .i64 (j:Int):=by rw[k126.get 92 (by omega),g122_92]
            have hz126:a126.tmps.size=120:=k126.size.trans hz122
            have hd126:a126.defers=[]:=k126.defers.trans hd122
            have g126_118:get a126 118 = .bool false:=hd_126.c (nd':=[9,20]) 21 (by simp) rfl
            have hF127:Fr [] w w126:=hF120.tr f126
            have hL127_w106:Fr [] w106 w126:=hL120_w106.tr f126
            have rb128:=f126.range rb121 .nil
            have rb129:=f126.range r120 .nil
            refine hK123 a126 w126 ?_
            refine wp_cond_split (t:=false) (eK g126_118) (fun h=>by cases h) (fun _=>?_)
            refine wp_skip ?_
            refine hK111 a126 w126 ?_
            refine wp_reg ?_
            refine wC (wp_add (k1:=.i64) (i:=(j:Int)) (j:=1) (eK g126_92) rfl ?_)
            rw[show (IntKind.i64.wrap (((j:Int):Int)+(1:Int)):Int)=(((j+1:Nat):Int):Int) from by simp only[IntKind.wrap,IntKind.bits,IntKind.signed];simp;omega]
            refine wC (wMv (v:=.int .i64 ((j+1:Nat):Int)) (eS hz126) ?_)
            refine wEn fun a131 ha131=>?_
            have hz131:=kS ha131 hz126
            have hd131:=kD ha131 hd126
            have g131_9:=kP ha131 g126_9
            have g131_10:=kP ha131 g126_10
            have g131_14:=kP ha131 g126_14
            have g131_90:=kP ha131 g126_90
            have g131_91:=kP ha131 g126_91
            have g131_92:get a131 92 = .int .i64 ((j+1:Nat):Int):=kG ha131 hz126
            exact ⟨m2 - 1,by omega,j+1,hz131,hd131,g131_9,g131_10,g131_14,g131_90,g131_91,g131_92,by omega,rb128,hF127,hf14.tr hL127_w106⟩
          · refine wp_exit ?_
            show K103 a108 w106
            refine hK103 a108 w106 (tUp ?_)
            refine wT fun K132 hK132=>?_
            refine wC (wAs (v:=.bool true) rfl ?_)
            refine wEn fun a133 ha133=>?_
            have hz133:=kS ha133 hz108
            have hd133:=kD ha133 hd108
            have g133_10:get a133 10 = .bool true:=kG ha133 hz108
            refine hK132 a133 w106 (tUp ?_)
            refine wp_ret ?_
            exact ⟨hd133,_,rIs hres g133_10,rfl,hfl2⟩
      refine wS fun K134 hK134=>?_
      refine wC (wMv (v:=.bool flex) (eK g96_2) ?_)
      refine wC (wp_not (b:=flex) (eS hz96) ?_)
      refine wEn fun a135 ha135=>?_
      have hz135:=kS ha135 hz96
      have hd135:=kD ha135 hd96
      have g135_0:=kP ha135 g96_0
      have g135_1:=kP ha135 g96_1
      have g135_2:=kP ha135 g96_2
      have g135_3:=kP ha135 g96_3
      have g135_4:=kP ha135 g96_4
      have g135_8:=kP ha135 g96_8
      have g135_9:=kP ha135 g96_9
      have g135_10:=kP ha135 g96_10
      have g135_14:=kP ha135 g96_14
      have g135_22:=kP ha135 g96_22
      have g135_23:=kP ha135 g96_23
      have g135_24:=kP ha135 g96_24
      have g135_25:=kP ha135 g96_25
      have g135_83:get a135 83 = .bool (!flex):=kG ha135 hz96
      refine hK134 a135 w92 ?_
      refine wp_cond_split (t := !flex) (eK g135_83) (fun hc136=>?_) (fun hc136=>?_)
      · have hfx : flex = false := by simpa using hc136
        have htrn:TagsR w92 (fun b=>b < w92.heap.size) (.slice none 0 0) ul:=.inl ⟨.inl rfl,by rw[hul,hfx];rfl⟩
        refine wp_reg ?_
        refine wC (wAs (v:=.slice none 0 0) rfl ?_)
        refine wEn fun a137 ha137=>?_
        have hz137:=kS ha137 hz135
        have hd137:=kD ha137 hd135
        have g137_0:=kP ha137 g135_0
        have g137_1:=kP ha137 g135_1
        have g137_2:=kP ha137 g135_2
        have g137_3:=kP ha137 g135_3
        have g137_4:=kP ha137 g135_4
        have g137_8:=kP ha137 g135_8
        have g137_9:=kP ha137 g135_9
        have g137_10:=kP ha137 g135_10
        have g137_14:get a137 14 = .slice none 0 0:=kG ha137 hz135
        have g137_22:=kP ha137 g135_22
        have g137_23:=kP ha137 g135_23
        have g137_24:=kP ha137 g135_24
        have g137_25:=kP ha137 g135_25
        exact hJ98 a137 w92 ⟨_,hz137,hd137,g137_0,g137_1,g137_2,g137_3,g137_4,g137_8,g137_9,g137_10,g137_14,g137_22,g137_23,g137_24,g137_25,htrn,rb95,hF93,(Fr.refl [] w92).size⟩
      · have hfx : flex = true := by simpa using hc136
        have htrf:TagsR w92 (fun b=>b < w92.heap.size) x92 ul:=by rw[hul,hfx];exact hus.kept (Fr.refl [] w92) (by simp) (fun _ h=>h)
        refine wp_skip ?_
        exact hJ98 a135 w92 ⟨_,hz135,hd135,g135_0,g135_1,g135_2,g135_3,g135_4,g135_8,g135_9,g135_10,g135_14,g135_22,g135_23,g135_24,g135_25,htrf,rb95,hF93,(Fr.refl [] w92).size⟩
end Go.Kq

namespace Go.Kq
open Go Go.Proofs
structure FlexM (P:Program) (f:FuncId):Prop where
  enters:Enters P f
  call:∀ (w:World) (fsv:Value) (fx ver:Int),fsv.oneCell'=true→Calls P f #[.agg ([fsv,.int .i64 fx]:List Value).toArray,.int .i64 ver] w fun e w'=>e = .returned (.bool (decide (fx≥0) && decide (ver≥fx)))∧Fr [] w w'
theorem flex_m {P:Program} {f:FuncId} {fn:Func} {T3 T31:TypeId} {i0 i1:Nat} {t0 t1 t2 t3 t4 t5 t6 t7 t8 t9 t10 t11:TypeId} {p0 p1 p2 p3 p4 p5 p6 p7 p8 p9 p10 p11:String} {e0 e1 e2 e3 e4 e5 e6 e7 e8 e9 e10 e11:Array Edge} 
    (hf:P.funcs[f]?=some fn) (hname:(fn.name == "runtime.NumGoroutine")=false) (hres:fn.results = #[.tmp 4]) (hN:fn.ntmps=14)
    (hbody:fn.body=some (.seq (Code.region i0 ⟨[⟨some 2,.box T31 (.tmp 0),t0,p0,e0,none⟩,
    ⟨some 4,.assign (.const (.bool false)),t1,p1,e1,none⟩]⟩ false)
  (.seq (Code.region i1 ⟨[⟨some 5,.fieldAddr T31 (.tmp 2) 1,t2,p2,e2,none⟩,
    ⟨some 6,.load T3 (.tmp 5),t3,p3,e3,none⟩,
    ⟨some 7,.binOp .geq T3 (.tmp 6) (.const (.int .i64 0)) T3,t4,p4,e4,none⟩,
    ⟨some 8,.move (.tmp 7),t5,p5,e5,none⟩,
    ⟨some 9,.move (.tmp 1),t6,p6,e6,some (3,true)⟩,
    ⟨some 10,.fieldAddr T31 (.tmp 2) 1,t7,p7,e7,some (3,true)⟩,
    ⟨some 11,.load T3 (.tmp 10),t8,p8,e8,some (3,true)⟩,
    ⟨some 12,.binOp .geq T3 (.tmp 9) (.tmp 11) T3,t9,p9,e9,some (3,true)⟩,
    ⟨some 13,.pick (.tmp 8) (.tmp 12) (.const (.bool false)),t10,p10,e10,none⟩,
    ⟨some 4,.assign (.tmp 13),t11,p11,e11,none⟩]⟩ false)
  .ret)))
    (hFlT31:Flat P T31 zM) (hcT3:scal P T3=true) :FlexM P f:=by
  refine ⟨enters_of hf hname hbody,?_⟩
  intro w fsv fx ver hfs1
  by_cases h1:fx≥0;by_cases h2:ver≥fx
  · have hfl : (decide (fx ≥ 0) && decide (ver ≥ fx)) = true := by simp [h1, h2]
    rw[hfl]
    refine calls_of_wp hf hbody ?_
    generalize ha0:({ tmps:=#[Value.agg ([fsv,.int .i64 fx]:List Value).toArray,Value.int .i64 ver]++Array.replicate (fn.ntmps - (#[Value.agg ([fsv,.int .i64 fx]:List Value).toArray,Value.int .i64 ver]:Array Value).size) undef,defers:=[] }:Act)=a0
    have hz0:a0.tmps.size=14:=by subst ha0;simp[hN]
    have hd0:a0.defers=[]:=by subst ha0;rfl
    have g0_0:get a0 0 = .agg ([fsv,.int .i64 fx]:List Value).toArray:=by subst ha0;exact gAr rfl
    have g0_1:get a0 1 = .int .i64 ver:=by subst ha0;exact gAr rfl
    refine wT fun K1 hK1=>?_
    refine wC (wp_boxL (cs:=[fsv,.int .i64 fx]) (eK g0_0) ?_)
    rintro w2 f2 sz2 r2 th2
    have hF3:Fr [] w w2:=f2
    refine wC (wAs (v:=.bool false) rfl ?_)
    refine wEn fun a4 ha4=>?_
    have hz4:=kS ha4 hz0
    have hd4:=kD ha4 hd0
    have g4_1:=kP ha4 g0_1
    have g4_2:get a4 2 = .pointer (some ⟨w.heap.size,0,none⟩):=kG ha4 hz0
    refine hK1 a4 w2 (tUp ?_)
    refine tId (wp_seq_k fun K5 hK5=>?_)
    refine wp_regG ?_
    refine gCn ?_
    refine wFa (b:=w.heap.size) (i:=0) (hFlT31.fld (by decide)) (eK g4_2) ?_
    rw[show (0+1:Nat)=1 from rfl]
    refine gCn ?_
    refine wL0 (j:=1) (v:=.int .i64 fx) hcT3 (eS hz4) r2 rfl ?_
    refine gCn ?_
    refine wp_geqT (k1:=.i64) (i:=fx) (j:=0) h1 (eS hz4) rfl ?_
    refine gCn ?_
    refine wMv (v:=.bool true) (eS hz4) ?_
    refine wg_yes (dj:=8) rfl (lZ hz4) (gS hz4) ?_
    refine wMv (v:=.int .i64 ver) (eK g4_1) ?_
    refine wg_yes (dj:=8) rfl (lZ hz4) (gS hz4) ?_
    refine wFa (b:=w.heap.size) (i:=0) (hFlT31.fld (by decide)) (eK g4_2) ?_
    rw[show (0+1:Nat)=1 from rfl]
    refine wg_yes (dj:=8) rfl (lZ hz4) (gS hz4) ?_
    refine wL0 (j:=1) (v:=.int .i64 fx) hcT3 (eS hz4) r2 rfl ?_
    refine wg_yes (dj:=8) rfl (lZ hz4) (gS hz4) ?_
    refine wp_geqT (k1:=.i64) (i:=ver) (j:=fx) h2 (eS hz4) (eS hz4) ?_
    refine gCn ?_
    refine wp_pickYes (v:=.bool true) (eS hz4) (eS hz4) ?_
    refine gCn ?_
    refine wAs (v:=.bool true) (eS hz4) ?_
    refine wg_end fun a6 ha6=>?_
    have hz6:=kS ha6 hz4
    have hd6:=kD ha6 hd4
    have g6_4:get a6 4 = .bool true:=kG ha6 hz4
    refine hK5 a6 w2 (tUp ?_)
    refine wp_ret ?_
    exact ⟨hd6,_,rIs hres g6_4,rfl,hF3⟩
  · have hfl : (decide (fx ≥ 0) && decide (ver ≥ fx)) = false := by simp [h1, h2]
    rw[hfl]
    refine calls_of_wp hf hbody ?_
    generalize ha0:({ tmps:=#[Value.agg ([fsv,.int .i64 fx]:List Value).toArray,Value.int .i64 ver]++Array.replicate (fn.ntmps - (#[Value.agg ([fsv,.int .i64 fx]:List Value).toArray,Value.int .i64 ver]:Array Value).size) undef,defers:=[] }:Act)=a0
    have hz0:a0.tmps.size=14:=by subst ha0;simp[hN]
    have hd0:a0.defers=[]:=by subst ha0;rfl
    have g0_0:get a0 0 = .agg ([fsv,.int .i64 fx]:List Value).toArray:=by subst ha0;exact gAr rfl
    have g0_1:get a0 1 = .int .i64 ver:=by subst ha0;exact gAr rfl
    refine wT fun K1 hK1=>?_
    refine wC (wp_boxL (cs:=[fsv,.int .i64 fx]) (eK g0_0) ?_)
    rintro w2 f2 sz2 r2 th2
    have hF3:Fr [] w w2:=f2
    refine wC (wAs (v:=.bool false) rfl ?_)
    refine wEn fun a4 ha4=>?_
    have hz4:=kS ha4 hz0
    have hd4:=kD ha4 hd0
    have g4_1:=kP ha4 g0_1
    have g4_2:get a4 2 = .pointer (some ⟨w.heap.size,0,none⟩):=kG ha4 hz0
    refine hK1 a4 w2 (tUp ?_)
    refine tId (wp_seq_k fun K5 hK5=>?_)
    refine wp_regG ?_
    refine gCn ?_
    refine wFa (b:=w.heap.size) (i:=0) (hFlT31.fld (by decide)) (eK g4_2) ?_
    rw[show (0+1:Nat)=1 from rfl]
    refine gCn ?_
    refine wL0 (j:=1) (v:=.int .i64 fx) hcT3 (eS hz4) r2 rfl ?_
    refine gCn ?_
    refine wp_geqT (k1:=.i64) (i:=fx) (j:=0) h1 (eS hz4) rfl ?_
    refine gCn ?_
    refine wMv (v:=.bool true) (eS hz4) ?_
    refine wg_yes (dj:=8) rfl (lZ hz4) (gS hz4) ?_
    refine wMv (v:=.int .i64 ver) (eK g4_1) ?_
    refine wg_yes (dj:=8) rfl (lZ hz4) (gS hz4) ?_
    refine wFa (b:=w.heap.size) (i:=0) (hFlT31.fld (by decide)) (eK g4_2) ?_
    rw[show (0+1:Nat)=1 from rfl]
    refine wg_yes (dj:=8) rfl (lZ hz4) (gS hz4) ?_
    refine wL0 (j:=1) (v:=.int .i64 fx) hcT3 (eS hz4) r2 rfl ?_
    refine wg_yes (dj:=8) rfl (lZ hz4) (gS hz4) ?_
    refine wp_geqF (k1:=.i64) (i:=ver) (j:=fx) h2 (eS hz4) (eS hz4) ?_
    refine gCn ?_
    refine wp_pickYes (v:=.bool false) (eS hz4) (eS hz4) ?_
    refine gCn ?_
    refine wAs (v:=.bool false) (eS hz4) ?_
    refine wg_end fun a6 ha6=>?_
    have hz6:=kS ha6 hz4
    have hd6:=kD ha6 hd4
    have g6_4:get a6 4 = .bool false:=kG ha6 hz4
    refine hK5 a6 w2 (tUp ?_)
    refine wp_ret ?_
    exact ⟨hd6,_,rIs hres g6_4,rfl,hF3⟩
  · have hfl : (decide (fx ≥ 0) && decide (ver ≥ fx)) = false := by simp [h1]
    rw[hfl]
    refine calls_of_wp hf hbody ?_
    generalize ha0:({ tmps:=#[Value.agg ([fsv,.int .i64 fx]:List Value).toArray,Value.int .i64 ver]++Array.replicate (fn.ntmps - (#[Value.agg ([fsv,.int .i64 fx]:List Value).toArray,Value.int .i64 ver]:Array Value).size) undef,defers:=[] }:Act)=a0
    have hz0:a0.tmps.size=14:=by subst ha0;simp[hN]
    have hd0:a0.defers=[]:=by subst ha0;rfl
    have g0_0:get a0 0 = .agg ([fsv,.int .i64 fx]:List Value).toArray:=by subst ha0;exact gAr rfl
    have g0_1:get a0 1 = .int .i64 ver:=by subst ha0;exact gAr rfl
    refine wT fun K1 hK1=>?_
    refine wC (wp_boxL (cs:=[fsv,.int .i64 fx]) (eK g0_0) ?_)
    rintro w2 f2 sz2 r2 th2
    have hF3:Fr [] w w2:=f2
    refine wC (wAs (v:=.bool false) rfl ?_)
    refine wEn fun a4 ha4=>?_
    have hz4:=kS ha4 hz0
    have hd4:=kD ha4 hd0
    have g4_1:=kP ha4 g0_1
    have g4_2:get a4 2 = .pointer (some ⟨w.heap.size,0,none⟩):=kG ha4 hz0
    refine hK1 a4 w2 (tUp ?_)
    refine tId (wp_seq_k fun K5 hK5=>?_)
    refine wp_regG ?_
    refine gCn ?_
    refine wFa (b:=w.heap.size) (i:=0) (hFlT31.fld (by decide)) (eK g4_2) ?_
    rw[show (0+1:Nat)=1 from rfl]
    refine gCn ?_
    refine wL0 (j:=1) (v:=.int .i64 fx) hcT3 (eS hz4) r2 rfl ?_
    refine gCn ?_
    refine wp_geqF (k1:=.i64) (i:=fx) (j:=0) h1 (eS hz4) rfl ?_
    refine gCn ?_
    refine wMv (v:=.bool false) (eS hz4) ?_
    refine wg_noT (dj:=8) rfl (lZ hz4) (gS hz4) ?_
    refine wg_noT (dj:=8) rfl (lZ hz4) (gS hz4) ?_
    refine wg_noT (dj:=8) rfl (lZ hz4) (gS hz4) ?_
    refine wg_noT (dj:=8) rfl (lZ hz4) (gS hz4) ?_
    refine gCn ?_
    refine wp_pickNo (v:=.bool false) (eS hz4) rfl ?_
    refine gCn ?_
    refine wAs (v:=.bool false) (eS hz4) ?_
    refine wg_end fun a6 ha6=>?_
    have hz6:=kS ha6 hz4
    have hd6:=kD ha6 hd4
    have g6_4:get a6 4 = .bool false:=kG ha6 hz4
    refine hK5 a6 w2 (tUp ?_)
    refine wp_ret ?_
    exact ⟨hd6,_,rIs hres g6_4,rfl,hF3⟩
end Go.Kq

namespace Go.Kq
open Go
def InvQ (f:Rd) (ver:Int) (fl:Bool) (Q:V→Prop) (out:List UInt8):Prop :=
  ∀ rest nl,(nl=true→out++rest=[])→∃ x,f ver fl ⟨out++rest,nl,false⟩=some (x,⟨rest,nl,false⟩)∧Q x
def TdX (Rf:Fd→Int→Bool→T→T→Prop) (ver:Int) (fl:Bool) (ts:List T):List Fd→Nat→List T→Prop
  | [],_,[]=>True
  | fd::fs,i,y::ls=>(fd.tag < 0∧if fd.has ver then Rf fd ver fl (atT ts i) y else UsB fd y)∧TdX Rf ver fl ts fs (i+1) ls
  | _,_,_=>False
def InvT (f:Rd) (ver:Int) (fl:Bool) (Rf:Fd→Int→Bool→T→T→Prop) (fs:List Fd) (gs:List (V→T)) (ts:List T) (i:Nat) (us:List (Nat × List UInt8)) (out:List UInt8):Prop :=
  ∀ rest nl,(nl=true→out++rest=[])→∃ xs,f ver fl ⟨out++rest,nl,false⟩=some (.l xs,⟨rest,nl,false⟩)∧TdX Rf ver fl ts fs i (tellAll gs xs)∧uOf gs xs=us
theorem TdX.len {Rf:Fd→Int→Bool→T→T→Prop} {ver:Int} {fl:Bool} {ts:List T}:∀ {fs:List Fd} {i:Nat} {ls:List T},TdX Rf ver fl ts fs i ls→ls.length=fs.length
  | [],_,[],_=>rfl
  | _::fs,i,_::ls,h=>by simp[TdX.len h.2]
  | [],_,_::_,h=>h.elim
  | _::_,_,[],h=>h.elim
theorem TdX.at {Rf:Fd→Int→Bool→T→T→Prop} {ver:Int} {fl:Bool} {ts:List T}:∀ {fs:List Fd} {i:Nat} {ls:List T},TdX Rf ver fl ts fs i ls→∀ (j:Nat) (fd:Fd) (y:T),fs[j]?=some fd→ls[j]?=some y→fd.tag < 0∧if fd.has ver then Rf fd ver fl (atT ts (i+j)) y else UsB fd y
  | [],_,[],_,j,fd,y,h1,_=>by simp at h1
  | f :: fs, i, x :: ls, h, j, fd, y, h1, h2 => by
    cases j with
    | zero=>simp at h1 h2;subst h1 h2;simpa using h.1
    | succ j =>
      have:=TdX.at h.2 j fd y (by simpa using h1) (by simpa using h2)
      rwa [show i+1+j=i+(j+1) from by omega] at this
  | [],_,_::_,h,_,_,_,_,_=>h.elim
  | _::_,_,[],h,_,_,_,_,_=>h.elim
section
variable {ver:Int} {fl:Bool} {y t:T} {fr to nul tag df of:Int} {sub:List Fd} {Rf:Fd→Int→Bool→T→T→Prop}
theorem invt_cons {f:Fd} {fs:List Fd} {r g:Rd} {tl:V→T} {gs:List (V→T)} {ts:List T} {i:Nat} {us:List (Nat × List UInt8)} {tx:List UInt8} (ht:f.tag < 0) (hh:f.has ver=true)
    (h1:InvQ r ver fl (fun x=>Rf f ver fl (atT ts i) (tl x)) (fieldW f ver fl (atT ts i))) (h2:InvT g ver fl Rf fs gs ts (i+1) us (bodyL fs ver fl ts (i+1)++tx)) :
    InvT (rdCons r g) ver fl Rf (f::fs) (tl::gs) ts i us (bodyL (f::fs) ver fl ts i++tx):=by
  rw[bodyL,if_pos hh,List.append_assoc]
  intro rest nl hn
  obtain ⟨x,hx,hax⟩:=h1 ((bodyL fs ver fl ts (i+1)++tx)++rest) nl (by rw[← List.append_assoc];exact hn)
  obtain ⟨xs,hxs,haxs,hu⟩:=h2 rest nl (fun h=>by have:=hn h;simp only[List.append_eq_nil_iff] at this ⊢;exact ⟨this.1.2,this.2⟩)
  refine ⟨x::xs,?_,⟨⟨ht,by rw[if_pos hh];exact hax⟩,haxs⟩,hu⟩
  rw[List.append_assoc]
  simp only[rdCons,hx,hxs,consV]
theorem invt_end {fs:List Fd} {ts:List T} {i:Nat} (hk:KeysOk t):InvT (rdCons rdTagsF rdSt0) ver fl Rf [] [] ts i (if fl then unksW fs t else []) (bodyL [] ver fl ts i++if fl then uvW (unksW fs t).length++tagsW (unksW fs t) else []):=by
  have hok:=unks_ok (fs:=fs) hk.u
  intro rest nl hn
  cases fl with
  | false=>exact ⟨[.nil],by simp[rdCons,rdTagsF,rdSt0,consV,bodyL],trivial,by simp[uOf,tagsT,tagKv,sortKv]⟩
  | true =>
    have hnl:=nl_false hn (by simp[bodyL,uvW_ne])
    subst hnl
    obtain ⟨y,h1,h2⟩:=rdTagsGo_app (unksW fs t) .nil rest (fun p hp=>⟨hok.key p hp,hok.few p hp⟩) hok.rise (by simp[tagKv])
    have h3:tagsT y=unksW fs t:=tagsT_of (by rw[h2];simp[tagKv]) hok.rise
    refine ⟨[y],?_,trivial,?_⟩
    · simp only[rdCons,rdTagsF,if_true,rdTags,bodyL,List.nil_append,List.append_assoc,rdUv_app hok.len,h1,rdSt0,consV]
    · simp only[uOf,h3,if_true]
theorem tdf_num {fd:Fd} {R:Int→Bool→T→T→Prop} {n:Int} (h8:fd.kind ≠ 8) (h9:fd.kind ≠ 9) (h7:fd.kind ≠ 7) (h10:fd.kind ≠ 10) (h11:fd.kind ≠ 11) (hn:fd.nul < 0) (h:n=numW fd.kind t.n):TdF fd R ver fl t (.mk n [] false [] []) :=
  ⟨fun _=>(nullW_no hn).symm,fun _=>by simp[TdV,h7,h8,h9,h10,h11,T.n,h]⟩
end
end Go.Kq

namespace Go.Kq
open Go Go.Proofs
def RfN:Nat→Fd→Int→Bool→T→T→Prop
  | 0,fd=>TdF fd fun _ _ _ _=>False
  | k+1,fd=>if fd.kind=11 then TdF fd (TdLi (TdF (oneF fd) (TdG fd.sub (RfN k)))) else TdF fd (TdG fd.sub (RfN k))
def okN:Nat→List Fd→Bool
  | 0,fs=>fs.all fun fd=>decide (fd.tag < 4294967295) && decide (fd.kind ≠ 10) && decide (fd.kind ≠ 11)
  | k+1,fs=>fs.all fun fd=>decide (fd.tag < 4294967295) && decide (fd.kind=11→fd.of ≠ 11) && okN k fd.sub
theorem TdF.any {fd:Fd} {R R':Int→Bool→T→T→Prop} (h10:fd.kind ≠ 10) (h11:fd.kind ≠ 11) {ver:Int} {flex:Bool} {t g:T} (h:TdF fd R ver flex t g):TdF fd R' ver flex t g :=
  ⟨h.1,fun hn=>by have:=h.2 hn;simpa [TdV,h10,h11] using this⟩
theorem ToldFM.weak {P:Program} {f:FuncId} {fd:Fd} {R R':Int→Bool→T→T→Prop} (h:ToldFM P f fd R) (hr:∀ ver flex t g,R' ver flex t g→R ver flex t g):ToldFM P f fd R' :=
  ⟨h.enters,fun w A B C ver flex cs ct cg t g h1 h2 h3 h4 h5 h6 h7=>h.call w A B C ver flex cs ct cg t g h1 h2 h3 h4 h5 h6 (hr _ _ _ _ h7)⟩
theorem told_all {P:Program} {fT ft:FuncId} (hF:∀ fd:Fd,fd.kind ≠ 10→fd.kind ≠ 11→ToldFM P ft fd (TdF fd fun _ _ _ _=>False))
    (hS:∀ (fd:Fd) (R:Int→Bool→T→T→Prop),fd.kind=10→ToldM P fT fd.sub R→ToldFM P ft fd (TdF fd R))
    (hL:∀ (fd:Fd) (R:Int→Bool→T→T→Prop),fd.kind=11→ToldFM P ft (oneF fd) R→ToldFM P ft fd (TdF fd (TdLi R)))
    (hT:∀ (fs:List Fd) (Rf:Fd→Int→Bool→T→T→Prop),(∀ f ∈ fs,f.tag < 4294967295)→(∀ fd ∈ fs,ToldFM P ft fd (Rf fd))→ToldM P fT fs (TdG fs Rf)) :
    ∀ (k:Nat) (fs:List Fd),okN k fs=true→ToldM P fT fs (TdG fs (RfN k))
  | 0, fs, h => by
    have h':∀ fd ∈ fs,fd.tag < 4294967295∧fd.kind ≠ 10∧fd.kind ≠ 11:=by
      intro fd hfd
      have:=List.all_eq_true.1 h fd hfd
      simp only[Bool.and_eq_true,decide_eq_true_eq] at this
      exact ⟨this.1.1,this.1.2,this.2⟩
    exact hT fs _ (fun fd hfd=>(h' fd hfd).1) fun fd hfd=>hF fd (h' fd hfd).2.1 (h' fd hfd).2.2
  | k + 1, fs, h => by
    have h':∀ fd ∈ fs,fd.tag < 4294967295∧(fd.kind=11→fd.of ≠ 11)∧okN k fd.sub=true:=by
      intro fd hfd
      have:=List.all_eq_true.1 h fd hfd
      simp only[Bool.and_eq_true,decide_eq_true_eq] at this
      exact ⟨this.1.1,this.1.2,this.2⟩
    refine hT fs _ (fun fd hfd=>(h' fd hfd).1) fun fd hfd=>?_
    obtain ⟨_,h2,h3⟩:=h' fd hfd
    have ih:=told_all hF hS hL hT k fd.sub h3
    unfold RfN
    by_cases h11:fd.kind=11
    · rw [if_pos h11]
      refine hL fd _ h11 ?_
      by_cases h10:fd.of=10
      · exact hS (oneF fd) _ h10 ih
      · exact (hF (oneF fd) h10 (h2 h11)).weak fun ver flex t g=>TdF.any (fd:=oneF fd) h10 (h2 h11)
    · rw [if_neg h11]
      by_cases h10:fd.kind=10
      · exact hS fd _ h10 ih
      · exact (hF fd h10 h11).weak fun ver flex t g=>TdF.any h10 h11
theorem TdF.mono {fd:Fd} {R R':Int→Bool→T→T→Prop} {ver:Int} {flex:Bool} {t g:T} (hR:R ver flex t g→R' ver flex t g) (h:TdF fd R ver flex t g):TdF fd R' ver flex t g :=
  ⟨h.1,fun hn=>by
    have:=h.2 hn
    unfold TdV at this ⊢
    split
    · rwa [if_pos (by assumption)] at this
    · rw [if_neg (by assumption)] at this
      split
      · rwa [if_pos (by assumption)] at this
      · rw [if_neg (by assumption)] at this
        split
        · rw[if_pos (by assumption)] at this;exact hR this
        · rwa [if_neg (by assumption)] at this⟩
theorem told_allX {P:Program} {fT ft:FuncId} (hX:∀ (fd:Fd) (RS R1:Int→Bool→T→T→Prop),(fd.kind=10→ToldM P fT fd.sub RS)→(fd.kind=11→ToldFM P ft (oneF fd) R1)→ToldFM P ft fd (TdF fd (TdK fd RS R1)))
    (hT:∀ (fs:List Fd) (Rf:Fd→Int→Bool→T→T→Prop),(∀ f ∈ fs,f.tag < 4294967295)→(∀ fd ∈ fs,ToldFM P ft fd (Rf fd))→ToldM P fT fs (TdG fs Rf)) :
    ∀ (k:Nat) (fs:List Fd),okN k fs=true→ToldM P fT fs (TdG fs (RfN k)) :=
  told_all (fun fd h10 h11=>(hX fd (fun _ _ _ _=>False) (fun _ _ _ _=>False) (fun h=>absurd h h10) (fun h=>absurd h h11)).weak fun _ _ _ _=>TdF.any h10 h11)
    (fun fd R hK h=>(hX fd R (fun _ _ _ _=>False) (fun _=>h) (fun h'=>absurd (hK.symm.trans h') (by decide))).weak fun _ _ _ _=>TdF.mono fun hr=>⟨fun _=>hr,fun h'=>absurd (hK.symm.trans h') (by decide)⟩)
    (fun fd R hK h=>(hX fd (fun _ _ _ _=>False) R (fun h'=>absurd (hK.symm.trans h') (by decide)) (fun _=>h)).weak fun _ _ _ _=>TdF.mono fun hr=>⟨fun h'=>absurd (hK.symm.trans h') (by decide),fun _=>hr⟩) hT
section
variable {ver:Int} {fl:Bool} {y t:T} {fr to nul tag df of:Int} {sub:List Fd} {Rf:Fd→Int→Bool→T→T→Prop} {Q:V→Prop} {s:List UInt8}
theorem InvQ.weak {f:Rd} {Q':V→Prop} {o:List UInt8} (h:InvQ f ver fl Q o) (hq:∀ x,Q x→Q' x):InvQ f ver fl Q' o:=by
  intro rest nl hn
  obtain ⟨x,h1,h2⟩:=h rest nl hn
  exact ⟨x,h1,hq x h2⟩
theorem invq_two {g1 g2:RSt→V × RSt} {o1 o2:List UInt8} (h1:fl=true→InvQ (rdOne fun _ _=>g1) ver fl Q o1) (h2:fl=false→InvQ (rdOne fun _ _=>g2) ver fl Q o2) :
    InvQ (rdOne fun _ fl st=>if fl then g1 st else g2 st) ver fl Q (if fl then o1 else o2):=by
  intro rest nl hn
  cases fl with
  | true=>exact h1 rfl rest nl hn
  | false=>exact h2 rfl rest nl hn
theorem invq_str (h:s.length≤32767) (hq:Q (.s s)):InvQ (rdOne fun _ _=>gStr) ver fl Q (fxW s.length 2++s):=by
  intro rest nl hn
  have hnl:=nl_false hn (by simp[fixedW_ne])
  subst hnl
  obtain ⟨y,h1,h2,_⟩:=rdSpan_app (o:=s) (rest:=rest) (l:=s.length) (nl:=false) rfl (by simp)
  refine ⟨.s s,?_,hq⟩
  simp only[rdOne,gStr,rdString,List.append_assoc,rd16 h,h1,h2]
theorem invq_cstr (h:s.length≤32767) (hq:Q (.s s)):InvQ (rdOne fun _ _=>gCStr) ver fl Q (uvW (s.length+1)++s):=by
  intro rest nl hn
  have hnl:=nl_false hn (by simp[uvW_ne])
  subst hnl
  obtain ⟨y,h1,h2,_⟩:=rdSpan_app (o:=s) (rest:=rest) (l:=s.length) (nl:=false) rfl (by simp)
  refine ⟨.s s,?_,hq⟩
  have e:((s.length+1:Nat):Int) - 1=s.length:=by omega
  simp only[rdOne,gCStr,rdCString,List.append_assoc,rdUv_app (show s.length+1 < 4294967296 by omega),e,h1,h2]
theorem rfn_num {kind:Int} (hk:kind ≠ 11) {k:Nat} {t g:T} {R:Int→Bool→T→T→Prop} (h10:kind ≠ 10) (h:TdF (.mk kind fr to nul tag df of sub) R ver fl t g):RfN k (.mk kind fr to nul tag df of sub) ver fl t g:=by
  cases k with
  | zero=>exact TdF.any (fd:=.mk kind fr to nul tag df of sub) h10 hk h
  | succ k=>unfold RfN;rw[if_neg (show ¬ Fd.kind (.mk kind fr to nul tag df of sub)=11 from hk)];exact TdF.any (fd:=.mk kind fr to nul tag df of sub) h10 hk h
theorem inqf_strS {k:Nat} (hn:nul < 0):InvQ (rdOne fun _ fl st=>if fl then gCStr st else gStr st) ver fl (fun x=>RfN k (.mk 8 fr to nul tag df of sub) ver fl y (tStr x)) (fieldW (.mk 8 fr to nul tag df of sub) ver fl y):=by
  have hq:RfN k (.mk 8 fr to nul tag df of sub) ver fl y (tStr (.s (wholeS y.s))):=rfn_num (R:=fun _ _ _ _=>False) (by decide) (by decide) ⟨fun _=>(nullW_no hn).symm,fun _=>by show TdV 8 _ y _;simp[TdV,tStr,T.s]⟩
  rw[fieldW_eq,show Fd.kind (.mk 8 fr to nul tag df of sub)=8 from rfl,fieldV_str (nullW_no (show Fd.nul (.mk 8 fr to nul tag df of sub) < 0 from hn))]
  exact invq_two (fun _=>invq_cstr (wholeS_len _) hq) (fun _=>invq_str (wholeS_len _) hq)
end
end Go.Kq

namespace Go.Kq
open Go Go.Proofs
theorem repT_n {w:World} {A:Nat→Prop} {cs:List Value} {t:T} (h:RepT w A cs t):cs[0]?=some (.int .i64 t.n) ∧ -9223372036854775808≤t.n∧t.n≤9223372036854775807:=by
  cases t with
  | mk n s nl l u=>obtain ⟨_,_,_,rfl,h,_⟩:=repT_iff.1 h;exact ⟨rfl,h⟩
section
variable {P:Program} {N n:Nat} {TT TI TK:TypeId} {t0 t1:TypeId} {p0 p1:String} {e0 e1:Array Edge} {ats:Array TypeId}
theorem octE_big {w:World} {A:Nat→Prop} {v:Value} {s:List UInt8} (h:OctE w A v s):s.length≤4294967296:=by
  rcases h with ⟨y,h1,rfl⟩ | ⟨_,rfl⟩
  · rcases h1 with ⟨_, rfl⟩ | ⟨b, o, cap, l, _, _, h, _, rfl⟩
    · simp
    · exact h.2
  · simp
end
end Go.Kq

namespace Go.Kq
open Go Go.Proofs
structure KeptM (P:Program) (f:FuncId) (fs:List Fd) (enc:Int→Bool→T→List UInt8):Prop where
  enters:Enters P f
  call:∀ (w:World) (A B:Nat→Prop) (ver fx:Int) (fsv:Value) (ct:List Value) (t:T),FdsR w A fsv fs→RepT w B ct t→(∀ b,A b→b < w.heap.size)→(∀ b,B b→b < w.heap.size)→(enc ver (decide (fx≥0) && decide (ver≥fx)) t).length≤4294967000 →
    Calls P f #[.agg ([fsv,.int .i64 fx]:List Value).toArray,.int .i64 ver,.agg ct.toArray] w fun e w'=>∃ v,e = .returned v∧Fr [] w w'∧OctE w' (From w.heap.size w') v (fxW ver 2++enc ver (decide (fx≥0) && decide (ver≥fx)) t)
theorem kept_m {P:Program} {f:FuncId} {fn:Func} {T22 T26 T30:TypeId} {f19 f36:FuncId} {ct0:Array TypeId} {ct1:Array TypeId} {i0 i1:Nat} {t0 t1 t2 t3 t4 t5 t6 t7 t8 t9 t10:TypeId} {p0 p1 p2 p3 p4 p5 p6 p7 p8 p9 p10:String} {e0 e1 e2 e3 e4 e5 e6 e7 e8 e9 e10:Array Edge} {te:TypeId} {fs:List Fd} {enc:Int→Bool→T→List UInt8}
    (hf:P.funcs[f]?=some fn) (hname:(fn.name == "runtime.NumGoroutine")=false) (hres:fn.results = #[.tmp 6]) (hN:fn.ntmps=14)
    (hbody:fn.body=some (.seq (Code.region i0 ⟨[⟨some 3,.box T30 (.tmp 0),t0,p0,e0,none⟩,
    ⟨some 5,.box T26 (.tmp 2),t1,p1,e1,none⟩,
    ⟨some 6,.assign (.const (.slice none 0 0)),t2,p2,e2,none⟩]⟩ false)
  (.seq (Code.region i1 ⟨[⟨some 7,.move (.tmp 1),t3,p3,e3,none⟩,
    ⟨some 8,.call ⟨.value (.func f36),#[(.tmp 7),(.const (.int .i64 2))],ct0⟩,t4,p4,e4,none⟩,
    ⟨some 9,.load T30 (.tmp 3),t5,p5,e5,none⟩,
    ⟨some 10,.move (.tmp 1),t6,p6,e6,none⟩,
    ⟨some 11,.load T26 (.tmp 5),t7,p7,e7,none⟩,
    ⟨some 12,.call ⟨.value (.func f19),#[(.tmp 9),(.tmp 10),(.tmp 11)],ct1⟩,t8,p8,e8,none⟩,
    ⟨some 13,.call ⟨.builtin .append,#[(.tmp 8),(.tmp 12)],#[T22,T22]⟩,t9,p9,e9,none⟩,
    ⟨some 6,.assign (.tmp 13),t10,p10,e10,none⟩]⟩ true)
  .ret)))
    (hs_T22:sliceOf P T22 te 1 1=true) (hz_T22:zeroIs P te [.int .u8 0]) (hFlT30:Flat P T30 zM) (hFlT26:Flat P T26 zT) (he1:edgeOk 0 [e3,e4,e5,e6,e7,e8,e9,e10] [[],[0],[],[],[],[2,3,4],[0,1,2,3,4,5],[0,1,2,3,4,5,6]]=true) (hmx:P.follows .mixedOrders=true) (hFx:FixM P f36) (hWr:WriteM P f19 fs enc):KeptM P f fs enc:=by
  refine ⟨enters_of hf hname hbody,?_⟩
  intro w A B ver fx fsv ct t hfs ht hA hB hlen
  cases t with
  | mk tn s nl l u =>
  have ht0:=ht
  obtain ⟨sv,lv,uv,rfl,hn0,hs,hl,hu⟩:=repT_iff.1 ht
  have hfs1:=hfs.one
  have hF0:Fr [] w w:=Fr.refl [] w
  refine calls_of_wp hf hbody ?_
  generalize ha0:({ tmps:=#[Value.agg ([fsv,.int .i64 fx]:List Value).toArray,Value.int .i64 ver,Value.agg ([.int .i64 tn,sv,.bool nl,lv,uv]:List Value).toArray]++Array.replicate (fn.ntmps - (#[Value.agg ([fsv,.int .i64 fx]:List Value).toArray,Value.int .i64 ver,Value.agg ([.int .i64 tn,sv,.bool nl,lv,uv]:List Value).toArray]:Array Value).size) undef,defers:=[] }:Act)=a0
  have hz0:a0.tmps.size=14:=by subst ha0;simp[hN]
  have hd0:a0.defers=[]:=by subst ha0;rfl
  have g0_0:get a0 0 = .agg ([fsv,.int .i64 fx]:List Value).toArray:=by subst ha0;exact gAr rfl
  have g0_1:get a0 1 = .int .i64 ver:=by subst ha0;exact gAr rfl
  have g0_2:get a0 2 = .agg ([.int .i64 tn,sv,.bool nl,lv,uv]:List Value).toArray:=by subst ha0;exact gAr rfl
  refine wT fun K1 hK1=>?_
  refine wC (wp_boxL (cs:=[fsv,.int .i64 fx]) (eK g0_0) ?_)
  rintro w2 f2 sz2 r2 th2
  have hF3:Fr [] w w2:=hF0.tr f2
  refine wC (wp_boxL (cs:=[.int .i64 tn,sv,.bool nl,lv,uv]) (eK g0_2) ?_)
  rintro w4 f4 sz4 r4 th4
  have hF5:Fr [] w w4:=hF3.tr f4
  have rb6:=f4.range r2 .nil
  refine wC (wAs (v:=.slice none 0 0) rfl ?_)
  refine wEn fun a7 ha7=>?_
  have hz7:=kS ha7 hz0
  have hd7:=kD ha7 hd0
  have g7_1:=kP ha7 g0_1
  have g7_3:get a7 3 = .pointer (some ⟨w.heap.size,0,none⟩):=kG ha7 hz0
  have g7_5:get a7 5 = .pointer (some ⟨w2.heap.size,0,none⟩):=kG ha7 hz0
  refine hK1 a7 w4 (tUp ?_)
  refine tId (wp_seq_k fun K8 hK8=>?_)
  refine wp_drawR (os:=[⟨some 7,.move (.tmp 1),t3,p3,e3,none⟩,⟨some 8,.call ⟨.value (.func f36),#[(.tmp 7),(.const (.int .i64 2))],ct0⟩,t4,p4,e4,none⟩,⟨some 9,.load T30 (.tmp 3),t5,p5,e5,none⟩,⟨some 10,.move (.tmp 1),t6,p6,e6,none⟩,⟨some 11,.load T26 (.tmp 5),t7,p7,e7,none⟩,⟨some 12,.call ⟨.value (.func f19),#[(.tmp 9),(.tmp 10),(.tmp 11)],ct1⟩,t8,p8,e8,none⟩]) (rest:=[⟨some 13,.call ⟨.builtin .append,#[(.tmp 8),(.tmp 12)],#[T22,T22]⟩,t9,p9,e9,none⟩,⟨some 6,.assign (.tmp 13),t10,p10,e10,none⟩]) [spC [] (.int .i64 ver),spR [0] (fun x w'=>Own w' (From w4.heap.size w') 1 x (fxW ver 2).length (octets (fxW ver 2))),spC [] (.agg ([fsv,.int .i64 fx]:List Value).toArray),spC [] (.int .i64 ver),spC [] (.agg ([.int .i64 tn,sv,.bool nl,lv,uv]:List Value).toArray),spR [2,3,4] (fun x w'=>OctE w' (From w4.heap.size w') x (enc ver (decide (fx≥0) && decide (ver≥fx)) (.mk tn s nl l u)))] 7 [] hmx he1 (by simp[shape]) (by simp[plainO]) (by simp[spC,spR]) (by simp;omega) ⟨lCc _ _ _,(fun v w1 w2 f h=>Own.kept h f (by simp) (fun _ hb=>⟨hb.1,Nat.lt_of_lt_of_le hb.2 f.size⟩)),lCc _ _ _,lCc _ _ _,lCc _ _ _,(fun v w1 w2 f h=>OctE.kept h f (by simp) (fun _ hb=>⟨hb.1,Nat.lt_of_lt_of_le hb.2 f.size⟩)),trivial⟩ ?_ ?_
  · refine oCs ?_ ?_
    · refine op_c fun a' w' hk' hf' hd' K' hK' => ?_
      refine wMv (v:=.int .i64 ver) (by rw[eTm,hk'.get 1 (by omega),g7_1]) ?_
      exact hK'
    refine oCs ?_ ?_
    · refine op_r fun a' w' hk' hf' hd' K' hK' => ?_
      refine wCr (R:=fun vz wz=>Fr [] w' wz∧Own wz (From w'.heap.size wz) 1 vz (fxW ver 2).length (octets (fxW ver 2))) (vs:=#[.int .i64 ver,.int .i64 2]) hFx.enters (by simp only[List.map_toArray,List.map_cons,List.map_nil];rw[show a'.eval (.tmp 7)=Value.int .i64 ver from (by rw[eTm];exact hd'.c (nd':=[]) 0 (by simp) rfl),show a'.eval (.const (.int .i64 2))=Value.int .i64 2 from rfl]) (calls_fresh (hFx.call w' ver 2 (by decide))) ?_
      rintro x9 w9 ⟨fr9,ow9⟩
      exact hK' x9 w9 (ow9.imp_A (fun b hb=>(⟨Nat.le_trans hf'.size hb.1,hb.2⟩:From w4.heap.size w9 b))) fr9
    refine oCs ?_ ?_
    · refine op_c fun a' w' hk' hf' hd' K' hK' => ?_
      refine wp_loadFlat (cs:=[fsv,.int .i64 fx]) (b:=w.heap.size) (o:=0) hFlT30 rfl (by rw[eTm,hk'.get 3 (by omega),g7_3]) ((hf'.range rb6 .nil)) ?_
      exact hK'
    refine oCs ?_ ?_
    · refine op_c fun a' w' hk' hf' hd' K' hK' => ?_
      refine wMv (v:=.int .i64 ver) (by rw[eTm,hk'.get 1 (by omega),g7_1]) ?_
      exact hK'
    refine oCs ?_ ?_
    · refine op_c fun a' w' hk' hf' hd' K' hK' => ?_
      refine wp_loadFlat (cs:=[.int .i64 tn,sv,.bool nl,lv,uv]) (b:=w2.heap.size) (o:=0) hFlT26 rfl (by rw[eTm,hk'.get 5 (by omega),g7_5]) ((hf'.range r4 .nil)) ?_
      exact hK'
    refine oCs ?_ ?_
    · refine op_r fun a' w' hk' hf' hd' K' hK' => ?_
      refine wCr (R:=fun vz wz=>Fr [] w' wz∧OctE wz (From w'.heap.size wz) vz (enc ver (decide (fx≥0) && decide (ver≥fx)) (.mk tn s nl l u))) (vs:=#[.agg ([fsv,.int .i64 fx]:List Value).toArray,.int .i64 ver,.agg ([.int .i64 tn,sv,.bool nl,lv,uv]:List Value).toArray]) hWr.enters (by simp only[List.map_toArray,List.map_cons,List.map_nil];rw[show a'.eval (.tmp 9)=Value.agg ([fsv,.int .i64 fx]:List Value).toArray from (by rw[eTm];exact hd'.c (nd':=[]) 2 (by simp) rfl),show a'.eval (.tmp 10)=Value.int .i64 ver from (by rw[eTm];exact hd'.c (nd':=[]) 3 (by simp) rfl),show a'.eval (.tmp 11)=Value.agg ([.int .i64 tn,sv,.bool nl,lv,uv]:List Value).toArray from (by rw[eTm];exact hd'.c (nd':=[]) 4 (by simp) rfl)]) ((calls_fresh (hWr.call w' A B ver fx fsv _ _ ((hfs.kept hF5 (by simp) (fun _ h=>h)).kept hf' (by simp) (fun _ h=>h)) ((ht0.kept hF5 (by simp) (fun _ h=>h)).kept hf' (by simp) (fun _ h=>h)) (fun b hb=>Nat.lt_of_lt_of_le (hA b hb) (hF5.tr hf').size) (fun b hb=>Nat.lt_of_lt_of_le (hB b hb) (hF5.tr hf').size) (by omega))).mono (by rintro e wz ⟨v,rfl,h1,h2⟩;exact ⟨_,rfl,h1,h2.octE (by omega)⟩)) ?_
      rintro x10 w10 ⟨fr10,ow10⟩
      exact hK' x10 w10 (ow10.kept (Fr.refl [] _) (by simp) (fun b hb=>(⟨Nat.le_trans hf'.size hb.1,hb.2⟩:From w4.heap.size w10 b))) fr10
    exact opsOk_nil
  intro a11 w11 k11 f11 hd_11
  have hz11:a11.tmps.size=14:=k11.size.trans hz7
  have hd11:a11.defers=[]:=k11.defers.trans hd7
  have hF12:Fr [] w w11:=hF5.tr f11
  have rb13:=f11.range rb6 .nil
  have rb14:=f11.range r4 .nil
  rw[wCo]
  obtain ⟨xv,hxv,oxv⟩:∃ xv,get a11 8=xv∧Own w11 (From w4.heap.size w11) 1 xv (fxW ver 2).length (octets (fxW ver 2)):=⟨_,rfl,hd_11.at (d:=1) (by simp) rfl⟩
  obtain ⟨yv,hyv,oyv⟩:∃ yv,get a11 12=yv∧OctE w11 (From w4.heap.size w11) yv (enc ver (decide (fx≥0) && decide (ver≥fx)) (.mk tn s nl l u)):=⟨_,rfl,hd_11.at (d:=5) (by simp) rfl⟩
  refine wp_appA (xs:=fxW ver 2) (ys:=(enc ver (decide (fx≥0) && decide (ver≥fx)) (.mk tn s nl l u))) hs_T22 hz_T22 (by rw[eTm];exact hxv) (by rw[eTm];exact hyv) oxv oyv (by simp only[fxL];omega) ?_
  intro vB wB haB
  obtain ⟨_,hvB,fB,oB,iB⟩:=haB _ rfl
  cases hvB
  have szB:=fB.size
  have hFB:Fr [] w wB:=hF12.trans fB (fun r hr=>.inl (by have:=oxv.spare_in r hr;have:=this.1;have:=hF5.size;omega))
  refine wC (wAs (v:=vB) (eS hz11) ?_)
  refine wEn fun a16 ha16=>?_
  have hz16:=kS ha16 hz11
  have hd16:=kD ha16 hd11
  have g16_6:get a16 6=vB:=kG ha16 hz11
  refine hK8 a16 wB (tUp ?_)
  refine wp_ret ?_
  exact ⟨hd16,_,rIs hres g16_6,_,rfl,hFB,(oB.imp_A (A':=From w.heap.size wB) (by rintro b (h | h);exact ⟨by have:=h.1;have:=hF5.size;omega,by have:=h.2;omega⟩;exact ⟨by have:=h.1;have:=hF12.size;omega,h.2⟩)).octE (by simp only[List.length_append,fxL];omega)⟩
end Go.Kq
