/- A part of the library: rules of reasoning about the program's operations and what its shared functions do. -/
import Derived.Test.YthmejlgblhjcdaaDoorKqP04
import Derived.Test.YthmejlgblhjcdaaDoorKqP01
import Derived.Test.YthmejlgblhjcdaaDoorKqP02
import Derived.Laws.IdiomCopy
set_option linter.unusedVariables false
set_option linter.unusedSimpArgs false
namespace Go.Kq
open Go Go.Proofs
def TdV (kind : Int) (R : T → T → Prop) (t g : T) : Prop :=
  if kind = 8 ∨ kind = 9 then g.s = wholeS t.s else if kind = 7 then g.s = uuidW t.s else if kind = 10 then R t g else g.n = numW kind t.n
def TdF (fd : Fd) (R : T → T → Prop) (ver : Int) (t g : T) : Prop :=
  ((fd.kind = 8 ∨ fd.kind = 10 ∨ (decide (fd.nul ≥ 0) && decide (ver ≥ fd.nul)) = true) → g.nl = nullW fd.nul ver t) ∧ (nullW fd.nul ver t = false → TdV fd.kind R t g)
structure ToldFM (P : Program) (f : FuncId) (fd : Fd) (R : Int → T → T → Prop) : Prop where
  enters : Enters P f
  call : ∀ (w : World) (A B C : Nat → Prop) (ver : Int) (flex : Bool) (cs ct cg : List Value) (t g : T), RepF w A cs fd → RepT w B ct t → RepT w C cg g → (∀ b, A b → b < w.heap.size) → (∀ b, B b → b < w.heap.size) → (∀ b, C b → b < w.heap.size) → R ver t g →
    Calls P f #[.agg cs.toArray, .int .i64 ver, .bool flex, .agg ct.toArray, .agg cg.toArray] w fun e w' => e = .returned (.bool true) ∧ Fr [] w w'
set_option maxHeartbeats 4000000 in
theorem told_m {P : Program} {f : FuncId} {fn : Func} {T2 T3 T4 T22 T23 T26 T29 T51 : TypeId} {f10 f23 f26 f27 f39 f40 f41 : FuncId} {a0 : Array TypeId} {a1 : Array TypeId} {a2 : Array TypeId} {a3 : Array TypeId} {a4 : Array TypeId} {a5 : Array TypeId} {a6 : Array TypeId} {a7 : Array TypeId} {i0 i1 i2 i3 i4 i5 i6 i7 i8 i9 i10 i11 i12 i13 i14 i15 i16 i17 i18 i19 i20 i21 i22 i23 i24 i25 i26 i27 i28 i29 i30 : Nat} {t0 t1 t2 t3 t4 t5 t6 t7 t8 t9 t10 t11 t12 t13 t14 t15 t16 t17 t18 t19 t20 t21 t22 t23 t24 t25 t26 t27 t28 t29 t30 t31 t32 t33 t34 t35 t36 t37 t38 t39 t40 t41 t42 t43 t44 t45 t46 t47 t48 t49 t50 t51 t52 t53 t54 t55 t56 t57 t58 t59 t60 t61 t62 t63 t64 t65 t66 t67 t68 t69 t70 t71 t72 t73 t74 t75 t76 t77 t78 t79 t80 t81 t82 t83 t84 t85 t86 t87 t88 t89 t90 t91 t92 t93 t94 t95 t96 t97 t98 t99 t100 t101 t102 t103 t104 t105 t106 t107 t108 t109 t110 t111 t112 t113 t114 t115 t116 t117 t118 t119 t120 t121 t122 t123 t124 t125 t126 t127 t128 t129 t130 t131 : TypeId} {p0 p1 p2 p3 p4 p5 p6 p7 p8 p9 p10 p11 p12 p13 p14 p15 p16 p17 p18 p19 p20 p21 p22 p23 p24 p25 p26 p27 p28 p29 p30 p31 p32 p33 p34 p35 p36 p37 p38 p39 p40 p41 p42 p43 p44 p45 p46 p47 p48 p49 p50 p51 p52 p53 p54 p55 p56 p57 p58 p59 p60 p61 p62 p63 p64 p65 p66 p67 p68 p69 p70 p71 p72 p73 p74 p75 p76 p77 p78 p79 p80 p81 p82 p83 p84 p85 p86 p87 p88 p89 p90 p91 p92 p93 p94 p95 p96 p97 p98 p99 p100 p101 p102 p103 p104 p105 p106 p107 p108 p109 p110 p111 p112 p113 p114 p115 p116 p117 p118 p119 p120 p121 p122 p123 p124 p125 p126 p127 p128 p129 p130 p131 : String} {e0 e1 e2 e3 e4 e5 e6 e7 e8 e9 e10 e11 e12 e13 e14 e15 e16 e17 e18 e19 e20 e21 e22 e23 e24 e25 e26 e27 e28 e29 e30 e31 e32 e33 e34 e35 e36 e37 e38 e39 e40 e41 e42 e43 e44 e45 e46 e47 e48 e49 e50 e51 e52 e53 e54 e55 e56 e57 e58 e59 e60 e61 e62 e63 e64 e65 e66 e67 e68 e69 e70 e71 e72 e73 e74 e75 e76 e77 e78 e79 e80 e81 e82 e83 e84 e85 e86 e87 e88 e89 e90 e91 e92 e93 e94 e95 e96 e97 e98 e99 e100 e101 e102 e103 e104 e105 e106 e107 e108 e109 e110 e111 e112 e113 e114 e115 e116 e117 e118 e119 e120 e121 e122 e123 e124 e125 e126 e127 e128 e129 e130 e131 : Array Edge} {te : TypeId} {fd : Fd}
    (hf : P.funcs[f]? = some fn) (hname : (fn.name == "runtime.NumGoroutine") = false) (hres : fn.results = #[.tmp 10]) (hN : fn.ntmps = 124)
    (hbody : fn.body = some (.seq (Code.region i0 ⟨[⟨some 5, .box T51 (.tmp 0), t0, p0, e0, none⟩,
    ⟨some 8, .box T26 (.tmp 3), t1, p1, e1, none⟩,
    ⟨some 9, .box T26 (.tmp 4), t2, p2, e2, none⟩,
    ⟨some 10, .assign (.const (.bool false)), t3, p3, e3, none⟩]⟩ false)
  (.seq (Code.region i1 ⟨[⟨some 17, .load T51 (.tmp 5), t4, p4, e4, none⟩,
    ⟨some 18, .move (.tmp 1), t5, p5, e5, none⟩,
    ⟨some 19, .load T26 (.tmp 8), t6, p6, e6, none⟩,
    ⟨some 20, .call ⟨.value (.func f39), #[(.tmp 17), (.tmp 18), (.tmp 19)], a0⟩, t7, p7, e7, none⟩,
    ⟨some 11, .assign (.tmp 20), t8, p8, e8, none⟩]⟩ false)
  (.seq (Code.region i2 ⟨[⟨some 21, .fieldAddr T51 (.tmp 5) 3, t9, p9, e9, none⟩,
    ⟨some 22, .load T3 (.tmp 21), t10, p10, e10, none⟩,
    ⟨some 23, .binOp .geq T3 (.tmp 22) (.const (.int .i64 0)) T3, t11, p11, e11, none⟩,
    ⟨some 24, .move (.tmp 23), t12, p12, e12, none⟩,
    ⟨some 25, .move (.tmp 1), t13, p13, e13, some (3, true)⟩,
    ⟨some 26, .fieldAddr T51 (.tmp 5) 3, t14, p14, e14, some (3, true)⟩,
    ⟨some 27, .load T3 (.tmp 26), t15, p15, e15, some (3, true)⟩,
    ⟨some 28, .binOp .geq T3 (.tmp 25) (.tmp 27) T3, t16, p16, e16, some (3, true)⟩,
    ⟨some 29, .pick (.tmp 24) (.tmp 28) (.const (.bool false)), t17, p17, e17, none⟩,
    ⟨some 12, .assign (.tmp 29), t18, p18, e18, none⟩]⟩ false)
  (.seq (.seq (Code.region i3 ⟨[⟨some 30, .fieldAddr T51 (.tmp 5) 0, t19, p19, e19, none⟩,
    ⟨some 31, .load T3 (.tmp 30), t20, p20, e20, none⟩,
    ⟨some 32, .binOp .eql T3 (.tmp 31) (.const (.int .i64 8)) T3, t21, p21, e21, none⟩,
    ⟨some 33, .move (.tmp 32), t22, p22, e22, none⟩,
    ⟨some 34, .fieldAddr T51 (.tmp 5) 0, t23, p23, e23, some (3, false)⟩,
    ⟨some 35, .load T3 (.tmp 34), t24, p24, e24, some (3, false)⟩,
    ⟨some 36, .binOp .eql T3 (.tmp 35) (.const (.int .i64 10)) T3, t25, p25, e25, some (3, false)⟩,
    ⟨some 37, .pick (.tmp 33) (.const (.bool true)) (.tmp 36), t26, p26, e26, none⟩,
    ⟨some 38, .move (.tmp 37), t27, p27, e27, none⟩,
    ⟨some 39, .move (.tmp 12), t28, p28, e28, some (8, false)⟩,
    ⟨some 40, .pick (.tmp 38) (.const (.bool true)) (.tmp 39), t29, p29, e29, none⟩,
    ⟨some 41, .move (.tmp 40), t30, p30, e30, none⟩,
    ⟨some 42, .fieldAddr T26 (.tmp 9) 2, t31, p31, e31, some (11, true)⟩,
    ⟨some 43, .load T4 (.tmp 42), t32, p32, e32, some (11, true)⟩,
    ⟨some 44, .move (.tmp 11), t33, p33, e33, some (11, true)⟩,
    ⟨some 45, .binOp .neq T4 (.tmp 43) (.tmp 44) T4, t34, p34, e34, some (11, true)⟩,
    ⟨some 46, .pick (.tmp 41) (.tmp 45) (.const (.bool false)), t35, p35, e35, none⟩]⟩ false)
  (.cond (.tmp 46) (.seq (Code.region i4 ⟨[⟨some 10, .assign (.const (.bool false)), t36, p36, e36, none⟩]⟩ false)
  .ret)
  .skip))
  (.seq (.seq (Code.region i5 ⟨[⟨some 47, .move (.tmp 11), t37, p37, e37, none⟩]⟩ false)
  (.cond (.tmp 47) (.seq (Code.region i6 ⟨[⟨some 10, .assign (.const (.bool true)), t38, p38, e38, none⟩]⟩ false)
  .ret)
  .skip))
  (.seq (.seq (Code.region i7 ⟨[⟨some 48, .fieldAddr T51 (.tmp 5) 0, t39, p39, e39, none⟩,
    ⟨some 49, .load T3 (.tmp 48), t40, p40, e40, none⟩]⟩ false)
  (.block 0 (.seq (.seq (Code.region i8 ⟨[⟨some 51, .binOp .eql T3 (.tmp 49) (.const (.int .i64 8)) T3, t41, p41, e41, none⟩,
    ⟨some 50, .assign (.tmp 51), t42, p42, e42, none⟩]⟩ false)
  (.cond (.tmp 50) .skip
  (Code.region i9 ⟨[⟨some 52, .binOp .eql T3 (.tmp 49) (.const (.int .i64 9)) T3, t43, p43, e43, none⟩,
    ⟨some 50, .assign (.tmp 52), t44, p44, e44, none⟩]⟩ false)))
  (.cond (.tmp 50) (.seq (Code.region i10 ⟨[⟨some 53, .fieldAddr T26 (.tmp 9) 1, t45, p45, e45, none⟩,
    ⟨some 54, .load T22 (.tmp 53), t46, p46, e46, none⟩,
    ⟨some 55, .fieldAddr T26 (.tmp 8) 1, t47, p47, e47, none⟩,
    ⟨some 56, .load T22 (.tmp 55), t48, p48, e48, none⟩,
    ⟨some 57, .call ⟨.value (.func f27), #[(.tmp 56)], a1⟩, t49, p49, e49, none⟩,
    ⟨some 58, .call ⟨.value (.func f26), #[(.tmp 54), (.tmp 57)], a2⟩, t50, p50, e50, none⟩,
    ⟨some 10, .assign (.tmp 58), t51, p51, e51, none⟩]⟩ true)
  .ret)
  (.seq (Code.region i11 ⟨[⟨some 60, .binOp .eql T3 (.tmp 49) (.const (.int .i64 7)) T3, t52, p52, e52, none⟩,
    ⟨some 59, .assign (.tmp 60), t53, p53, e53, none⟩]⟩ false)
  (.cond (.tmp 59) (.seq (Code.region i12 ⟨[⟨some 61, .makeSlice T22 (.const (.int .i64 16)) (.const (.int .i64 16)), t54, p54, e54, none⟩,
    ⟨some 13, .assign (.tmp 61), t55, p55, e55, none⟩]⟩ false)
  (.seq (Code.region i13 ⟨[⟨some 62, .move (.tmp 13), t56, p56, e56, none⟩,
    ⟨some 63, .fieldAddr T26 (.tmp 8) 1, t57, p57, e57, none⟩,
    ⟨some 64, .load T22 (.tmp 63), t58, p58, e58, none⟩,
    ⟨some 65, .call ⟨.builtin .copy, #[(.tmp 62), (.tmp 64)], #[T22, T22]⟩, t59, p59, e59, none⟩]⟩ false)
  (.seq (Code.region i14 ⟨[⟨some 66, .fieldAddr T26 (.tmp 9) 1, t60, p60, e60, none⟩,
    ⟨some 67, .load T22 (.tmp 66), t61, p61, e61, none⟩,
    ⟨some 68, .move (.tmp 13), t62, p62, e62, none⟩,
    ⟨some 69, .call ⟨.value (.func f26), #[(.tmp 67), (.tmp 68)], a3⟩, t63, p63, e63, none⟩,
    ⟨some 10, .assign (.tmp 69), t64, p64, e64, none⟩]⟩ false)
  .ret)))
  (.seq (Code.region i15 ⟨[⟨some 71, .binOp .eql T3 (.tmp 49) (.const (.int .i64 10)) T3, t65, p65, e65, none⟩,
    ⟨some 70, .assign (.tmp 71), t66, p66, e66, none⟩]⟩ false)
  (.cond (.tmp 70) (.seq (Code.region i16 ⟨[⟨some 72, .fieldAddr T51 (.tmp 5) 7, t67, p67, e67, none⟩,
    ⟨some 73, .load T29 (.tmp 72), t68, p68, e68, none⟩,
    ⟨some 74, .move (.tmp 1), t69, p69, e69, none⟩,
    ⟨some 75, .move (.tmp 2), t70, p70, e70, none⟩,
    ⟨some 76, .load T26 (.tmp 8), t71, p71, e71, none⟩,
    ⟨some 77, .load T26 (.tmp 9), t72, p72, e72, none⟩,
    ⟨some 78, .call ⟨.value (.func f10), #[(.tmp 73), (.tmp 74), (.tmp 75), (.tmp 76), (.tmp 77)], a4⟩, t73, p73, e73, none⟩,
    ⟨some 10, .assign (.tmp 78), t74, p74, e74, none⟩]⟩ false)
  .ret)
  (.seq (Code.region i17 ⟨[⟨some 80, .binOp .eql T3 (.tmp 49) (.const (.int .i64 11)) T3, t75, p75, e75, none⟩,
    ⟨some 79, .assign (.tmp 80), t76, p76, e76, none⟩]⟩ false)
  (.cond (.tmp 79) (.seq (Code.region i18 ⟨[⟨some 81, .fieldAddr T26 (.tmp 8) 3, t77, p77, e77, none⟩,
    ⟨some 82, .load T23 (.tmp 81), t78, p78, e78, none⟩,
    ⟨some 83, .call ⟨.value (.func f40), #[(.tmp 82)], a5⟩, t79, p79, e79, none⟩,
    ⟨some 14, .assign (.tmp 83), t80, p80, e80, none⟩]⟩ false)
  (.seq (.seq (Code.region i19 ⟨[⟨some 84, .fieldAddr T26 (.tmp 9) 3, t81, p81, e81, none⟩,
    ⟨some 85, .load T23 (.tmp 84), t82, p82, e82, none⟩,
    ⟨some 86, .call ⟨.builtin .len, #[(.tmp 85)], #[T23]⟩, t83, p83, e83, none⟩,
    ⟨some 87, .move (.tmp 14), t84, p84, e84, none⟩,
    ⟨some 88, .call ⟨.builtin .len, #[(.tmp 87)], #[T23]⟩, t85, p85, e85, none⟩,
    ⟨some 89, .binOp .neq T3 (.tmp 86) (.tmp 88) T3, t86, p86, e86, none⟩]⟩ false)
  (.cond (.tmp 89) (.seq (Code.region i20 ⟨[⟨some 10, .assign (.const (.bool false)), t87, p87, e87, none⟩]⟩ false)
  .ret)
  .skip))
  (.seq (Code.region i21 ⟨[⟨some 90, .load T51 (.tmp 5), t88, p88, e88, none⟩,
    ⟨some 15, .alloc T51, t89, p89, e89, none⟩,
    ⟨none, .store T51 (.tmp 15) (.tmp 90), t90, p90, e90, none⟩]⟩ false)
  (.seq (Code.region i22 ⟨[⟨some 91, .fieldAddr T51 (.tmp 5) 6, t91, p91, e91, none⟩,
    ⟨some 92, .load T3 (.tmp 91), t92, p92, e92, none⟩,
    ⟨some 93, .fieldAddr T51 (.tmp 15) 0, t93, p93, e93, none⟩,
    ⟨none, .store T3 (.tmp 93) (.tmp 92), t94, p94, e94, none⟩,
    ⟨some 94, .fieldAddr T51 (.tmp 15) 3, t95, p95, e95, none⟩,
    ⟨none, .store T3 (.tmp 94) (.const (.int .i64 (-1))), t96, p96, e96, none⟩,
    ⟨some 95, .fieldAddr T51 (.tmp 15) 4, t97, p97, e97, none⟩,
    ⟨none, .store T3 (.tmp 95) (.const (.int .i64 (-1))), t98, p98, e98, none⟩]⟩ false)
  (.seq (.seq (Code.region i23 ⟨[⟨some 96, .move (.tmp 14), t99, p99, e99, none⟩,
    ⟨some 97, .call ⟨.builtin .len, #[(.tmp 96)], #[T23]⟩, t100, p100, e100, none⟩,
    ⟨some 98, .move (.const (.int .i64 0)), t101, p101, e101, none⟩]⟩ false)
  (.block 1 (.loop (.seq (Code.region i24 ⟨[⟨some 99, .binOp .lss T3 (.tmp 98) (.tmp 97) T3, t102, p102, e102, none⟩]⟩ false)
  (.seq (.cond (.tmp 99) .skip
  (.exit 1))
  (.seq (.block 2 (.seq (Code.region i25 ⟨[⟨some 100, .move (.tmp 98), t103, p103, e103, none⟩,
    ⟨some 16, .assign (.tmp 100), t104, p104, e104, none⟩]⟩ false)
  (.seq (Code.region i26 ⟨[⟨some 101, .load T51 (.tmp 15), t105, p105, e105, none⟩,
    ⟨some 102, .move (.tmp 1), t106, p106, e106, none⟩,
    ⟨some 103, .move (.tmp 2), t107, p107, e107, none⟩,
    ⟨some 104, .move (.tmp 14), t108, p108, e108, none⟩,
    ⟨some 105, .move (.tmp 16), t109, p109, e109, none⟩,
    ⟨some 106, .indexAddr T23 (.tmp 104) (.tmp 105), t110, p110, e110, none⟩,
    ⟨some 107, .load T26 (.tmp 106), t111, p111, e111, none⟩,
    ⟨some 108, .fieldAddr T26 (.tmp 9) 3, t112, p112, e112, none⟩,
    ⟨some 109, .load T23 (.tmp 108), t113, p113, e113, none⟩,
    ⟨some 110, .move (.tmp 16), t114, p114, e114, none⟩,
    ⟨some 111, .indexAddr T23 (.tmp 109) (.tmp 110), t115, p115, e115, none⟩,
    ⟨some 112, .load T26 (.tmp 111), t116, p116, e116, none⟩,
    ⟨some 113, .call ⟨.value (.func f23), #[(.tmp 101), (.tmp 102), (.tmp 103), (.tmp 107), (.tmp 112)], a6⟩, t117, p117, e117, none⟩,
    ⟨some 114, .unOp .not T4 (.tmp 113), t118, p118, e118, none⟩]⟩ true)
  (.cond (.tmp 114) (.seq (Code.region i27 ⟨[⟨some 10, .assign (.const (.bool false)), t119, p119, e119, none⟩]⟩ false)
  .ret)
  .skip))))
  (Code.region i28 ⟨[⟨some 115, .binOp .add T3 (.tmp 98) (.const (.int .i64 1)) T3, t120, p120, e120, none⟩,
    ⟨some 98, .move (.tmp 115), t121, p121, e121, none⟩]⟩ false)))))))
  (.seq (Code.region i29 ⟨[⟨some 10, .assign (.const (.bool true)), t122, p122, e122, none⟩]⟩ false)
  .ret))))))
  .skip))))))))))
  (.seq (Code.region i30 ⟨[⟨some 116, .fieldAddr T26 (.tmp 9) 0, t123, p123, e123, none⟩,
    ⟨some 117, .load T2 (.tmp 116), t124, p124, e124, none⟩,
    ⟨some 118, .fieldAddr T51 (.tmp 5) 0, t125, p125, e125, none⟩,
    ⟨some 119, .load T3 (.tmp 118), t126, p126, e126, none⟩,
    ⟨some 120, .fieldAddr T26 (.tmp 8) 0, t127, p127, e127, none⟩,
    ⟨some 121, .load T2 (.tmp 120), t128, p128, e128, none⟩,
    ⟨some 122, .call ⟨.value (.func f41), #[(.tmp 119), (.tmp 121)], a7⟩, t129, p129, e129, none⟩,
    ⟨some 123, .binOp .eql T2 (.tmp 117) (.tmp 122) T2, t130, p130, e130, none⟩,
    ⟨some 10, .assign (.tmp 123), t131, p131, e131, none⟩]⟩ true)
  .ret))))))))
    (hs_T22 : sliceOf P T22 te 1 1 = true) (hz_T22 : zeroIs P te [.int .u8 0]) (hFlT51 : Flat P T51 zF) (hFlT26 : Flat P T26 zT) (hcT3 : scal P T3 = true) (hcT22 : scal P T22 = true) (he108 : edgeOk 0 [e45, e46, e47, e48, e49, e50, e51] [[], [0], [], [2], [3], [1, 4], [0, 1, 2, 3, 4, 5]] = true) (hmx : P.follows .mixedOrders = true) (he109 : edgeOk 0 [e45, e46, e47, e48, e49, e50, e51] [[], [0], [], [2], [3], [1, 4], [0, 1, 2, 3, 4, 5]] = true) (hcT2 : scal P T2 = true) (he30 : edgeOk 0 [e123, e124, e125, e126, e127, e128, e129, e130, e131] [[], [0], [], [2], [], [4], [3, 5], [1, 6], [0, 1, 2, 3, 4, 5, 6, 7]] = true) (hcT4 : scal P T4 = true) (hbT : boolTy P T4 = true) (hK10 : fd.kind ≠ 10) (hK11 : fd.kind ≠ 11) (hNu : NullM P f39) (hWh : WholeM P f27) (hSa : SameM P f26) (hNum : NumM P f41) : ToldFM P f fd (TdF fd fun _ _ => False) := by
  refine ⟨enters_of hf hname hbody, ?_⟩
  intro w A B C ver flex cs ct cg t g hr ht hg hA hB hC hR
  cases t with
  | mk n s nl l u =>
  cases g with
  | mk gn gs gnl gl gu =>
  have ht0 := ht
  obtain ⟨sv, lv, uv, rfl, hn, hs, hl, hu⟩ := repT_iff.1 ht
  obtain ⟨gsv, glv, guv, rfl, hgn, hgs, hgl, hgu⟩ := repT_iff.1 hg
  obtain ⟨fsv, rfl, hsub⟩ := repF_iff.1 hr
  obtain ⟨hRn, hRv⟩ := hR
  obtain ⟨nu, hnu⟩ : ∃ b, b = nullW fd.nul ver (.mk n s nl l u) := ⟨_, rfl⟩
  rw [← hnu] at hRn hRv
  obtain ⟨may, hmay⟩ : ∃ b, b = (decide (fd.nul ≥ 0) && decide (ver ≥ fd.nul)) := ⟨_, rfl⟩
  rw [← hmay] at hRn
  simp only [T.nl] at hRn
  refine calls_of_wp hf hbody ?_
  generalize ha0 : ({ tmps := #[Value.agg ([.int .i64 fd.kind, .int .i64 fd.fr, .int .i64 fd.to, .int .i64 fd.nul, .int .i64 fd.tag, .int .i64 fd.df, .int .i64 fd.of, fsv] : List Value).toArray, Value.int .i64 ver, Value.bool flex, Value.agg ([.int .i64 n, sv, .bool nl, lv, uv] : List Value).toArray, Value.agg ([.int .i64 gn, gsv, .bool gnl, glv, guv] : List Value).toArray] ++ Array.replicate (fn.ntmps - (#[Value.agg ([.int .i64 fd.kind, .int .i64 fd.fr, .int .i64 fd.to, .int .i64 fd.nul, .int .i64 fd.tag, .int .i64 fd.df, .int .i64 fd.of, fsv] : List Value).toArray, Value.int .i64 ver, Value.bool flex, Value.agg ([.int .i64 n, sv, .bool nl, lv, uv] : List Value).toArray, Value.agg ([.int .i64 gn, gsv, .bool gnl, glv, guv] : List Value).toArray] : Array Value).size) undef, defers := [] } : Act) = a0
  have hz0 : a0.tmps.size = 124 := by subst ha0; simp [hN]
  have hd0 : a0.defers = [] := by subst ha0; rfl
  have g0_0 : get a0 0 = .agg ([.int .i64 fd.kind, .int .i64 fd.fr, .int .i64 fd.to, .int .i64 fd.nul, .int .i64 fd.tag, .int .i64 fd.df, .int .i64 fd.of, fsv] : List Value).toArray := by subst ha0; exact gAr rfl
  have g0_1 : get a0 1 = .int .i64 ver := by subst ha0; exact gAr rfl
  have g0_2 : get a0 2 = .bool flex := by subst ha0; exact gAr rfl
  have g0_3 : get a0 3 = .agg ([.int .i64 n, sv, .bool nl, lv, uv] : List Value).toArray := by subst ha0; exact gAr rfl
  have g0_4 : get a0 4 = .agg ([.int .i64 gn, gsv, .bool gnl, glv, guv] : List Value).toArray := by subst ha0; exact gAr rfl
  refine wT fun K1 hK1 => ?_
  refine wC (wp_boxL (cs := [.int .i64 fd.kind, .int .i64 fd.fr, .int .i64 fd.to, .int .i64 fd.nul, .int .i64 fd.tag, .int .i64 fd.df, .int .i64 fd.of, fsv]) (eK g0_0) ?_)
  rintro w2 f2 sz2 r2 th2
  have hF3 : Fr [] w w2 := f2
  refine wC (wp_boxL (cs := [.int .i64 n, sv, .bool nl, lv, uv]) (eK g0_3) ?_)
  rintro w4 f4 sz4 r4 th4
  have hF5 : Fr [] w w4 := hF3.tr f4
  have rb6 := f4.range r2 .nil
  refine wC (wp_boxL (cs := [.int .i64 gn, gsv, .bool gnl, glv, guv]) (eK g0_4) ?_)
  rintro w7 f7 sz7 r7 th7
  have hF8 : Fr [] w w7 := hF5.tr f7
  have rb9 := f7.range rb6 .nil
  have rb10 := f7.range r4 .nil
  refine wC (wAs (v := .bool false) rfl ?_)
  refine wEn fun a11 ha11 => ?_
  have hz11 := kS ha11 hz0
  have hd11 := kD ha11 hd0
  have g11_0 := kP ha11 g0_0
  have g11_1 := kP ha11 g0_1
  have g11_2 := kP ha11 g0_2
  have g11_3 := kP ha11 g0_3
  have g11_4 := kP ha11 g0_4
  have g11_5 : get a11 5 = .pointer (some ⟨w.heap.size, 0, none⟩) := kG ha11 hz0
  have g11_8 : get a11 8 = .pointer (some ⟨w2.heap.size, 0, none⟩) := kG ha11 hz0
  have g11_9 : get a11 9 = .pointer (some ⟨w4.heap.size, 0, none⟩) := kG ha11 hz0
  have g11_10 : get a11 10 = .bool false := kG ha11 hz0
  have hsz0 : w.heap.size + 3 ≤ w7.heap.size := by omega
  refine hK1 a11 w7 (tUp ?_)
  refine wT fun K12 hK12 => ?_
  refine wC (wp_loadFlat (cs := [.int .i64 fd.kind, .int .i64 fd.fr, .int .i64 fd.to, .int .i64 fd.nul, .int .i64 fd.tag, .int .i64 fd.df, .int .i64 fd.of, fsv]) (b := w.heap.size) (o := 0) hFlT51 rfl (eK g11_5) rb9 ?_)
  refine wC (wMv (v := .int .i64 ver) (eK g11_1) ?_)
  refine wC (wp_loadFlat (cs := [.int .i64 n, sv, .bool nl, lv, uv]) (b := w2.heap.size) (o := 0) hFlT26 rfl (eK g11_8) rb10 ?_)
  refine wC (wCr (R := fun x wz => x = .bool nu ∧ Fr [] w7 wz) (vs := #[.agg ([.int .i64 fd.kind, .int .i64 fd.fr, .int .i64 fd.to, .int .i64 fd.nul, .int .i64 fd.tag, .int .i64 fd.df, .int .i64 fd.of, fsv] : List Value).toArray, .int .i64 ver, .agg ([.int .i64 n, sv, .bool nl, lv, uv] : List Value).toArray]) hNu.enters (mX3 (eS hz11) (eS hz11) (eS hz11)) ((hNu.call w7 A B _ _ fd (.mk n s nl l u) ver (hr.kept hF8 (by simp) (fun _ h => h)) (ht0.kept hF8 (by simp) (fun _ h => h))).mono (by rintro e w' ⟨rfl, hf⟩; exact ⟨_, rfl, by rw [hnu], hf⟩)) ?_)
  rintro x13 w13 ⟨rfl, fr13⟩
  have hF14 : Fr [] w w13 := hF8.tr fr13
  have hL14_w7 : Fr [] w7 w13 := (Fr.refl [] w7).tr fr13
  have rb15 := fr13.range rb9 .nil
  have rb16 := fr13.range rb10 .nil
  have rb17 := fr13.range r7 .nil
  refine wC (wAs (v := .bool nu) (eS hz11) ?_)
  refine wEn fun a18 ha18 => ?_
  have hz18 := kS ha18 hz11
  have hd18 := kD ha18 hd11
  have g18_0 := kP ha18 g11_0
  have g18_1 := kP ha18 g11_1
  have g18_2 := kP ha18 g11_2
  have g18_3 := kP ha18 g11_3
  have g18_4 := kP ha18 g11_4
  have g18_5 := kP ha18 g11_5
  have g18_8 := kP ha18 g11_8
  have g18_9 := kP ha18 g11_9
  have g18_10 := kP ha18 g11_10
  have g18_11 : get a18 11 = .bool nu := kG ha18 hz11
  refine hK12 a18 w13 (tUp ?_)
  refine then_id (wp_seq_k fun K19 hK19 => ?_)
  have hJ20 : ∀ (a' : Act) (w' : World), (a'.tmps.size = 124 ∧ a'.defers = [] ∧ get a' 0 = .agg ([.int .i64 fd.kind, .int .i64 fd.fr, .int .i64 fd.to, .int .i64 fd.nul, .int .i64 fd.tag, .int .i64 fd.df, .int .i64 fd.of, fsv] : List Value).toArray ∧ get a' 1 = .int .i64 ver ∧ get a' 2 = .bool flex ∧ get a' 3 = .agg ([.int .i64 n, sv, .bool nl, lv, uv] : List Value).toArray ∧ get a' 4 = .agg ([.int .i64 gn, gsv, .bool gnl, glv, guv] : List Value).toArray ∧ get a' 5 = .pointer (some ⟨w.heap.size, 0, none⟩) ∧ get a' 8 = .pointer (some ⟨w2.heap.size, 0, none⟩) ∧ get a' 9 = .pointer (some ⟨w4.heap.size, 0, none⟩) ∧ get a' 10 = .bool false ∧ get a' 11 = .bool nu ∧ get a' 12 = .bool may ∧ w'.rangeAt w.heap.size 0 [.int .i64 fd.kind, .int .i64 fd.fr, .int .i64 fd.to, .int .i64 fd.nul, .int .i64 fd.tag, .int .i64 fd.df, .int .i64 fd.of, fsv] ∧ w'.rangeAt w2.heap.size 0 [.int .i64 n, sv, .bool nl, lv, uv] ∧ w'.rangeAt w4.heap.size 0 [.int .i64 gn, gsv, .bool gnl, glv, guv] ∧ Fr [] w w' ∧ w.heap.size + 3 ≤ w'.heap.size) → K19 a' w' := by
    rintro a20 w20 ⟨hz20, hd20, g20_0, g20_1, g20_2, g20_3, g20_4, g20_5, g20_8, g20_9, g20_10, g20_11, g20_12, hx2_0, hx2_1, hx2_2, hfl2, hsz2⟩
    refine hK19 a20 w20 (tUp ?_)
    refine then_id (wp_seq_k fun K21 hK21 => ?_)
    refine wp_seq_k fun K22 hK22 => ?_
    have hJ23 : ∀ (a' : Act) (w' : World), (a'.tmps.size = 124 ∧ a'.defers = [] ∧ get a' 0 = .agg ([.int .i64 fd.kind, .int .i64 fd.fr, .int .i64 fd.to, .int .i64 fd.nul, .int .i64 fd.tag, .int .i64 fd.df, .int .i64 fd.of, fsv] : List Value).toArray ∧ get a' 1 = .int .i64 ver ∧ get a' 2 = .bool flex ∧ get a' 3 = .agg ([.int .i64 n, sv, .bool nl, lv, uv] : List Value).toArray ∧ get a' 4 = .agg ([.int .i64 gn, gsv, .bool gnl, glv, guv] : List Value).toArray ∧ get a' 5 = .pointer (some ⟨w.heap.size, 0, none⟩) ∧ get a' 8 = .pointer (some ⟨w2.heap.size, 0, none⟩) ∧ get a' 9 = .pointer (some ⟨w4.heap.size, 0, none⟩) ∧ get a' 10 = .bool false ∧ get a' 11 = .bool nu ∧ get a' 12 = .bool may ∧ get a' 46 = .bool false ∧ w'.rangeAt w.heap.size 0 [.int .i64 fd.kind, .int .i64 fd.fr, .int .i64 fd.to, .int .i64 fd.nul, .int .i64 fd.tag, .int .i64 fd.df, .int .i64 fd.of, fsv] ∧ w'.rangeAt w2.heap.size 0 [.int .i64 n, sv, .bool nl, lv, uv] ∧ w'.rangeAt w4.heap.size 0 [.int .i64 gn, gsv, .bool gnl, glv, guv] ∧ Fr [] w w' ∧ w.heap.size + 3 ≤ w'.heap.size) → K22 a' w' := by
      rintro a23 w23 ⟨hz23, hd23, g23_0, g23_1, g23_2, g23_3, g23_4, g23_5, g23_8, g23_9, g23_10, g23_11, g23_12, g23_46, hx3_0, hx3_1, hx3_2, hfl3, hsz3⟩
      refine hK22 a23 w23 ?_
      refine wp_cond_split (t := false) (eK g23_46) (fun h => by cases h) (fun _ => ?_)
      refine wp_skip ?_
      refine hK21 a23 w23 (tUp ?_)
      refine then_id (wp_seq_k fun K25 hK25 => ?_)
      refine wS fun K26 hK26 => ?_
      refine wC (wMv (v := .bool nu) (eK g23_11) ?_)
      refine wEn fun a27 ha27 => ?_
      have hz27 := kS ha27 hz23
      have hd27 := kD ha27 hd23
      have g27_5 := kP ha27 g23_5
      have g27_8 := kP ha27 g23_8
      have g27_9 := kP ha27 g23_9
      have g27_47 : get a27 47 = .bool nu := kG ha27 hz23
      refine hK26 a27 w23 ?_
      refine wp_cond_split (t := nu) (eK g27_47) (fun hc28 => ?_) (fun hc28 => ?_)
      · refine wp_seq_k fun K29 hK29 => ?_
        refine wp_reg ?_
        refine wC (wAs (v := .bool true) rfl ?_)
        refine wEn fun a30 ha30 => ?_
        have hz30 := kS ha30 hz27
        have hd30 := kD ha30 hd27
        have g30_10 : get a30 10 = .bool true := kG ha30 hz27
        refine hK29 a30 w23 ?_
        refine wp_ret ?_
        exact ⟨hd30, _, rIs hres g30_10, rfl, hfl3⟩
      · have hnf : nu = false := hc28
        have hV := hRv hnf
        refine wp_skip ?_
        refine hK25 a27 w23 (tUp ?_)
        refine then_id (wp_seq_k fun K31 hK31 => ?_)
        refine wS fun K32 hK32 => ?_
        refine wC (wFa (b := w.heap.size) (i := 0) (hFlT51.fld (by decide)) (eK g27_5) ?_)
        rw [show (0 + 0 : Nat) = 0 from rfl]
        refine wC (wp_load0 (j := 0) (v := .int .i64 fd.kind) hcT3 (eS hz27) hx3_0 rfl ?_)
        refine wEn fun a33 ha33 => ?_
        have hz33 := kS ha33 hz27
        have hd33 := kD ha33 hd27
        have g33_5 := kP ha33 g27_5
        have g33_8 := kP ha33 g27_8
        have g33_9 := kP ha33 g27_9
        have g33_49 : get a33 49 = .int .i64 fd.kind := kG ha33 hz27
        refine hK32 a33 w23 ?_
        refine wp_blockT ?_
        refine wp_seq_k fun K34 hK34 => ?_
        refine wS fun K35 hK35 => ?_
        refine wC (wp_eql (k1 := .i64) (i := fd.kind) (j := 8) (eK g33_49) rfl ?_)
        refine wC (wAs (v := .bool ((fd.kind : Int) == (8 : Int))) (eS hz33) ?_)
        refine wEn fun a36 ha36 => ?_
        have hz36 := kS ha36 hz33
        have hd36 := kD ha36 hd33
        have g36_5 := kP ha36 g33_5
        have g36_8 := kP ha36 g33_8
        have g36_9 := kP ha36 g33_9
        have g36_49 := kP ha36 g33_49
        have g36_50 : get a36 50 = .bool ((fd.kind : Int) == (8 : Int)) := kG ha36 hz33
        refine hK35 a36 w23 ?_
        refine wp_cond_split (t := ((fd.kind : Int) == (8 : Int))) (eK g36_50) (fun hc37 => ?_) (fun hc37 => ?_)
        · have hk8 : fd.kind = 8 := by simpa using hc37
          rw [hc37] at g36_50
          refine wp_skip ?_
          refine hK34 a36 w23 ?_
          refine wp_cond_split (t := true) (eK g36_50) (fun _ => ?_) (fun h => by cases h)
          refine wp_seq_k fun K40 hK40 => ?_
          have hVs : gs = wholeS s := by simpa [TdV, T.s, hk8] using hV
          refine wp_drawR (os := [⟨some 53, .fieldAddr T26 (.tmp 9) 1, t45, p45, e45, none⟩, ⟨some 54, .load T22 (.tmp 53), t46, p46, e46, none⟩, ⟨some 55, .fieldAddr T26 (.tmp 8) 1, t47, p47, e47, none⟩, ⟨some 56, .load T22 (.tmp 55), t48, p48, e48, none⟩, ⟨some 57, .call ⟨.value (.func f27), #[(.tmp 56)], a1⟩, t49, p49, e49, none⟩, ⟨some 58, .call ⟨.value (.func f26), #[(.tmp 54), (.tmp 57)], a2⟩, t50, p50, e50, none⟩]) (rest := [⟨some 10, .assign (.tmp 58), t51, p51, e51, none⟩]) [spC [] (.pointer (some ⟨w4.heap.size, 1, none⟩)), spC [0] (gsv), spC [] (.pointer (some ⟨w2.heap.size, 1, none⟩)), spC [2] (sv), spR [3] (fun x w' => OctE w' B x (wholeS s)), spR [1, 4] (fun x w' => x = .bool true)] 53 [] hmx he108 (by simp [shape]) (by simp [plainO]) (by simp [spC, spR]) (by simp; omega) ⟨lCc _ _ _, lCc _ _ _, lCc _ _ _, lCc _ _ _, (fun v w1 w2 f h => OctE.kept h f (by simp) (fun _ h => h)), (fun v w1 w2 f h => h), trivial⟩ ?_ ?_
          · refine oCs ?_ ?_
            · refine op_c fun a' w' hk' hf' hd' K' hK' => ?_
              refine wFa (b := w4.heap.size) (i := 0) (hFlT26.fld (by decide)) (by rw [eTm, hk'.get 9 (by omega), g36_9]) ?_
              rw [show (0 + 1 : Nat) = 1 from rfl]
              exact hK'
            refine oCs ?_ ?_
            · refine op_c fun a' w' hk' hf' hd' K' hK' => ?_
              refine wp_load0 (j := 1) (v := gsv) hcT22 (by rw [eTm]; exact hd'.c (nd' := []) 0 (by simp) rfl) (hf'.range hx3_2 .nil) rfl ?_
              exact hK'
            refine oCs ?_ ?_
            · refine op_c fun a' w' hk' hf' hd' K' hK' => ?_
              refine wFa (b := w2.heap.size) (i := 0) (hFlT26.fld (by decide)) (by rw [eTm, hk'.get 8 (by omega), g36_8]) ?_
              rw [show (0 + 1 : Nat) = 1 from rfl]
              exact hK'
            refine oCs ?_ ?_
            · refine op_c fun a' w' hk' hf' hd' K' hK' => ?_
              refine wp_load0 (j := 1) (v := sv) hcT22 (by rw [eTm]; exact hd'.c (nd' := []) 2 (by simp) rfl) (hf'.range hx3_1 .nil) rfl ?_
              exact hK'
            refine oCs ?_ ?_
            · refine op_r fun a' w' hk' hf' hd' K' hK' => ?_
              refine wCr (R := fun x wz => OctE wz B x (wholeS s) ∧ w' = wz) (vs := #[sv]) hWh.enters (by simp only [List.map_toArray, List.map_cons, List.map_nil]; rw [show a'.eval (.tmp 56) = sv from (by rw [eTm]; exact hd'.c (nd' := [2]) 3 (by simp) rfl)]) ((hWh.call w' B sv s (hs.kept (hfl3.tr hf') (by simp) (fun _ h => h))).mono (by rintro e wz ⟨x, rfl, h1, rfl⟩; exact ⟨x, rfl, h1, rfl⟩)) ?_
              rintro x41 _ ⟨hx41, rfl⟩
              exact hK' x41 _ hx41 (Fr.refl [] _)
            refine oCs ?_ ?_
            · refine op_r fun a' w' hk' hf' hd' K' hK' => ?_
              have hxo : OctE w' B (get a' 57) (wholeS s) := hd'.at (d := 4) (by simp) rfl
              refine wCr (R := fun x wz => x = .bool true ∧ Fr [] w' wz) (vs := #[gsv, get a' 57]) hSa.enters (by simp only [List.map_toArray, List.map_cons, List.map_nil, eTm]; rw [hd'.c (nd' := [0]) 1 (by simp) rfl]) ((hSa.call w' _ _ _ _ _ (by rw [hVs] at hgs; exact hgs.kept (hfl3.tr hf') (by simp) (fun _ h => h)) hxo).mono (by rintro e wz ⟨rfl, h⟩; exact ⟨_, rfl, rfl, h⟩)) ?_
              rintro _ w42 ⟨rfl, fr42⟩
              exact hK' _ w42 rfl fr42
            exact opsOk_nil
          intro a43 w43 k43 f43 hd_43
          have hz43 : a43.tmps.size = 124 := k43.size.trans hz36
          have hd43 : a43.defers = [] := k43.defers.trans hd36
          have hF44 : Fr [] w w43 := hfl3.tr f43
          have rb45 := f43.range hx3_0 .nil
          have rb46 := f43.range hx3_1 .nil
          have rb47 := f43.range hx3_2 .nil
          have hbt : get a43 58 = .bool true := hd_43.at (d := 5) (by simp) rfl
          refine wC (wAs (v := .bool true) (by rw [eTm, hbt]) ?_)
          refine wEn fun a48 ha48 => ?_
          have hz48 := kS ha48 hz43
          have hd48 := kD ha48 hd43
          have g48_10 : get a48 10 = .bool true := kG ha48 hz43
          refine hK40 a48 w43 ?_
          refine wp_ret ?_
          exact ⟨hd48, _, rIs hres g48_10, rfl, hF44⟩
        · have hn8 : fd.kind ≠ 8 := by simpa using hc37
          refine wp_reg ?_
          refine wC (wp_eql (k1 := .i64) (i := fd.kind) (j := 9) (eK g36_49) rfl ?_)
          refine wC (wAs (v := .bool ((fd.kind : Int) == (9 : Int))) (eS hz36) ?_)
          refine wEn fun a49 ha49 => ?_
          have hz49 := kS ha49 hz36
          have hd49 := kD ha49 hd36
          have g49_5 := kP ha49 g36_5
          have g49_8 := kP ha49 g36_8
          have g49_9 := kP ha49 g36_9
          have g49_49 := kP ha49 g36_49
          have g49_50 : get a49 50 = .bool ((fd.kind : Int) == (9 : Int)) := kG ha49 hz36
          refine hK34 a49 w23 ?_
          refine wp_cond_split (t := ((fd.kind : Int) == (9 : Int))) (eK g49_50) (fun hc50 => ?_) (fun hc50 => ?_)
          · have hk9 : fd.kind = 9 := by simpa using hc50
            refine wp_seq_k fun K51 hK51 => ?_
            have hVs : gs = wholeS s := by simpa [TdV, T.s, hn8, hk9] using hV
            refine wp_drawR (os := [⟨some 53, .fieldAddr T26 (.tmp 9) 1, t45, p45, e45, none⟩, ⟨some 54, .load T22 (.tmp 53), t46, p46, e46, none⟩, ⟨some 55, .fieldAddr T26 (.tmp 8) 1, t47, p47, e47, none⟩, ⟨some 56, .load T22 (.tmp 55), t48, p48, e48, none⟩, ⟨some 57, .call ⟨.value (.func f27), #[(.tmp 56)], a1⟩, t49, p49, e49, none⟩, ⟨some 58, .call ⟨.value (.func f26), #[(.tmp 54), (.tmp 57)], a2⟩, t50, p50, e50, none⟩]) (rest := [⟨some 10, .assign (.tmp 58), t51, p51, e51, none⟩]) [spC [] (.pointer (some ⟨w4.heap.size, 1, none⟩)), spC [0] (gsv), spC [] (.pointer (some ⟨w2.heap.size, 1, none⟩)), spC [2] (sv), spR [3] (fun x w' => OctE w' B x (wholeS s)), spR [1, 4] (fun x w' => x = .bool true)] 53 [] hmx he109 (by simp [shape]) (by simp [plainO]) (by simp [spC, spR]) (by simp; omega) ⟨lCc _ _ _, lCc _ _ _, lCc _ _ _, lCc _ _ _, (fun v w1 w2 f h => OctE.kept h f (by simp) (fun _ h => h)), (fun v w1 w2 f h => h), trivial⟩ ?_ ?_
            · refine oCs ?_ ?_
              · refine op_c fun a' w' hk' hf' hd' K' hK' => ?_
                refine wFa (b := w4.heap.size) (i := 0) (hFlT26.fld (by decide)) (by rw [eTm, hk'.get 9 (by omega), g49_9]) ?_
                rw [show (0 + 1 : Nat) = 1 from rfl]
                exact hK'
              refine oCs ?_ ?_
              · refine op_c fun a' w' hk' hf' hd' K' hK' => ?_
                refine wp_load0 (j := 1) (v := gsv) hcT22 (by rw [eTm]; exact hd'.c (nd' := []) 0 (by simp) rfl) (hf'.range hx3_2 .nil) rfl ?_
                exact hK'
              refine oCs ?_ ?_
              · refine op_c fun a' w' hk' hf' hd' K' hK' => ?_
                refine wFa (b := w2.heap.size) (i := 0) (hFlT26.fld (by decide)) (by rw [eTm, hk'.get 8 (by omega), g49_8]) ?_
                rw [show (0 + 1 : Nat) = 1 from rfl]
                exact hK'
              refine oCs ?_ ?_
              · refine op_c fun a' w' hk' hf' hd' K' hK' => ?_
                refine wp_load0 (j := 1) (v := sv) hcT22 (by rw [eTm]; exact hd'.c (nd' := []) 2 (by simp) rfl) (hf'.range hx3_1 .nil) rfl ?_
                exact hK'
              refine oCs ?_ ?_
              · refine op_r fun a' w' hk' hf' hd' K' hK' => ?_
                refine wCr (R := fun x wz => OctE wz B x (wholeS s) ∧ w' = wz) (vs := #[sv]) hWh.enters (by simp only [List.map_toArray, List.map_cons, List.map_nil]; rw [show a'.eval (.tmp 56) = sv from (by rw [eTm]; exact hd'.c (nd' := [2]) 3 (by simp) rfl)]) ((hWh.call w' B sv s (hs.kept (hfl3.tr hf') (by simp) (fun _ h => h))).mono (by rintro e wz ⟨x, rfl, h1, rfl⟩; exact ⟨x, rfl, h1, rfl⟩)) ?_
                rintro x52 _ ⟨hx52, rfl⟩
                exact hK' x52 _ hx52 (Fr.refl [] _)
              refine oCs ?_ ?_
              · refine op_r fun a' w' hk' hf' hd' K' hK' => ?_
                have hxo : OctE w' B (get a' 57) (wholeS s) := hd'.at (d := 4) (by simp) rfl
                refine wCr (R := fun x wz => x = .bool true ∧ Fr [] w' wz) (vs := #[gsv, get a' 57]) hSa.enters (by simp only [List.map_toArray, List.map_cons, List.map_nil, eTm]; rw [hd'.c (nd' := [0]) 1 (by simp) rfl]) ((hSa.call w' _ _ _ _ _ (by rw [hVs] at hgs; exact hgs.kept (hfl3.tr hf') (by simp) (fun _ h => h)) hxo).mono (by rintro e wz ⟨rfl, h⟩; exact ⟨_, rfl, rfl, h⟩)) ?_
                rintro _ w53 ⟨rfl, fr53⟩
                exact hK' _ w53 rfl fr53
              exact opsOk_nil
            intro a54 w54 k54 f54 hd_54
            have hz54 : a54.tmps.size = 124 := k54.size.trans hz49
            have hd54 : a54.defers = [] := k54.defers.trans hd49
            have hF55 : Fr [] w w54 := hfl3.tr f54
            have rb56 := f54.range hx3_0 .nil
            have rb57 := f54.range hx3_1 .nil
            have rb58 := f54.range hx3_2 .nil
            have hbt : get a54 58 = .bool true := hd_54.at (d := 5) (by simp) rfl
            refine wC (wAs (v := .bool true) (by rw [eTm, hbt]) ?_)
            refine wEn fun a59 ha59 => ?_
            have hz59 := kS ha59 hz54
            have hd59 := kD ha59 hd54
            have g59_10 : get a59 10 = .bool true := kG ha59 hz54
            refine hK51 a59 w54 ?_
            refine wp_ret ?_
            exact ⟨hd59, _, rIs hres g59_10, rfl, hF55⟩
          · have hn9 : fd.kind ≠ 9 := by simpa using hc50
            refine wS fun K60 hK60 => ?_
            refine wC (wp_eql (k1 := .i64) (i := fd.kind) (j := 7) (eK g49_49) rfl ?_)
            refine wC (wAs (v := .bool ((fd.kind : Int) == (7 : Int))) (eS hz49) ?_)
            refine wEn fun a61 ha61 => ?_
            have hz61 := kS ha61 hz49
            have hd61 := kD ha61 hd49
            have g61_5 := kP ha61 g49_5
            have g61_8 := kP ha61 g49_8
            have g61_9 := kP ha61 g49_9
            have g61_49 := kP ha61 g49_49
            have g61_59 : get a61 59 = .bool ((fd.kind : Int) == (7 : Int)) := kG ha61 hz49
            refine hK60 a61 w23 ?_
            refine wp_cond_split (t := ((fd.kind : Int) == (7 : Int))) (eK g61_59) (fun hc62 => ?_) (fun hc62 => ?_)
            · have hk7 : fd.kind = 7 := by simpa using hc62
              refine wp_seq_k fun K63 hK63 => ?_
              have hszq : w.heap.size + 3 ≤ w23.heap.size := Nat.le_trans hsz3 (Fr.refl [] w23).size
              have hFq : Fr [] w w23 := hfl3
              refine wp_reg ?_
              refine wC (wp_make (n := 16) hs_T22 hz_T22 (by decide) (by decide) ?_)
              have fr64 := Fr.alloc [] w23 (.cells (madeCells ([.int .u8 0] : List Value).toArray (16 * 1)) te)
              have rg64 : (w23.alloc (.cells (madeCells ([.int .u8 0] : List Value).toArray (16 * 1)) te)).rangeAt w23.heap.size 0 (octets (List.replicate 16 0)) := by rw [made16]; simpa using range_new w23 (octets (List.replicate 16 0)).toArray te (0, 0)
              have th64 : (w23.alloc (.cells (madeCells ([.int .u8 0] : List Value).toArray (16 * 1)) te)).there w23.heap.size 0 16 := by rw [made16]; simpa [lOc] using there_new w23 (octets (List.replicate 16 0)).toArray te
              have sz64 := size_alloc w23 (.cells (madeCells ([.int .u8 0] : List Value).toArray (16 * 1)) te)
              generalize w23.alloc (.cells (madeCells ([.int .u8 0] : List Value).toArray (16 * 1)) te) = w64 at fr64 rg64 th64 sz64 ⊢
              have hF65 : Fr [] w w64 := hFq.tr fr64
              have rb66 := fr64.range hx3_0 .nil
              have rb67 := fr64.range hx3_1 .nil
              have rb68 := fr64.range hx3_2 .nil
              refine wC (wAs (v := .slice (some ⟨w23.heap.size, 0, none⟩) 16 16) (eS hz61) ?_)
              refine wEn fun a69 ha69 => ?_
              have hz69 := kS ha69 hz61
              have hd69 := kD ha69 hd61
              have g69_8 := kP ha69 g61_8
              have g69_9 := kP ha69 g61_9
              have g69_13 : get a69 13 = .slice (some ⟨w23.heap.size, 0, none⟩) 16 16 := kG ha69 hz61
              refine hK63 a69 w64 ?_
              refine wS fun K70 hK70 => ?_
              refine wC (wMv (v := .slice (some ⟨w23.heap.size, 0, none⟩) 16 16) (eK g69_13) ?_)
              refine wC (wFa (b := w2.heap.size) (i := 0) (hFlT26.fld (by decide)) (eK g69_8) ?_)
              rw [show (0 + 1 : Nat) = 1 from rfl]
              refine wC (wp_load0 (j := 1) (v := sv) hcT22 (eS hz69) rb67 rfl ?_)
              refine wC (wp_copyU (xs := s) (b := w23.heap.size) hs_T22 (eS hz69) (eS hz69) (hs.kept hF65 (by simp) (fun _ h => h)) rg64 th64 ?_)
              rintro w71 u71 f71 r71
              have hF71 : Fr [] w w71 := hF65.trans f71 (fun r hr => .inl (by simp at hr; subst hr; exact hFq.size))
              have rb72 := f71.range rb66 (.cons (.inl (by simp only; have := hszq; omega)) .nil)
              have rb73 := f71.range rb67 (.cons (.inl (by simp only; have := hszq; omega)) .nil)
              have rb74 := f71.range rb68 (.cons (.inl (by simp only; have := hszq; omega)) .nil)
              refine wEn fun a75 ha75 => ?_
              have hz75 := kS ha75 hz69
              have hd75 := kD ha75 hd69
              have g75_9 := kP ha75 g69_9
              have g75_13 := kP ha75 g69_13
              refine hK70 a75 w71 ?_
              refine wS fun K76 hK76 => ?_
              refine wC (wFa (b := w4.heap.size) (i := 0) (hFlT26.fld (by decide)) (eK g75_9) ?_)
              rw [show (0 + 1 : Nat) = 1 from rfl]
              refine wC (wp_load0 (j := 1) (v := gsv) hcT22 (eS hz75) rb74 rfl ?_)
              refine wC (wMv (v := .slice (some ⟨w23.heap.size, 0, none⟩) 16 16) (eK g75_13) ?_)
              rw [wCo]
              have ho16 : OctE w71 (fun b => b = w23.heap.size) (.slice (some ⟨w23.heap.size, 0, none⟩) 16 16) (uuidW s) := .inl ⟨some (uuidW s), .inr ⟨w23.heap.size, 0, 16, uuidW s, rfl, by rw [uuidW_length], ⟨by rw [uuidW_length]; exact Nat.le_refl _, by rw [uuidW_length]; decide⟩, r71, rfl⟩, rfl⟩
              have hVs : gs = uuidW s := by simpa [TdV, T.s, hn8, hn9, hk7] using hV
              refine wCr (R := fun x wz => x = .bool true ∧ Fr [] w71 wz) (vs := #[gsv, .slice (some ⟨w23.heap.size, 0, none⟩) 16 16]) hSa.enters (mX2 (eS hz75) (eS hz75)) ((hSa.call w71 _ _ _ _ _ (by rw [hVs] at hgs; exact hgs.kept hF71 (by simp) (fun _ h => h)) ho16).mono (by rintro e wz ⟨rfl, h⟩; exact ⟨_, rfl, rfl, h⟩)) ?_
              rintro _ w77 ⟨rfl, fr77⟩
              have hF78 : Fr [] w w77 := hF71.tr fr77
              have rb79 := fr77.range rb72 .nil
              have rb80 := fr77.range rb73 .nil
              have rb81 := fr77.range rb74 .nil
              refine wC (wAs (v := .bool true) (eS hz75) ?_)
              refine wEn fun a82 ha82 => ?_
              have hz82 := kS ha82 hz75
              have hd82 := kD ha82 hd75
              have g82_10 : get a82 10 = .bool true := kG ha82 hz75
              refine hK76 a82 w77 ?_
              refine wp_ret ?_
              exact ⟨hd82, _, rIs hres g82_10, rfl, hF78⟩
            · have hn7 : fd.kind ≠ 7 := by simpa using hc62
              refine wS fun K83 hK83 => ?_
              refine wC (wp_eql (k1 := .i64) (i := fd.kind) (j := 10) (eK g61_49) rfl ?_)
              refine wC (wAs (v := .bool ((fd.kind : Int) == (10 : Int))) (eS hz61) ?_)
              refine wEn fun a84 ha84 => ?_
              have hz84 := kS ha84 hz61
              have hd84 := kD ha84 hd61
              have g84_5 := kP ha84 g61_5
              have g84_8 := kP ha84 g61_8
              have g84_9 := kP ha84 g61_9
              have g84_49 := kP ha84 g61_49
              have g84_70 : get a84 70 = .bool ((fd.kind : Int) == (10 : Int)) := kG ha84 hz61
              refine hK83 a84 w23 ?_
              refine wp_cond_split (t := ((fd.kind : Int) == (10 : Int))) (eK g84_70) (fun hc85 => ?_) (fun hc85 => ?_)
              · exact absurd (by simpa using hc85) hK10
              · refine wp_seq_k fun K86 hK86 => ?_
                refine wp_reg ?_
                refine wC (wp_eql (k1 := .i64) (i := fd.kind) (j := 11) (eK g84_49) rfl ?_)
                refine wC (wAs (v := .bool ((fd.kind : Int) == (11 : Int))) (eS hz84) ?_)
                refine wEn fun a87 ha87 => ?_
                have hz87 := kS ha87 hz84
                have hd87 := kD ha87 hd84
                have g87_5 := kP ha87 g84_5
                have g87_8 := kP ha87 g84_8
                have g87_9 := kP ha87 g84_9
                have g87_79 : get a87 79 = .bool ((fd.kind : Int) == (11 : Int)) := kG ha87 hz84
                refine hK86 a87 w23 ?_
                refine wp_cond_split (t := ((fd.kind : Int) == (11 : Int))) (eK g87_79) (fun hc88 => ?_) (fun hc88 => ?_)
                · exact absurd (by simpa using hc88) hK11
                · refine wp_skip ?_
                  refine hK31 a87 w23 (tUp ?_)
                  refine then_id (wp_seq_k fun K89 hK89 => ?_)
                  have hVn : gn = numW fd.kind n := by simpa [TdV, T.n, hn8, hn9, hn7, hK10] using hV
                  refine wp_drawR (os := [⟨some 116, .fieldAddr T26 (.tmp 9) 0, t123, p123, e123, none⟩, ⟨some 117, .load T2 (.tmp 116), t124, p124, e124, none⟩, ⟨some 118, .fieldAddr T51 (.tmp 5) 0, t125, p125, e125, none⟩, ⟨some 119, .load T3 (.tmp 118), t126, p126, e126, none⟩, ⟨some 120, .fieldAddr T26 (.tmp 8) 0, t127, p127, e127, none⟩, ⟨some 121, .load T2 (.tmp 120), t128, p128, e128, none⟩, ⟨some 122, .call ⟨.value (.func f41), #[(.tmp 119), (.tmp 121)], a7⟩, t129, p129, e129, none⟩, ⟨some 123, .binOp .eql T2 (.tmp 117) (.tmp 122) T2, t130, p130, e130, none⟩]) (rest := [⟨some 10, .assign (.tmp 123), t131, p131, e131, none⟩]) [spC [] (.pointer (some ⟨w4.heap.size, 0, none⟩)), spC [0] (.int .i64 gn), spC [] (.pointer (some ⟨w.heap.size, 0, none⟩)), spC [2] (.int .i64 fd.kind), spC [] (.pointer (some ⟨w2.heap.size, 0, none⟩)), spC [4] (.int .i64 n), spC [3, 5] (.int .i64 (numW fd.kind n)), spC [1, 6] (.bool true)] 116 [] hmx he30 (by simp [shape]) (by simp [plainO]) (by simp [spC, spR]) (by simp; omega) ⟨lCc _ _ _, lCc _ _ _, lCc _ _ _, lCc _ _ _, lCc _ _ _, lCc _ _ _, lCc _ _ _, lCc _ _ _, trivial⟩ ?_ ?_
                  · refine oCs ?_ ?_
                    · refine op_c fun a' w' hk' hf' hd' K' hK' => ?_
                      refine wFa (b := w4.heap.size) (i := 0) (hFlT26.fld (by decide)) (by rw [eTm, hk'.get 9 (by omega), g87_9]) ?_
                      rw [show (0 + 0 : Nat) = 0 from rfl]
                      exact hK'
                    refine oCs ?_ ?_
                    · refine op_c fun a' w' hk' hf' hd' K' hK' => ?_
                      refine wp_load0 (j := 0) (v := .int .i64 gn) hcT2 (by rw [eTm]; exact hd'.c (nd' := []) 0 (by simp) rfl) (hf'.range hx3_2 .nil) rfl ?_
                      exact hK'
                    refine oCs ?_ ?_
                    · refine op_c fun a' w' hk' hf' hd' K' hK' => ?_
                      refine wFa (b := w.heap.size) (i := 0) (hFlT51.fld (by decide)) (by rw [eTm, hk'.get 5 (by omega), g87_5]) ?_
                      rw [show (0 + 0 : Nat) = 0 from rfl]
                      exact hK'
                    refine oCs ?_ ?_
                    · refine op_c fun a' w' hk' hf' hd' K' hK' => ?_
                      refine wp_load0 (j := 0) (v := .int .i64 fd.kind) hcT3 (by rw [eTm]; exact hd'.c (nd' := []) 2 (by simp) rfl) (hf'.range hx3_0 .nil) rfl ?_
                      exact hK'
                    refine oCs ?_ ?_
                    · refine op_c fun a' w' hk' hf' hd' K' hK' => ?_
                      refine wFa (b := w2.heap.size) (i := 0) (hFlT26.fld (by decide)) (by rw [eTm, hk'.get 8 (by omega), g87_8]) ?_
                      rw [show (0 + 0 : Nat) = 0 from rfl]
                      exact hK'
                    refine oCs ?_ ?_
                    · refine op_c fun a' w' hk' hf' hd' K' hK' => ?_
                      refine wp_load0 (j := 0) (v := .int .i64 n) hcT2 (by rw [eTm]; exact hd'.c (nd' := []) 4 (by simp) rfl) (hf'.range hx3_1 .nil) rfl ?_
                      exact hK'
                    refine oCs ?_ ?_
                    · refine op_c fun a' w' hk' hf' hd' K' hK' => ?_
                      refine wCr (R := fun x wz => x = .int .i64 (numW fd.kind n) ∧ wz = w') (vs := #[.int .i64 fd.kind, .int .i64 n]) hNum.enters (by simp only [List.map_toArray, List.map_cons, List.map_nil]; rw [show a'.eval (.tmp 119) = Value.int .i64 fd.kind from (by rw [eTm]; exact hd'.c (nd' := [2]) 3 (by simp) rfl), show a'.eval (.tmp 121) = Value.int .i64 n from (by rw [eTm]; exact hd'.c (nd' := [4]) 5 (by simp) rfl)]) ((hNum.call w' fd.kind n).mono (by rintro e wz ⟨rfl, rfl⟩; exact ⟨_, rfl, rfl, rfl⟩)) ?_
                      rintro _ _ ⟨rfl, rfl⟩
                      exact hK'
                    refine oCs ?_ ?_
                    · refine op_c fun a' w' hk' hf' hd' K' hK' => ?_
                      refine wp_eqlT (k1 := .i64) (i := gn) (j := numW fd.kind n) (by exact hVn) (by rw [eTm]; exact hd'.c (nd' := [0]) 1 (by simp) rfl) (by rw [eTm]; exact hd'.c (nd' := [3, 5]) 6 (by simp) rfl) ?_
                      exact hK'
                    exact opsOk_nil
                  intro a90 w90 k90 f90 hd_90
                  have hz90 : a90.tmps.size = 124 := k90.size.trans hz87
                  have hd90 : a90.defers = [] := k90.defers.trans hd87
                  have g90_123 : get a90 123 = .bool true := hd_90.c (nd' := [1, 6]) 7 (by simp) rfl
                  have hF91 : Fr [] w w90 := hfl3.tr f90
                  have rb92 := f90.range hx3_0 .nil
                  have rb93 := f90.range hx3_1 .nil
                  have rb94 := f90.range hx3_2 .nil
                  refine wC (wAs (v := .bool true) (eK g90_123) ?_)
                  refine wEn fun a95 ha95 => ?_
                  have hz95 := kS ha95 hz90
                  have hd95 := kD ha95 hd90
                  have g95_10 : get a95 10 = .bool true := kG ha95 hz90
                  refine hK89 a95 w90 (tUp ?_)
                  refine wp_ret ?_
                  exact ⟨hd95, _, rIs hres g95_10, rfl, hF91⟩
    by_cases h8 : fd.kind = 8
    · have hgn2 : gnl = nu := hRn (.inl h8)
      refine wp_regG ?_
      refine wg_cons ?_
      refine wFa (b := w.heap.size) (i := 0) (hFlT51.fld (by decide)) (eK g20_5) ?_
      rw [show (0 + 0 : Nat) = 0 from rfl]
      refine wg_cons ?_
      refine wp_load0 (j := 0) (v := .int .i64 fd.kind) hcT3 (eS hz20) hx2_0 rfl ?_
      refine wg_cons ?_
      refine wp_eqlT (k1 := .i64) (i := fd.kind) (j := 8) (by exact h8) (eS hz20) rfl ?_
      refine wg_cons ?_
      refine wMv (v := .bool true) (eS hz20) ?_
      refine wg_noF (dj := 33) rfl (lZ hz20) (gS hz20) ?_
      refine wg_noF (dj := 33) rfl (lZ hz20) (gS hz20) ?_
      refine wg_noF (dj := 33) rfl (lZ hz20) (gS hz20) ?_
      refine wg_cons ?_
      refine wp_pickYes (v := .bool true) (eS hz20) rfl ?_
      refine wg_cons ?_
      refine wMv (v := .bool true) (eS hz20) ?_
      refine wg_noF (dj := 38) rfl (lZ hz20) (gS hz20) ?_
      refine wg_cons ?_
      refine wp_pickYes (v := .bool true) (eS hz20) rfl ?_
      refine wg_cons ?_
      refine wMv (v := .bool true) (eS hz20) ?_
      refine wg_yes (dj := 41) rfl (lZ hz20) (gS hz20) ?_
      refine wFa (b := w4.heap.size) (i := 0) (hFlT26.fld (by decide)) (eK g20_9) ?_
      rw [show (0 + 2 : Nat) = 2 from rfl]
      refine wg_yes (dj := 41) rfl (lZ hz20) (gS hz20) ?_
      refine wp_load0 (j := 2) (v := .bool gnl) hcT4 (eS hz20) hx2_2 rfl ?_
      refine wg_yes (dj := 41) rfl (lZ hz20) (gS hz20) ?_
      refine wMv (v := .bool nu) (eK g20_11) ?_
      refine wg_yes (dj := 41) rfl (lZ hz20) (gS hz20) ?_
      refine wp_neqBool (i := gnl) (j := nu) hbT (eS hz20) (eS hz20) ?_
      rw [show (!(gnl == nu)) = false from by rw [hgn2]; simp]
      refine wg_cons ?_
      refine wp_pickYes (v := .bool false) (eS hz20) (eS hz20) ?_
      refine wg_end fun a96 ha96 => ?_
      have hz96 := kS ha96 hz20
      have hd96 := kD ha96 hd20
      have g96_0 := kP ha96 g20_0
      have g96_1 := kP ha96 g20_1
      have g96_2 := kP ha96 g20_2
      have g96_3 := kP ha96 g20_3
      have g96_4 := kP ha96 g20_4
      have g96_5 := kP ha96 g20_5
      have g96_8 := kP ha96 g20_8
      have g96_9 := kP ha96 g20_9
      have g96_10 := kP ha96 g20_10
      have g96_11 := kP ha96 g20_11
      have g96_12 := kP ha96 g20_12
      have g96_46 : get a96 46 = .bool false := kG ha96 hz20
      exact hJ23 a96 w20 ⟨hz96, hd96, g96_0, g96_1, g96_2, g96_3, g96_4, g96_5, g96_8, g96_9, g96_10, g96_11, g96_12, g96_46, hx2_0, hx2_1, hx2_2, hfl2, Nat.le_trans hsz2 (Fr.refl [] w20).size⟩
    · by_cases h10 : fd.kind = 10
      · have hgn2 : gnl = nu := hRn (.inr (.inl h10))
        refine wp_regG ?_
        refine wg_cons ?_
        refine wFa (b := w.heap.size) (i := 0) (hFlT51.fld (by decide)) (eK g20_5) ?_
        rw [show (0 + 0 : Nat) = 0 from rfl]
        refine wg_cons ?_
        refine wp_load0 (j := 0) (v := .int .i64 fd.kind) hcT3 (eS hz20) hx2_0 rfl ?_
        refine wg_cons ?_
        refine wp_eqlF (k1 := .i64) (i := fd.kind) (j := 8) (by exact h8) (eS hz20) rfl ?_
        refine wg_cons ?_
        refine wMv (v := .bool false) (eS hz20) ?_
        refine wg_yes (dj := 33) rfl (lZ hz20) (gS hz20) ?_
        refine wFa (b := w.heap.size) (i := 0) (hFlT51.fld (by decide)) (eK g20_5) ?_
        rw [show (0 + 0 : Nat) = 0 from rfl]
        refine wg_yes (dj := 33) rfl (lZ hz20) (gS hz20) ?_
        refine wp_load0 (j := 0) (v := .int .i64 fd.kind) hcT3 (eS hz20) hx2_0 rfl ?_
        refine wg_yes (dj := 33) rfl (lZ hz20) (gS hz20) ?_
        refine wp_eqlT (k1 := .i64) (i := fd.kind) (j := 10) (by exact h10) (eS hz20) rfl ?_
        refine wg_cons ?_
        refine wp_pickNo (v := .bool true) (eS hz20) (eS hz20) ?_
        refine wg_cons ?_
        refine wMv (v := .bool true) (eS hz20) ?_
        refine wg_noF (dj := 38) rfl (lZ hz20) (gS hz20) ?_
        refine wg_cons ?_
        refine wp_pickYes (v := .bool true) (eS hz20) rfl ?_
        refine wg_cons ?_
        refine wMv (v := .bool true) (eS hz20) ?_
        refine wg_yes (dj := 41) rfl (lZ hz20) (gS hz20) ?_
        refine wFa (b := w4.heap.size) (i := 0) (hFlT26.fld (by decide)) (eK g20_9) ?_
        rw [show (0 + 2 : Nat) = 2 from rfl]
        refine wg_yes (dj := 41) rfl (lZ hz20) (gS hz20) ?_
        refine wp_load0 (j := 2) (v := .bool gnl) hcT4 (eS hz20) hx2_2 rfl ?_
        refine wg_yes (dj := 41) rfl (lZ hz20) (gS hz20) ?_
        refine wMv (v := .bool nu) (eK g20_11) ?_
        refine wg_yes (dj := 41) rfl (lZ hz20) (gS hz20) ?_
        refine wp_neqBool (i := gnl) (j := nu) hbT (eS hz20) (eS hz20) ?_
        rw [show (!(gnl == nu)) = false from by rw [hgn2]; simp]
        refine wg_cons ?_
        refine wp_pickYes (v := .bool false) (eS hz20) (eS hz20) ?_
        refine wg_end fun a97 ha97 => ?_
        have hz97 := kS ha97 hz20
        have hd97 := kD ha97 hd20
        have g97_0 := kP ha97 g20_0
        have g97_1 := kP ha97 g20_1
        have g97_2 := kP ha97 g20_2
        have g97_3 := kP ha97 g20_3
        have g97_4 := kP ha97 g20_4
        have g97_5 := kP ha97 g20_5
        have g97_8 := kP ha97 g20_8
        have g97_9 := kP ha97 g20_9
        have g97_10 := kP ha97 g20_10
        have g97_11 := kP ha97 g20_11
        have g97_12 := kP ha97 g20_12
        have g97_46 : get a97 46 = .bool false := kG ha97 hz20
        exact hJ23 a97 w20 ⟨hz97, hd97, g97_0, g97_1, g97_2, g97_3, g97_4, g97_5, g97_8, g97_9, g97_10, g97_11, g97_12, g97_46, hx2_0, hx2_1, hx2_2, hfl2, Nat.le_trans hsz2 (Fr.refl [] w20).size⟩
      · cases may with
        | true =>
          have hgn2 : gnl = nu := hRn (.inr (.inr rfl))
          refine wp_regG ?_
          refine wg_cons ?_
          refine wFa (b := w.heap.size) (i := 0) (hFlT51.fld (by decide)) (eK g20_5) ?_
          rw [show (0 + 0 : Nat) = 0 from rfl]
          refine wg_cons ?_
          refine wp_load0 (j := 0) (v := .int .i64 fd.kind) hcT3 (eS hz20) hx2_0 rfl ?_
          refine wg_cons ?_
          refine wp_eqlF (k1 := .i64) (i := fd.kind) (j := 8) (by exact h8) (eS hz20) rfl ?_
          refine wg_cons ?_
          refine wMv (v := .bool false) (eS hz20) ?_
          refine wg_yes (dj := 33) rfl (lZ hz20) (gS hz20) ?_
          refine wFa (b := w.heap.size) (i := 0) (hFlT51.fld (by decide)) (eK g20_5) ?_
          rw [show (0 + 0 : Nat) = 0 from rfl]
          refine wg_yes (dj := 33) rfl (lZ hz20) (gS hz20) ?_
          refine wp_load0 (j := 0) (v := .int .i64 fd.kind) hcT3 (eS hz20) hx2_0 rfl ?_
          refine wg_yes (dj := 33) rfl (lZ hz20) (gS hz20) ?_
          refine wp_eqlF (k1 := .i64) (i := fd.kind) (j := 10) (by exact h10) (eS hz20) rfl ?_
          refine wg_cons ?_
          refine wp_pickNo (v := .bool false) (eS hz20) (eS hz20) ?_
          refine wg_cons ?_
          refine wMv (v := .bool false) (eS hz20) ?_
          refine wg_yes (dj := 38) rfl (lZ hz20) (gS hz20) ?_
          refine wMv (v := .bool true) (eK g20_12) ?_
          refine wg_cons ?_
          refine wp_pickNo (v := .bool true) (eS hz20) (eS hz20) ?_
          refine wg_cons ?_
          refine wMv (v := .bool true) (eS hz20) ?_
          refine wg_yes (dj := 41) rfl (lZ hz20) (gS hz20) ?_
          refine wFa (b := w4.heap.size) (i := 0) (hFlT26.fld (by decide)) (eK g20_9) ?_
          rw [show (0 + 2 : Nat) = 2 from rfl]
          refine wg_yes (dj := 41) rfl (lZ hz20) (gS hz20) ?_
          refine wp_load0 (j := 2) (v := .bool gnl) hcT4 (eS hz20) hx2_2 rfl ?_
          refine wg_yes (dj := 41) rfl (lZ hz20) (gS hz20) ?_
          refine wMv (v := .bool nu) (eK g20_11) ?_
          refine wg_yes (dj := 41) rfl (lZ hz20) (gS hz20) ?_
          refine wp_neqBool (i := gnl) (j := nu) hbT (eS hz20) (eS hz20) ?_
          rw [show (!(gnl == nu)) = false from by rw [hgn2]; simp]
          refine wg_cons ?_
          refine wp_pickYes (v := .bool false) (eS hz20) (eS hz20) ?_
          refine wg_end fun a98 ha98 => ?_
          have hz98 := kS ha98 hz20
          have hd98 := kD ha98 hd20
          have g98_0 := kP ha98 g20_0
          have g98_1 := kP ha98 g20_1
          have g98_2 := kP ha98 g20_2
          have g98_3 := kP ha98 g20_3
          have g98_4 := kP ha98 g20_4
          have g98_5 := kP ha98 g20_5
          have g98_8 := kP ha98 g20_8
          have g98_9 := kP ha98 g20_9
          have g98_10 := kP ha98 g20_10
          have g98_11 := kP ha98 g20_11
          have g98_12 := kP ha98 g20_12
          have g98_46 : get a98 46 = .bool false := kG ha98 hz20
          exact hJ23 a98 w20 ⟨hz98, hd98, g98_0, g98_1, g98_2, g98_3, g98_4, g98_5, g98_8, g98_9, g98_10, g98_11, g98_12, g98_46, hx2_0, hx2_1, hx2_2, hfl2, Nat.le_trans hsz2 (Fr.refl [] w20).size⟩
        | false =>
          refine wp_regG ?_
          refine wg_cons ?_
          refine wFa (b := w.heap.size) (i := 0) (hFlT51.fld (by decide)) (eK g20_5) ?_
          rw [show (0 + 0 : Nat) = 0 from rfl]
          refine wg_cons ?_
          refine wp_load0 (j := 0) (v := .int .i64 fd.kind) hcT3 (eS hz20) hx2_0 rfl ?_
          refine wg_cons ?_
          refine wp_eqlF (k1 := .i64) (i := fd.kind) (j := 8) (by exact h8) (eS hz20) rfl ?_
          refine wg_cons ?_
          refine wMv (v := .bool false) (eS hz20) ?_
          refine wg_yes (dj := 33) rfl (lZ hz20) (gS hz20) ?_
          refine wFa (b := w.heap.size) (i := 0) (hFlT51.fld (by decide)) (eK g20_5) ?_
          rw [show (0 + 0 : Nat) = 0 from rfl]
          refine wg_yes (dj := 33) rfl (lZ hz20) (gS hz20) ?_
          refine wp_load0 (j := 0) (v := .int .i64 fd.kind) hcT3 (eS hz20) hx2_0 rfl ?_
          refine wg_yes (dj := 33) rfl (lZ hz20) (gS hz20) ?_
          refine wp_eqlF (k1 := .i64) (i := fd.kind) (j := 10) (by exact h10) (eS hz20) rfl ?_
          refine wg_cons ?_
          refine wp_pickNo (v := .bool false) (eS hz20) (eS hz20) ?_
          refine wg_cons ?_
          refine wMv (v := .bool false) (eS hz20) ?_
          refine wg_yes (dj := 38) rfl (lZ hz20) (gS hz20) ?_
          refine wMv (v := .bool false) (eK g20_12) ?_
          refine wg_cons ?_
          refine wp_pickNo (v := .bool false) (eS hz20) (eS hz20) ?_
          refine wg_cons ?_
          refine wMv (v := .bool false) (eS hz20) ?_
          refine wg_noT (dj := 41) rfl (lZ hz20) (gS hz20) ?_
          refine wg_noT (dj := 41) rfl (lZ hz20) (gS hz20) ?_
          refine wg_noT (dj := 41) rfl (lZ hz20) (gS hz20) ?_
          refine wg_noT (dj := 41) rfl (lZ hz20) (gS hz20) ?_
          refine wg_cons ?_
          refine wp_pickNo (v := .bool false) (eS hz20) rfl ?_
          refine wg_end fun a99 ha99 => ?_
          have hz99 := kS ha99 hz20
          have hd99 := kD ha99 hd20
          have g99_0 := kP ha99 g20_0
          have g99_1 := kP ha99 g20_1
          have g99_2 := kP ha99 g20_2
          have g99_3 := kP ha99 g20_3
          have g99_4 := kP ha99 g20_4
          have g99_5 := kP ha99 g20_5
          have g99_8 := kP ha99 g20_8
          have g99_9 := kP ha99 g20_9
          have g99_10 := kP ha99 g20_10
          have g99_11 := kP ha99 g20_11
          have g99_12 := kP ha99 g20_12
          have g99_46 : get a99 46 = .bool false := kG ha99 hz20
          exact hJ23 a99 w20 ⟨hz99, hd99, g99_0, g99_1, g99_2, g99_3, g99_4, g99_5, g99_8, g99_9, g99_10, g99_11, g99_12, g99_46, hx2_0, hx2_1, hx2_2, hfl2, Nat.le_trans hsz2 (Fr.refl [] w20).size⟩
  by_cases hnn : fd.nul ≥ 0
  · refine wp_regG ?_
    refine wg_cons ?_
    refine wFa (b := w.heap.size) (i := 0) (hFlT51.fld (by decide)) (eK g18_5) ?_
    rw [show (0 + 3 : Nat) = 3 from rfl]
    refine wg_cons ?_
    refine wp_load0 (j := 3) (v := .int .i64 fd.nul) hcT3 (eS hz18) rb15 rfl ?_
    refine wg_cons ?_
    refine wp_geqT (k1 := .i64) (i := fd.nul) (j := 0) (by exact hnn) (eS hz18) rfl ?_
    refine wg_cons ?_
    refine wMv (v := .bool true) (eS hz18) ?_
    refine wg_yes (dj := 24) rfl (lZ hz18) (gS hz18) ?_
    refine wMv (v := .int .i64 ver) (eK g18_1) ?_
    refine wg_yes (dj := 24) rfl (lZ hz18) (gS hz18) ?_
    refine wFa (b := w.heap.size) (i := 0) (hFlT51.fld (by decide)) (eK g18_5) ?_
    rw [show (0 + 3 : Nat) = 3 from rfl]
    refine wg_yes (dj := 24) rfl (lZ hz18) (gS hz18) ?_
    refine wp_load0 (j := 3) (v := .int .i64 fd.nul) hcT3 (eS hz18) rb15 rfl ?_
    refine wg_yes (dj := 24) rfl (lZ hz18) (gS hz18) ?_
    refine wp_geq (k1 := .i64) (i := ver) (j := fd.nul) (eS hz18) (eS hz18) ?_
    rw [show (decide ((ver : Int) ≥ (fd.nul : Int)) : Bool) = (may : Bool) from by rw [hmay, decide_eq_true hnn, Bool.true_and]]
    refine wg_cons ?_
    refine wp_pickYes (v := .bool may) (eS hz18) (eS hz18) ?_
    refine wg_cons ?_
    refine wAs (v := .bool may) (eS hz18) ?_
    refine wg_end fun a100 ha100 => ?_
    have hz100 := kS ha100 hz18
    have hd100 := kD ha100 hd18
    have g100_0 := kP ha100 g18_0
    have g100_1 := kP ha100 g18_1
    have g100_2 := kP ha100 g18_2
    have g100_3 := kP ha100 g18_3
    have g100_4 := kP ha100 g18_4
    have g100_5 := kP ha100 g18_5
    have g100_8 := kP ha100 g18_8
    have g100_9 := kP ha100 g18_9
    have g100_10 := kP ha100 g18_10
    have g100_11 := kP ha100 g18_11
    have g100_12 : get a100 12 = .bool may := kG ha100 hz18
    exact hJ20 a100 w13 ⟨hz100, hd100, g100_0, g100_1, g100_2, g100_3, g100_4, g100_5, g100_8, g100_9, g100_10, g100_11, g100_12, rb15, rb16, rb17, hF14, Nat.le_trans hsz0 hL14_w7.size⟩
  · obtain rfl : may = false := by rw [hmay, decide_eq_false hnn, Bool.false_and]
    refine wp_regG ?_
    refine wg_cons ?_
    refine wFa (b := w.heap.size) (i := 0) (hFlT51.fld (by decide)) (eK g18_5) ?_
    rw [show (0 + 3 : Nat) = 3 from rfl]
    refine wg_cons ?_
    refine wp_load0 (j := 3) (v := .int .i64 fd.nul) hcT3 (eS hz18) rb15 rfl ?_
    refine wg_cons ?_
    refine wp_geqF (k1 := .i64) (i := fd.nul) (j := 0) (by exact hnn) (eS hz18) rfl ?_
    refine wg_cons ?_
    refine wMv (v := .bool false) (eS hz18) ?_
    refine wg_noT (dj := 24) rfl (lZ hz18) (gS hz18) ?_
    refine wg_noT (dj := 24) rfl (lZ hz18) (gS hz18) ?_
    refine wg_noT (dj := 24) rfl (lZ hz18) (gS hz18) ?_
    refine wg_noT (dj := 24) rfl (lZ hz18) (gS hz18) ?_
    refine wg_cons ?_
    refine wp_pickNo (v := .bool false) (eS hz18) rfl ?_
    refine wg_cons ?_
    refine wAs (v := .bool false) (eS hz18) ?_
    refine wg_end fun a101 ha101 => ?_
    have hz101 := kS ha101 hz18
    have hd101 := kD ha101 hd18
    have g101_0 := kP ha101 g18_0
    have g101_1 := kP ha101 g18_1
    have g101_2 := kP ha101 g18_2
    have g101_3 := kP ha101 g18_3
    have g101_4 := kP ha101 g18_4
    have g101_5 := kP ha101 g18_5
    have g101_8 := kP ha101 g18_8
    have g101_9 := kP ha101 g18_9
    have g101_10 := kP ha101 g18_10
    have g101_11 := kP ha101 g18_11
    have g101_12 : get a101 12 = .bool false := kG ha101 hz18
    exact hJ20 a101 w13 ⟨hz101, hd101, g101_0, g101_1, g101_2, g101_3, g101_4, g101_5, g101_8, g101_9, g101_10, g101_11, g101_12, rb15, rb16, rb17, hF14, Nat.le_trans hsz0 hL14_w7.size⟩
end Go.Kq

namespace Go.Kq
open Go Go.Proofs
def TdL (fs : List Fd) (Rf : Fd → Int → T → T → Prop) (ver : Int) (flex : Bool) (t g : T) : Prop :=
  g.l.length = fs.length ∧ (∀ (j : Nat) (fd : Fd) (y : T), fs[j]? = some fd → g.l[j]? = some y → fd.tag < 0 ∧ fd.has ver = true ∧ Rf fd ver (atT t.l j) y) ∧ g.u = if flex then unksW fs t else []
structure ToldM (P : Program) (f : FuncId) (fs : List Fd) (R : Int → Bool → T → T → Prop) : Prop where
  enters : Enters P f
  call : ∀ (w : World) (A B C : Nat → Prop) (v : Value) (ver : Int) (flex : Bool) (ct cg : List Value) (t g : T), FdsR w A v fs → RepT w B ct t → RepT w C cg g → (∀ b, A b → b < w.heap.size) → (∀ b, B b → b < w.heap.size) → (∀ b, C b → b < w.heap.size) → R ver flex t g →
    Calls P f #[v, .int .i64 ver, .bool flex, .agg ct.toArray, .agg cg.toArray] w fun e w' => e = .returned (.bool true) ∧ Fr [] w w'
set_option maxHeartbeats 4000000 in
theorem toldl_m {P : Program} {f : FuncId} {fn : Func} {T3 T4 T22 T23 T24 T26 T29 T51 T63 T65 : TypeId} {f20 f21 f22 f23 f24 f25 f26 f27 : FuncId} {a0 : Array TypeId} {a1 : Array TypeId} {a2 : Array TypeId} {a3 : Array TypeId} {a4 : Array TypeId} {a5 : Array TypeId} {a6 : Array TypeId} {a7 : Array TypeId} {i0 i1 i2 i3 i4 i5 i6 i7 i8 i9 i10 i11 i12 i13 i14 i15 i16 i17 i18 i19 i20 i21 i22 i23 i24 : Nat} {t0 t1 t2 t3 t4 t5 t6 t7 t8 t9 t10 t11 t12 t13 t14 t15 t16 t17 t18 t19 t20 t21 t22 t23 t24 t25 t26 t27 t28 t29 t30 t31 t32 t33 t34 t35 t36 t37 t38 t39 t40 t41 t42 t43 t44 t45 t46 t47 t48 t49 t50 t51 t52 t53 t54 t55 t56 t57 t58 t59 t60 t61 t62 t63 t64 t65 t66 t67 t68 t69 t70 t71 t72 t73 t74 t75 t76 t77 t78 t79 t80 t81 t82 t83 t84 t85 t86 t87 t88 t89 t90 t91 t92 t93 t94 t95 t96 t97 t98 t99 t100 t101 t102 t103 t104 t105 t106 t107 t108 t109 t110 t111 t112 t113 t114 t115 t116 t117 t118 t119 t120 t121 t122 t123 : TypeId} {p0 p1 p2 p3 p4 p5 p6 p7 p8 p9 p10 p11 p12 p13 p14 p15 p16 p17 p18 p19 p20 p21 p22 p23 p24 p25 p26 p27 p28 p29 p30 p31 p32 p33 p34 p35 p36 p37 p38 p39 p40 p41 p42 p43 p44 p45 p46 p47 p48 p49 p50 p51 p52 p53 p54 p55 p56 p57 p58 p59 p60 p61 p62 p63 p64 p65 p66 p67 p68 p69 p70 p71 p72 p73 p74 p75 p76 p77 p78 p79 p80 p81 p82 p83 p84 p85 p86 p87 p88 p89 p90 p91 p92 p93 p94 p95 p96 p97 p98 p99 p100 p101 p102 p103 p104 p105 p106 p107 p108 p109 p110 p111 p112 p113 p114 p115 p116 p117 p118 p119 p120 p121 p122 p123 : String} {e0 e1 e2 e3 e4 e5 e6 e7 e8 e9 e10 e11 e12 e13 e14 e15 e16 e17 e18 e19 e20 e21 e22 e23 e24 e25 e26 e27 e28 e29 e30 e31 e32 e33 e34 e35 e36 e37 e38 e39 e40 e41 e42 e43 e44 e45 e46 e47 e48 e49 e50 e51 e52 e53 e54 e55 e56 e57 e58 e59 e60 e61 e62 e63 e64 e65 e66 e67 e68 e69 e70 e71 e72 e73 e74 e75 e76 e77 e78 e79 e80 e81 e82 e83 e84 e85 e86 e87 e88 e89 e90 e91 e92 e93 e94 e95 e96 e97 e98 e99 e100 e101 e102 e103 e104 e105 e106 e107 e108 e109 e110 e111 e112 e113 e114 e115 e116 e117 e118 e119 e120 e121 e122 e123 : Array Edge} {te8 te5 teT : TypeId} {tb tb5 : Nat} {fs : List Fd} {Rf : Fd → Int → T → T → Prop}
    (hf : P.funcs[f]? = some fn) (hname : (fn.name == "runtime.NumGoroutine") = false) (hres : fn.results = #[.tmp 10]) (hN : fn.ntmps = 120)
    (hbody : fn.body = some (.seq (Code.region i0 ⟨[⟨some 8, .box T26 (.tmp 3), t0, p0, e0, none⟩,
    ⟨some 9, .box T26 (.tmp 4), t1, p1, e1, none⟩,
    ⟨some 10, .assign (.const (.bool false)), t2, p2, e2, none⟩]⟩ false)
  (.seq (.seq (Code.region i1 ⟨[⟨some 17, .fieldAddr T26 (.tmp 9) 3, t3, p3, e3, none⟩,
    ⟨some 18, .load T23 (.tmp 17), t4, p4, e4, none⟩,
    ⟨some 19, .call ⟨.builtin .len, #[(.tmp 18)], #[T23]⟩, t5, p5, e5, none⟩,
    ⟨some 20, .move (.tmp 0), t6, p6, e6, none⟩,
    ⟨some 21, .call ⟨.builtin .len, #[(.tmp 20)], #[T29]⟩, t7, p7, e7, none⟩,
    ⟨some 22, .binOp .neq T3 (.tmp 19) (.tmp 21) T3, t8, p8, e8, none⟩]⟩ false)
  (.cond (.tmp 22) (.seq (Code.region i2 ⟨[⟨some 10, .assign (.const (.bool false)), t9, p9, e9, none⟩]⟩ false)
  .ret)
  .skip))
  (.seq (.seq (Code.region i3 ⟨[⟨some 23, .move (.tmp 0), t10, p10, e10, none⟩,
    ⟨some 24, .call ⟨.builtin .len, #[(.tmp 23)], #[T29]⟩, t11, p11, e11, none⟩,
    ⟨some 25, .move (.const (.int .i64 0)), t12, p12, e12, none⟩]⟩ false)
  (.block 0 (.loop (.seq (Code.region i4 ⟨[⟨some 26, .binOp .lss T3 (.tmp 25) (.tmp 24) T3, t13, p13, e13, none⟩]⟩ false)
  (.seq (.cond (.tmp 26) .skip
  (.exit 0))
  (.seq (.block 1 (.seq (Code.region i5 ⟨[⟨some 27, .move (.tmp 25), t14, p14, e14, none⟩,
    ⟨some 28, .indexAddr T29 (.tmp 23) (.tmp 25), t15, p15, e15, none⟩,
    ⟨some 29, .load T51 (.tmp 28), t16, p16, e16, none⟩,
    ⟨some 12, .alloc T51, t17, p17, e17, none⟩,
    ⟨some 11, .assign (.tmp 27), t18, p18, e18, none⟩,
    ⟨none, .store T51 (.tmp 12) (.tmp 29), t19, p19, e19, none⟩]⟩ false)
  (.seq (Code.region i6 ⟨[⟨some 30, .load T26 (.tmp 8), t20, p20, e20, none⟩,
    ⟨some 31, .move (.tmp 11), t21, p21, e21, none⟩,
    ⟨some 32, .call ⟨.value (.func f20), #[(.tmp 30), (.tmp 31)], a0⟩, t22, p22, e22, none⟩,
    ⟨some 13, .alloc T26, t23, p23, e23, none⟩,
    ⟨none, .store T26 (.tmp 13) (.tmp 32), t24, p24, e24, none⟩]⟩ false)
  (.seq (.seq (Code.region i7 ⟨[⟨some 33, .fieldAddr T51 (.tmp 12) 4, t25, p25, e25, none⟩,
    ⟨some 34, .load T3 (.tmp 33), t26, p26, e26, none⟩,
    ⟨some 35, .binOp .lss T3 (.tmp 34) (.const (.int .i64 0)) T3, t27, p27, e27, none⟩,
    ⟨some 36, .move (.tmp 35), t28, p28, e28, none⟩,
    ⟨some 37, .load T51 (.tmp 12), t29, p29, e29, some (3, true)⟩,
    ⟨some 38, .move (.tmp 1), t30, p30, e30, some (3, true)⟩,
    ⟨some 39, .call ⟨.value (.func f21), #[(.tmp 37), (.tmp 38)], a1⟩, t31, p31, e31, some (3, true)⟩,
    ⟨some 40, .pick (.tmp 36) (.tmp 39) (.const (.bool false)), t32, p32, e32, none⟩,
    ⟨some 41, .move (.tmp 40), t33, p33, e33, none⟩,
    ⟨some 42, .fieldAddr T51 (.tmp 12) 4, t34, p34, e34, some (8, false)⟩,
    ⟨some 43, .load T3 (.tmp 42), t35, p35, e35, some (8, false)⟩,
    ⟨some 44, .binOp .geq T3 (.tmp 43) (.const (.int .i64 0)) T3, t36, p36, e36, some (8, false)⟩,
    ⟨some 45, .move (.tmp 44), t37, p37, e37, some (8, false)⟩,
    ⟨some 46, .move (.tmp 2), t38, p38, e38, some (12, true)⟩,
    ⟨some 47, .pick (.tmp 45) (.tmp 46) (.const (.bool false)), t39, p39, e39, some (8, false)⟩,
    ⟨some 48, .move (.tmp 47), t40, p40, e40, some (8, false)⟩,
    ⟨some 49, .load T51 (.tmp 12), t41, p41, e41, some (15, true)⟩,
    ⟨some 50, .load T26 (.tmp 13), t42, p42, e42, some (15, true)⟩,
    ⟨some 51, .call ⟨.value (.func f22), #[(.tmp 49), (.tmp 50)], a2⟩, t43, p43, e43, some (15, true)⟩,
    ⟨some 52, .unOp .not T4 (.tmp 51), t44, p44, e44, some (15, true)⟩,
    ⟨some 53, .pick (.tmp 48) (.tmp 52) (.const (.bool false)), t45, p45, e45, some (8, false)⟩,
    ⟨some 54, .pick (.tmp 41) (.const (.bool true)) (.tmp 53), t46, p46, e46, none⟩]⟩ false)
  (.cond (.tmp 54) (.seq (.seq (Code.region i8 ⟨[⟨some 55, .load T51 (.tmp 12), t47, p47, e47, none⟩,
    ⟨some 56, .move (.tmp 1), t48, p48, e48, none⟩,
    ⟨some 57, .move (.tmp 2), t49, p49, e49, none⟩,
    ⟨some 58, .load T26 (.tmp 13), t50, p50, e50, none⟩,
    ⟨some 59, .fieldAddr T26 (.tmp 9) 3, t51, p51, e51, none⟩,
    ⟨some 60, .load T23 (.tmp 59), t52, p52, e52, none⟩,
    ⟨some 61, .move (.tmp 11), t53, p53, e53, none⟩,
    ⟨some 62, .indexAddr T23 (.tmp 60) (.tmp 61), t54, p54, e54, none⟩,
    ⟨some 63, .load T26 (.tmp 62), t55, p55, e55, none⟩,
    ⟨some 64, .call ⟨.value (.func f23), #[(.tmp 55), (.tmp 56), (.tmp 57), (.tmp 58), (.tmp 63)], a3⟩, t56, p56, e56, none⟩,
    ⟨some 65, .unOp .not T4 (.tmp 64), t57, p57, e57, none⟩]⟩ true)
  (.cond (.tmp 65) (.seq (Code.region i9 ⟨[⟨some 10, .assign (.const (.bool false)), t58, p58, e58, none⟩]⟩ false)
  .ret)
  .skip))
  (.exit 1))
  .skip))
  (.seq (Code.region i10 ⟨[⟨some 66, .load T51 (.tmp 12), t59, p59, e59, none⟩,
    ⟨some 67, .buildSlice T29 1 #[(0, .tmp 66)], t60, p60, e60, none⟩,
    ⟨some 68, .fieldAddr T26 (.tmp 9) 3, t61, p61, e61, none⟩,
    ⟨some 69, .load T23 (.tmp 68), t62, p62, e62, none⟩,
    ⟨some 70, .move (.tmp 11), t63, p63, e63, none⟩,
    ⟨some 71, .indexAddr T23 (.tmp 69) (.tmp 70), t64, p64, e64, none⟩,
    ⟨some 72, .load T26 (.tmp 71), t65, p65, e65, none⟩,
    ⟨some 73, .buildSlice T23 1 #[(0, .tmp 72)], t66, p66, e66, none⟩,
    ⟨some 74, .build T26 #[(3, .tmp 73)], t67, p67, e67, none⟩,
    ⟨some 75, .call ⟨.value (.func f24), #[(.tmp 67), (.tmp 74)], a4⟩, t68, p68, e68, none⟩,
    ⟨some 76, .unOp .not T4 (.tmp 75), t69, p69, e69, none⟩]⟩ true)
  (.cond (.tmp 76) (.seq (Code.region i11 ⟨[⟨some 10, .assign (.const (.bool false)), t70, p70, e70, none⟩]⟩ false)
  .ret)
  .skip))))))
  (Code.region i12 ⟨[⟨some 77, .binOp .add T3 (.tmp 25) (.const (.int .i64 1)) T3, t71, p71, e71, none⟩,
    ⟨some 25, .move (.tmp 77), t72, p72, e72, none⟩]⟩ false)))))))
  (.seq (Code.region i13 ⟨[⟨some 78, .move (.tmp 0), t73, p73, e73, none⟩,
    ⟨some 79, .fieldAddr T26 (.tmp 8) 4, t74, p74, e74, none⟩,
    ⟨some 80, .load T24 (.tmp 79), t75, p75, e75, none⟩,
    ⟨some 81, .call ⟨.value (.func f25), #[(.tmp 78), (.tmp 80)], a5⟩, t76, p76, e76, none⟩,
    ⟨some 14, .assign (.tmp 81), t77, p77, e77, none⟩]⟩ false)
  (.seq (.seq (Code.region i14 ⟨[⟨some 82, .move (.tmp 2), t78, p78, e78, none⟩,
    ⟨some 83, .unOp .not T4 (.tmp 82), t79, p79, e79, none⟩]⟩ false)
  (.cond (.tmp 83) (Code.region i15 ⟨[⟨some 14, .assign (.const (.slice none 0 0)), t80, p80, e80, none⟩]⟩ false)
  .skip))
  (.seq (.seq (Code.region i16 ⟨[⟨some 84, .fieldAddr T26 (.tmp 9) 4, t81, p81, e81, none⟩,
    ⟨some 85, .load T24 (.tmp 84), t82, p82, e82, none⟩,
    ⟨some 86, .call ⟨.builtin .len, #[(.tmp 85)], #[T24]⟩, t83, p83, e83, none⟩,
    ⟨some 87, .move (.tmp 14), t84, p84, e84, none⟩,
    ⟨some 88, .call ⟨.builtin .len, #[(.tmp 87)], #[T24]⟩, t85, p85, e85, none⟩,
    ⟨some 89, .binOp .neq T3 (.tmp 86) (.tmp 88) T3, t86, p86, e86, none⟩]⟩ false)
  (.cond (.tmp 89) (.seq (Code.region i17 ⟨[⟨some 10, .assign (.const (.bool false)), t87, p87, e87, none⟩]⟩ false)
  .ret)
  .skip))
  (.seq (.seq (Code.region i18 ⟨[⟨some 90, .move (.tmp 14), t88, p88, e88, none⟩,
    ⟨some 91, .call ⟨.builtin .len, #[(.tmp 90)], #[T24]⟩, t89, p89, e89, none⟩,
    ⟨some 92, .move (.const (.int .i64 0)), t90, p90, e90, none⟩]⟩ false)
  (.block 2 (.loop (.seq (Code.region i19 ⟨[⟨some 93, .binOp .lss T3 (.tmp 92) (.tmp 91) T3, t91, p91, e91, none⟩]⟩ false)
  (.seq (.cond (.tmp 93) .skip
  (.exit 2))
  (.seq (.block 3 (.seq (Code.region i20 ⟨[⟨some 94, .move (.tmp 92), t92, p92, e92, none⟩,
    ⟨some 95, .indexAddr T24 (.tmp 90) (.tmp 92), t93, p93, e93, none⟩,
    ⟨some 96, .load T65 (.tmp 95), t94, p94, e94, none⟩,
    ⟨some 16, .alloc T65, t95, p95, e95, none⟩,
    ⟨some 15, .assign (.tmp 94), t96, p96, e96, none⟩,
    ⟨none, .store T65 (.tmp 16) (.tmp 96), t97, p97, e97, none⟩]⟩ false)
  (.seq (Code.region i21 ⟨[⟨some 97, .fieldAddr T26 (.tmp 9) 4, t98, p98, e98, none⟩,
    ⟨some 98, .load T24 (.tmp 97), t99, p99, e99, none⟩,
    ⟨some 99, .move (.tmp 15), t100, p100, e100, none⟩,
    ⟨some 100, .indexAddr T24 (.tmp 98) (.tmp 99), t101, p101, e101, none⟩,
    ⟨some 101, .fieldAddr T65 (.tmp 100) 0, t102, p102, e102, none⟩,
    ⟨some 102, .load T63 (.tmp 101), t103, p103, e103, none⟩,
    ⟨some 103, .fieldAddr T65 (.tmp 16) 0, t104, p104, e104, none⟩,
    ⟨some 104, .load T63 (.tmp 103), t105, p105, e105, none⟩,
    ⟨some 105, .binOp .neq T63 (.tmp 102) (.tmp 104) T63, t106, p106, e106, none⟩,
    ⟨some 106, .move (.tmp 105), t107, p107, e107, none⟩,
    ⟨some 107, .fieldAddr T26 (.tmp 9) 4, t108, p108, e108, some (9, false)⟩,
    ⟨some 108, .load T24 (.tmp 107), t109, p109, e109, some (9, false)⟩,
    ⟨some 109, .move (.tmp 15), t110, p110, e110, some (9, false)⟩,
    ⟨some 110, .indexAddr T24 (.tmp 108) (.tmp 109), t111, p111, e111, some (9, false)⟩,
    ⟨some 111, .fieldAddr T65 (.tmp 110) 1, t112, p112, e112, some (9, false)⟩,
    ⟨some 112, .load T22 (.tmp 111), t113, p113, e113, some (9, false)⟩,
    ⟨some 113, .fieldAddr T65 (.tmp 16) 1, t114, p114, e114, some (9, false)⟩,
    ⟨some 114, .load T22 (.tmp 113), t115, p115, e115, some (9, false)⟩,
    ⟨some 115, .call ⟨.value (.func f27), #[(.tmp 114)], a6⟩, t116, p116, e116, some (9, false)⟩,
    ⟨some 116, .call ⟨.value (.func f26), #[(.tmp 112), (.tmp 115)], a7⟩, t117, p117, e117, some (9, false)⟩,
    ⟨some 117, .unOp .not T4 (.tmp 116), t118, p118, e118, some (9, false)⟩,
    ⟨some 118, .pick (.tmp 106) (.const (.bool true)) (.tmp 117), t119, p119, e119, none⟩]⟩ true)
  (.cond (.tmp 118) (.seq (Code.region i22 ⟨[⟨some 10, .assign (.const (.bool false)), t120, p120, e120, none⟩]⟩ false)
  .ret)
  .skip))))
  (Code.region i23 ⟨[⟨some 119, .binOp .add T3 (.tmp 92) (.const (.int .i64 1)) T3, t121, p121, e121, none⟩,
    ⟨some 92, .move (.tmp 119), t122, p122, e122, none⟩]⟩ false)))))))
  (.seq (Code.region i24 ⟨[⟨some 10, .assign (.const (.bool true)), t123, p123, e123, none⟩]⟩ false)
  .ret)))))))))
    (hFlT26 : Flat P T26 zT) (hcT23 : scal P T23 = true) (hsT23 : slTy P T23 = true) (hsT29 : slTy P T29 = true) (hs_T29 : sliceOf P T29 te8 8 tb = true) (hFlT51 : Flat P T51 zF) (hcT3 : scal P T3 = true) (hs_T23 : sliceOf P T23 te5 5 tb5 = true) (he8 : edgeOk 0 [e47, e48, e49, e50, e51, e52, e53, e54, e55, e56, e57] [[], [], [], [], [], [4], [], [5, 6], [7], [0, 1, 2, 3, 8], [9]] = true) (hmx : P.follows .mixedOrders = true) (hcT24 : scal P T24 = true) (hsT24 : slTy P T24 = true) (hs_T24 : sliceOf P T24 teT 2 32 = true) (hFlT65 : Flat P T65 zTag) (hcT63 : scal P T63 = true) (hcT22 : scal P T22 = true) (he21 : edgeOk 0 [e98, e99, e100, e101, e102, e103, e104, e105, e106, e107, e108, e109, e110, e111, e112, e113, e114, e115, e116, e117, e118, e119] [[], [0], [], [1, 2], [3], [4], [], [6], [5, 7], [8], [9], [9, 10], [9], [9, 11, 12], [9, 13], [9, 14], [9], [9, 16], [9, 17], [9, 15, 18], [9, 19], [9, 20]] = true) (htg : ∀ f ∈ fs, f.tag < 4294967295) (hFd : ∀ fd ∈ fs, ToldFM P f23 fd (Rf fd)) (hAt : AtM P f20) (hHa : HasM P f21) (hUn : UnkM P f25) (hWh : WholeM P f27) (hSa : SameM P f26) : ToldM P f fs (TdL fs Rf) := by
  refine ⟨enters_of hf hname hbody, ?_⟩
  intro w A B C v ver flex ct cg t g hfs ht hg hA hB hC hR
  cases t with
  | mk n s nl l u =>
  cases g with
  | mk gn gs gnl gl gu =>
  have ht0 := ht
  obtain ⟨sv, lv, uv, rfl, hn, hs, hl, hu⟩ := repT_iff.1 ht
  obtain ⟨gsv, glv, guv, rfl, hgn, hgs, hgl, hgu⟩ := repT_iff.1 hg
  obtain ⟨gq, gcap, rfl, -, -, hge⟩ := hgl.sl2
  obtain ⟨guq, gucap, rfl, -, hgub, hgue⟩ := hgu.sl2
  obtain ⟨hR1, hR2, hR3⟩ := hR
  simp only [T.l, T.u] at hR1 hR2 hR3
  obtain ⟨q, cap, hv, hbig, hk⟩ := hfs.slice
  subst hv
  refine calls_of_wp hf hbody ?_
  generalize ha0 : ({ tmps := #[Value.slice q fs.length cap, Value.int .i64 ver, Value.bool flex, Value.agg ([.int .i64 n, sv, .bool nl, lv, uv] : List Value).toArray, Value.agg ([.int .i64 gn, gsv, .bool gnl, .slice gq gl.length gcap, .slice guq gu.length gucap] : List Value).toArray] ++ Array.replicate (fn.ntmps - (#[Value.slice q fs.length cap, Value.int .i64 ver, Value.bool flex, Value.agg ([.int .i64 n, sv, .bool nl, lv, uv] : List Value).toArray, Value.agg ([.int .i64 gn, gsv, .bool gnl, .slice gq gl.length gcap, .slice guq gu.length gucap] : List Value).toArray] : Array Value).size) undef, defers := [] } : Act) = a0
  have hz0 : a0.tmps.size = 120 := by subst ha0; simp [hN]
  have hd0 : a0.defers = [] := by subst ha0; rfl
  have g0_0 : get a0 0 = .slice q fs.length cap := by subst ha0; exact gAr rfl
  have g0_1 : get a0 1 = .int .i64 ver := by subst ha0; exact gAr rfl
  have g0_2 : get a0 2 = .bool flex := by subst ha0; exact gAr rfl
  have g0_3 : get a0 3 = .agg ([.int .i64 n, sv, .bool nl, lv, uv] : List Value).toArray := by subst ha0; exact gAr rfl
  have g0_4 : get a0 4 = .agg ([.int .i64 gn, gsv, .bool gnl, .slice gq gl.length gcap, .slice guq gu.length gucap] : List Value).toArray := by subst ha0; exact gAr rfl
  refine wT fun K1 hK1 => ?_
  refine wC (wp_boxL (cs := [.int .i64 n, sv, .bool nl, lv, uv]) (eK g0_3) ?_)
  rintro w2 f2 sz2 r2 th2
  have hF3 : Fr [] w w2 := f2
  refine wC (wp_boxL (cs := [.int .i64 gn, gsv, .bool gnl, .slice gq gl.length gcap, .slice guq gu.length gucap]) (eK g0_4) ?_)
  rintro w4 f4 sz4 r4 th4
  have hF5 : Fr [] w w4 := hF3.tr f4
  have rb6 := f4.range r2 .nil
  refine wC (wAs (v := .bool false) rfl ?_)
  refine wEn fun a7 ha7 => ?_
  have hz7 := kS ha7 hz0
  have hd7 := kD ha7 hd0
  have g7_0 := kP ha7 g0_0
  have g7_1 := kP ha7 g0_1
  have g7_2 := kP ha7 g0_2
  have g7_3 := kP ha7 g0_3
  have g7_4 := kP ha7 g0_4
  have g7_8 : get a7 8 = .pointer (some ⟨w.heap.size, 0, none⟩) := kG ha7 hz0
  have g7_9 : get a7 9 = .pointer (some ⟨w2.heap.size, 0, none⟩) := kG ha7 hz0
  have g7_10 : get a7 10 = .bool false := kG ha7 hz0
  have hsz0 : w.heap.size + 2 ≤ w4.heap.size := by omega
  refine hK1 a7 w4 (tUp ?_)
  refine then_id (wp_seq_k fun K8 hK8 => ?_)
  refine wS fun K9 hK9 => ?_
  refine wC (wFa (b := w2.heap.size) (i := 0) (hFlT26.fld (by decide)) (eK g7_9) ?_)
  rw [show (0 + 3 : Nat) = 3 from rfl]
  refine wC (wp_load0 (j := 3) (v := .slice gq gl.length gcap) hcT23 (eS hz7) r4 rfl ?_)
  refine wC (wp_lenS (n := gl.length) hsT23 (eS hz7) ?_)
  refine wC (wMv (v := .slice q fs.length cap) (eK g7_0) ?_)
  refine wC (wp_lenS (n := fs.length) hsT29 (eS hz7) ?_)
  refine wC (wp_neqF (k1 := .i64) (i := ((gl.length : Nat) : Int)) (j := ((fs.length : Nat) : Int)) (by rw [hR1]) (eS hz7) (eS hz7) ?_)
  refine wEn fun a10 ha10 => ?_
  have hz10 := kS ha10 hz7
  have hd10 := kD ha10 hd7
  have g10_0 := kP ha10 g7_0
  have g10_1 := kP ha10 g7_1
  have g10_2 := kP ha10 g7_2
  have g10_3 := kP ha10 g7_3
  have g10_4 := kP ha10 g7_4
  have g10_8 := kP ha10 g7_8
  have g10_9 := kP ha10 g7_9
  have g10_10 := kP ha10 g7_10
  have g10_22 : get a10 22 = .bool false := kG ha10 hz7
  refine hK9 a10 w4 ?_
  refine wp_cond_split (t := false) (eK g10_22) (fun h => by cases h) (fun _ => ?_)
  refine wp_skip ?_
  refine hK8 a10 w4 (tUp ?_)
  refine then_id (wp_seq_k fun K12 hK12 => ?_)
  refine wS fun K13 hK13 => ?_
  refine wC (wMv (v := .slice q fs.length cap) (eK g10_0) ?_)
  refine wC (wp_lenS (n := fs.length) hsT29 (eS hz10) ?_)
  refine wC (wMv (v := .int .i64 0) rfl ?_)
  refine wEn fun a14 ha14 => ?_
  have hz14 := kS ha14 hz10
  have hd14 := kD ha14 hd10
  have g14_0 := kP ha14 g10_0
  have g14_1 := kP ha14 g10_1
  have g14_2 := kP ha14 g10_2
  have g14_3 := kP ha14 g10_3
  have g14_4 := kP ha14 g10_4
  have g14_8 := kP ha14 g10_8
  have g14_9 := kP ha14 g10_9
  have g14_10 := kP ha14 g10_10
  have g14_22 := kP ha14 g10_22
  have g14_23 : get a14 23 = .slice q fs.length cap := kG ha14 hz10
  have g14_24 : get a14 24 = .int .i64 ((fs.length : Nat) : Int) := kG ha14 hz10
  have g14_25 : get a14 25 = .int .i64 0 := kG ha14 hz10
  refine hK13 a14 w4 ?_
  refine wp_block (wp_loop_ghost (fun (m : Nat) a' w' => ∃ (j : Nat), a'.tmps.size = 120 ∧ a'.defers = [] ∧ get a' 0 = .slice q fs.length cap ∧ get a' 1 = .int .i64 ver ∧ get a' 2 = .bool flex ∧ get a' 3 = .agg ([.int .i64 n, sv, .bool nl, lv, uv] : List Value).toArray ∧ get a' 4 = .agg ([.int .i64 gn, gsv, .bool gnl, .slice gq gl.length gcap, .slice guq gu.length gucap] : List Value).toArray ∧ get a' 8 = .pointer (some ⟨w.heap.size, 0, none⟩) ∧ get a' 9 = .pointer (some ⟨w2.heap.size, 0, none⟩) ∧ get a' 10 = .bool false ∧ get a' 22 = .bool false ∧ get a' 23 = .slice q fs.length cap ∧ get a' 24 = .int .i64 ((fs.length : Nat) : Int) ∧ get a' 25 = .int .i64 (j : Int) ∧ j + m = fs.length ∧ w'.rangeAt w.heap.size 0 [.int .i64 n, sv, .bool nl, lv, uv] ∧ w'.rangeAt w2.heap.size 0 [.int .i64 gn, gsv, .bool gnl, .slice gq gl.length gcap, .slice guq gu.length gucap] ∧ Fr [] w w' ∧ w.heap.size + 2 ≤ w'.heap.size) fs.length ?_ ?_)
  · exact ⟨0, hz14, hd14, g14_0, g14_1, g14_2, g14_3, g14_4, g14_8, g14_9, g14_10, g14_22, g14_23, g14_24, g14_25, by omega, rb6, r4, hF5, hsz0⟩
  · rintro m a15 w15 ⟨j, hz15, hd15, g15_0, g15_1, g15_2, g15_3, g15_4, g15_8, g15_9, g15_10, g15_22, g15_23, g15_24, g15_25, hjm, hb8, hb9, hfl, hSl⟩
    refine wS fun K16 hK16 => ?_
    refine wC (wp_lss (k1 := .i64) (i := (j : Int)) (j := ((fs.length : Nat) : Int)) (eK g15_25) (eK g15_24) ?_)
    refine wEn fun a17 ha17 => ?_
    have hz17 := kS ha17 hz15
    have hd17 := kD ha17 hd15
    have g17_0 := kP ha17 g15_0
    have g17_1 := kP ha17 g15_1
    have g17_2 := kP ha17 g15_2
    have g17_3 := kP ha17 g15_3
    have g17_4 := kP ha17 g15_4
    have g17_8 := kP ha17 g15_8
    have g17_9 := kP ha17 g15_9
    have g17_10 := kP ha17 g15_10
    have g17_22 := kP ha17 g15_22
    have g17_23 := kP ha17 g15_23
    have g17_24 := kP ha17 g15_24
    have g17_25 := kP ha17 g15_25
    have g17_26 : get a17 26 = .bool (decide (((j : Int) : Int) < (((fs.length : Nat) : Int) : Int))) := kG ha17 hz15
    refine hK16 a17 w15 ?_
    refine wp_seq_k fun K18 hK18 => ?_
    refine wp_cond_split (t := decide (((j : Int) : Int) < (((fs.length : Nat) : Int) : Int))) (eK g17_26) (fun hc19 => ?_) (fun hc19 => ?_)
    · have hjl : j < fs.length := by simpa using hc19
      obtain ⟨fd, hfd⟩ : ∃ fd, fs[j]? = some fd := ⟨fs[j], by simp [hjl]⟩
      obtain ⟨bl, ol, cl, hq, hbl2, hrl, hrep⟩ := hk j fd hfd
      obtain ⟨fsv, rfl, hsub⟩ := repF_iff.1 hrep
      have hgj : j < gl.length := by omega
      obtain ⟨y, hy⟩ : ∃ y, gl[j]? = some y := ⟨gl[j], by simp [hgj]⟩
      obtain ⟨gb, gol, ec, hgq, hgb, hgr, hgt⟩ := hge j y hy
      have hel := hgt.length
      obtain ⟨hft, hhas, hTd⟩ := hR2 j fd y hfd hy
      refine wp_skip ?_
      refine hK18 a17 w15 ?_
      refine wp_seq_k fun K20 hK20 => ?_
      refine wp_blockT ?_
      refine wS fun K21 hK21 => ?_
      refine wC (wMv (v := .int .i64 (j : Int)) (eK g17_25) ?_)
      refine wC (wp_ixN (b := bl) (o := ol) (i := j) hs_T29 (by rw [eTm, nZ (by decide), g17_23, hq]) (eK g17_25) hjl ?_)
      refine wC (wp_loadFlat (cs := [.int .i64 fd.kind, .int .i64 fd.fr, .int .i64 fd.to, .int .i64 fd.nul, .int .i64 fd.tag, .int .i64 fd.df, .int .i64 fd.of, fsv]) (b := bl) (o := ol + j * 8) hFlT51 rfl (eS hz17) (hfl.range hrl .nil) ?_)
      rw [wCo]
      have hgs22 := hfl.size
      have hgs23 := (Fr.refl [] w15).size
      refine wp_allocL hFlT51 ?_
      rintro w24 f24 sz24 r24 th24
      have hF25 : Fr [] w w24 := hfl.tr f24
      have hL25_w15 : Fr [] w15 w24 := (Fr.refl [] w15).tr f24
      have rb26 := f24.range hb8 .nil
      have rb27 := f24.range hb9 .nil
      refine wC (wAs (v := .int .i64 (j : Int)) (eS hz17) ?_)
      refine wC (wp_storeL (cs := [.int .i64 fd.kind, .int .i64 fd.fr, .int .i64 fd.to, .int .i64 fd.nul, .int .i64 fd.tag, .int .i64 fd.df, .int .i64 fd.of, fsv]) (o := 0) hFlT51 rfl (eS hz17) (eS hz17) (by intro u hu; simp at hu; rcases hu with rfl | rfl | rfl | rfl | rfl | rfl | rfl | rfl <;> first | rfl | exact hsub.one) th24 ?_)
      rintro w28 f28 sz28 r28 th28
      have hF28 : Fr [] w w28 := hF25.trans f28 (fun r hr => .inl (by simp at hr; subst hr; have := hfl.size; simp only; omega))
      have rb29 := f28.range rb26 (.cons (.inl (by simp only; omega)) .nil)
      have rb30 := f28.range rb27 (.cons (.inl (by simp only; omega)) .nil)
      have hL28_w15 : Fr [] w15 w28 := hL25_w15.trans f28 (fun r hr => .inl (by simp at hr; subst hr; have := (Fr.refl [] w15).size; simp only; omega))
      refine wEn fun a31 ha31 => ?_
      have hz31 := kS ha31 hz17
      have hd31 := kD ha31 hd17
      have g31_0 := kP ha31 g17_0
      have g31_1 := kP ha31 g17_1
      have g31_2 := kP ha31 g17_2
      have g31_3 := kP ha31 g17_3
      have g31_4 := kP ha31 g17_4
      have g31_8 := kP ha31 g17_8
      have g31_9 := kP ha31 g17_9
      have g31_10 := kP ha31 g17_10
      have g31_11 : get a31 11 = .int .i64 (j : Int) := kG ha31 hz17
      have g31_12 : get a31 12 = .pointer (some ⟨w15.heap.size, 0, none⟩) := kG ha31 hz17
      have g31_22 := kP ha31 g17_22
      have g31_23 := kP ha31 g17_23
      have g31_24 := kP ha31 g17_24
      have g31_25 := kP ha31 g17_25
      refine hK21 a31 w28 ?_
      refine wS fun K32 hK32 => ?_
      refine wC (wp_loadFlat (cs := [.int .i64 n, sv, .bool nl, lv, uv]) (b := w.heap.size) (o := 0) hFlT26 rfl (eK g31_8) rb29 ?_)
      refine wC (wMv (v := .int .i64 (j : Int)) (eK g31_11) ?_)
      refine wC (wCr (R := fun x wz => ∃ cs : List Value, x = .agg cs.toArray ∧ Fr [] w28 wz ∧ ((∀ b, B b → b < w28.heap.size) → RepT wz B cs (atT l j))) (vs := #[.agg ([.int .i64 n, sv, .bool nl, lv, uv] : List Value).toArray, .int .i64 (j : Int)]) hAt.enters (mX2 (eS hz31) (eS hz31)) ((hAt.call w28 B _ (.mk n s nl l u) j (ht0.kept hF28 (by simp) (fun _ h => h))).mono (by rintro e wz ⟨cs, rfl, h1, h2⟩; exact ⟨_, rfl, cs, rfl, h1, h2⟩)) ?_)
      rintro _ w33 ⟨xc, rfl, fr33, hxr33⟩
      have hxt := hxr33 (fun b hb => Nat.lt_of_lt_of_le (hB b hb) hF28.size)
      have hxl := hxt.length
      have hxo := hxt.ones
      have hF34 : Fr [] w w33 := hF28.tr fr33
      have hL34_w15 : Fr [] w15 w33 := hL28_w15.tr fr33
      have hL34_w28 : Fr [] w28 w33 := (Fr.refl [] w28).tr fr33
      have rb35 := fr33.range rb29 .nil
      have rb36 := fr33.range rb30 .nil
      have rb37 := fr33.range r28 .nil
      rw [wCo]
      have hgs38 := hF34.size
      have hgs39 := hL34_w15.size
      have hgs40 := hL34_w28.size
      have hgs41 := (Fr.refl [] w33).size
      refine wp_allocL hFlT26 ?_
      rintro w42 f42 sz42 r42 th42
      have hF43 : Fr [] w w42 := hF34.tr f42
      have hL43_w15 : Fr [] w15 w42 := hL34_w15.tr f42
      have hL43_w33 : Fr [] w33 w42 := (Fr.refl [] w33).tr f42
      have rb44 := f42.range rb35 .nil
      have rb45 := f42.range rb36 .nil
      have rb46 := f42.range rb37 .nil
      refine wC (wp_storeL (cs := xc) (o := 0) hFlT26 hxl (eS hz31) (eS hz31) hxo th42 ?_)
      rintro w47 f47 sz47 r47 th47
      have hF47 : Fr [] w w47 := hF43.trans f47 (fun r hr => .inl (by simp at hr; subst hr; have := hF34.size; simp only; omega))
      have rb48 := f47.range rb44 (.cons (.inl (by simp only; omega)) .nil)
      have rb49 := f47.range rb45 (.cons (.inl (by simp only; omega)) .nil)
      have rb50 := f47.range rb46 (.cons (.inl (by simp only; omega)) .nil)
      have hL47_w15 : Fr [] w15 w47 := hL43_w15.trans f47 (fun r hr => .inl (by simp at hr; subst hr; have := hL34_w15.size; simp only; omega))
      have hL47_w33 : Fr [] w33 w47 := hL43_w33.trans f47 (fun r hr => .inl (by simp at hr; subst hr; have := (Fr.refl [] w33).size; simp only; omega))
      refine wEn fun a51 ha51 => ?_
      have hz51 := kS ha51 hz31
      have hd51 := kD ha51 hd31
      have g51_0 := kP ha51 g31_0
      have g51_1 := kP ha51 g31_1
      have g51_2 := kP ha51 g31_2
      have g51_3 := kP ha51 g31_3
      have g51_4 := kP ha51 g31_4
      have g51_8 := kP ha51 g31_8
      have g51_9 := kP ha51 g31_9
      have g51_10 := kP ha51 g31_10
      have g51_11 := kP ha51 g31_11
      have g51_12 := kP ha51 g31_12
      have g51_13 : get a51 13 = .pointer (some ⟨w33.heap.size, 0, none⟩) := kG ha51 hz31
      have g51_22 := kP ha51 g31_22
      have g51_23 := kP ha51 g31_23
      have g51_24 := kP ha51 g31_24
      have g51_25 := kP ha51 g31_25
      refine hK32 a51 w47 ?_
      refine wp_seq_k fun K52 hK52 => ?_
      refine wp_seq_k fun K53 hK53 => ?_
      refine wp_regG ?_
      refine wg_cons ?_
      refine wFa (b := w15.heap.size) (i := 0) (hFlT51.fld (by decide)) (eK g51_12) ?_
      rw [show (0 + 4 : Nat) = 4 from rfl]
      refine wg_cons ?_
      refine wp_load0 (j := 4) (v := .int .i64 fd.tag) hcT3 (eS hz51) rb50 rfl ?_
      refine wg_cons ?_
      refine wp_lssT (k1 := .i64) (i := fd.tag) (j := 0) (by exact hft) (eS hz51) rfl ?_
      refine wg_cons ?_
      refine wMv (v := .bool true) (eS hz51) ?_
      refine wg_yes (dj := 36) rfl (lZ hz51) (gS hz51) ?_
      refine wp_loadFlat (cs := [.int .i64 fd.kind, .int .i64 fd.fr, .int .i64 fd.to, .int .i64 fd.nul, .int .i64 fd.tag, .int .i64 fd.df, .int .i64 fd.of, fsv]) (b := w15.heap.size) (o := 0) hFlT51 rfl (eK g51_12) rb50 ?_
      refine wg_yes (dj := 36) rfl (lZ hz51) (gS hz51) ?_
      refine wMv (v := .int .i64 ver) (eK g51_1) ?_
      refine wg_yes (dj := 36) rfl (lZ hz51) (gS hz51) ?_
      refine wCr (R := fun x wz => x = .bool true ∧ Fr [] w47 wz) (vs := #[.agg ([.int .i64 fd.kind, .int .i64 fd.fr, .int .i64 fd.to, .int .i64 fd.nul, .int .i64 fd.tag, .int .i64 fd.df, .int .i64 fd.of, fsv] : List Value).toArray, .int .i64 ver]) hHa.enters (mX2 (eS hz51) (eS hz51)) ((hHa.call w47 A _ fd ver (hrep.kept hF47 (by simp) (fun _ h => h))).mono (by rintro e w' ⟨rfl, hf⟩; exact ⟨_, rfl, by rw [hhas], hf⟩)) ?_
      rintro x54 w54 ⟨rfl, fr54⟩
      have hF55 : Fr [] w w54 := hF47.tr fr54
      have hL55_w15 : Fr [] w15 w54 := hL47_w15.tr fr54
      have hL55_w33 : Fr [] w33 w54 := hL47_w33.tr fr54
      have rb56 := fr54.range rb48 .nil
      have rb57 := fr54.range rb49 .nil
      have rb58 := fr54.range rb50 .nil
      have rb59 := fr54.range r47 .nil
      refine wg_cons ?_
      refine wp_pickYes (v := .bool true) (eS hz51) (eS hz51) ?_
      refine wg_cons ?_
      refine wMv (v := .bool true) (eS hz51) ?_
      refine wg_noF (dj := 41) rfl (lZ hz51) (gS hz51) ?_
      refine wg_noF (dj := 41) rfl (lZ hz51) (gS hz51) ?_
      refine wg_noF (dj := 41) rfl (lZ hz51) (gS hz51) ?_
      refine wg_noF (dj := 41) rfl (lZ hz51) (gS hz51) ?_
      refine wg_un (dj := 45) rfl (gS hz51) ?_
      refine wg_noF (dj := 41) rfl (lZ hz51) (gS hz51) ?_
      refine wg_noF (dj := 41) rfl (lZ hz51) (gS hz51) ?_
      refine wg_un (dj := 48) rfl (gS hz51) ?_
      refine wg_un (dj := 48) rfl (gS hz51) ?_
      refine wg_un (dj := 48) rfl (gS hz51) ?_
      refine wg_un (dj := 48) rfl (gS hz51) ?_
      refine wg_noF (dj := 41) rfl (lZ hz51) (gS hz51) ?_
      refine wg_cons ?_
      refine wp_pickYes (v := .bool true) (eS hz51) rfl ?_
      refine wg_end fun a60 ha60 => ?_
      have hz60 := kS ha60 hz51
      have hd60 := kD ha60 hd51
      have g60_0 := kP ha60 g51_0
      have g60_1 := kP ha60 g51_1
      have g60_2 := kP ha60 g51_2
      have g60_3 := kP ha60 g51_3
      have g60_4 := kP ha60 g51_4
      have g60_8 := kP ha60 g51_8
      have g60_9 := kP ha60 g51_9
      have g60_10 := kP ha60 g51_10
      have g60_11 := kP ha60 g51_11
      have g60_12 := kP ha60 g51_12
      have g60_13 := kP ha60 g51_13
      have g60_22 := kP ha60 g51_22
      have g60_23 := kP ha60 g51_23
      have g60_24 := kP ha60 g51_24
      have g60_25 := kP ha60 g51_25
      have g60_54 : get a60 54 = .bool true := kG ha60 hz51
      refine hK53 a60 w54 ?_
      refine wp_cond_split (t := true) (eK g60_54) (fun _ => ?_) (fun h => by cases h)
      refine wp_seq_k fun K62 hK62 => ?_
      refine wp_seq_k fun K63 hK63 => ?_
      have hxt8 := hxt.kept hL55_w33 (by simp) (fun _ h => h)
      refine wp_drawE0 [spC [] (.agg ([.int .i64 fd.kind, .int .i64 fd.fr, .int .i64 fd.to, .int .i64 fd.nul, .int .i64 fd.tag, .int .i64 fd.df, .int .i64 fd.of, fsv] : List Value).toArray), spC [] (.int .i64 ver), spC [] (.bool flex), spC [] (.agg (xc).toArray), spC [] (.pointer (some ⟨w2.heap.size, 3, none⟩)), spC [4] (.slice gq gl.length gcap), spC [] (.int .i64 (j : Int)), spC [5, 6] (.pointer (some ⟨gb, gol + j * 5, none⟩)), spC [7] (.agg (ec).toArray), spR [0, 1, 2, 3, 8] (fun x w' => x = .bool true), spC [9] (.bool false)] 55 [] hmx he8 (by simp [shape]) (by simp [spC, spR]) (by simp; omega) ⟨lCc _ _ _, lCc _ _ _, lCc _ _ _, lCc _ _ _, lCc _ _ _, lCc _ _ _, lCc _ _ _, lCc _ _ _, lCc _ _ _, (fun v w1 w2 f h => h), lCc _ _ _, trivial⟩ ?_ ?_
      · refine oCs ?_ ?_
        · refine op_c fun a' w' hk' hf' hd' K' hK' => ?_
          refine wp_loadFlat (cs := [.int .i64 fd.kind, .int .i64 fd.fr, .int .i64 fd.to, .int .i64 fd.nul, .int .i64 fd.tag, .int .i64 fd.df, .int .i64 fd.of, fsv]) (b := w15.heap.size) (o := 0) hFlT51 rfl (by rw [eTm, hk'.get 12 (by omega), g60_12]) (hf'.range rb58 .nil) ?_
          exact hK'
        refine oCs ?_ ?_
        · refine op_c fun a' w' hk' hf' hd' K' hK' => ?_
          refine wMv (v := .int .i64 ver) (by rw [eTm, hk'.get 1 (by omega), g60_1]) ?_
          exact hK'
        refine oCs ?_ ?_
        · refine op_c fun a' w' hk' hf' hd' K' hK' => ?_
          refine wMv (v := .bool flex) (by rw [eTm, hk'.get 2 (by omega), g60_2]) ?_
          exact hK'
        refine oCs ?_ ?_
        · refine op_c fun a' w' hk' hf' hd' K' hK' => ?_
          refine wp_loadFlat (cs := xc) (b := w33.heap.size) (o := 0) hFlT26 hxl (by rw [eTm, hk'.get 13 (by omega), g60_13]) ((hf'.range rb59 .nil)) ?_
          exact hK'
        refine oCs ?_ ?_
        · refine op_c fun a' w' hk' hf' hd' K' hK' => ?_
          refine wFa (b := w2.heap.size) (i := 0) (hFlT26.fld (by decide)) (by rw [eTm, hk'.get 9 (by omega), g60_9]) ?_
          rw [show (0 + 3 : Nat) = 3 from rfl]
          exact hK'
        refine oCs ?_ ?_
        · refine op_c fun a' w' hk' hf' hd' K' hK' => ?_
          refine wp_load0 (j := 3) (v := .slice gq gl.length gcap) hcT23 (by rw [eTm]; exact hd'.c (nd' := []) 4 (by simp) rfl) (hf'.range rb57 .nil) rfl ?_
          exact hK'
        refine oCs ?_ ?_
        · refine op_c fun a' w' hk' hf' hd' K' hK' => ?_
          refine wMv (v := .int .i64 (j : Int)) (by rw [eTm, hk'.get 11 (by omega), g60_11]) ?_
          exact hK'
        refine oCs ?_ ?_
        · refine op_c fun a' w' hk' hf' hd' K' hK' => ?_
          refine wp_ixN (b := gb) (o := gol) (i := j) hs_T23 (by rw [eTm, ← hgq]; exact hd'.c (nd' := [4]) 5 (by simp) rfl) (by rw [eTm]; exact hd'.c (nd' := []) 6 (by simp) rfl) hgj ?_
          exact hK'
        refine oCs ?_ ?_
        · refine op_c fun a' w' hk' hf' hd' K' hK' => ?_
          refine wp_loadFlat (cs := ec) (b := gb) (o := gol + j * 5) hFlT26 hel (by rw [eTm]; exact hd'.c (nd' := [5, 6]) 7 (by simp) rfl) ((hF55.tr hf').range hgr .nil) ?_
          exact hK'
        refine oCs ?_ ?_
        · refine op_r fun a' w' hk' hf' hd' K' hK' => ?_
          refine wCr (R := fun x wz => x = .bool true ∧ Fr [] w' wz) (vs := #[.agg ([.int .i64 fd.kind, .int .i64 fd.fr, .int .i64 fd.to, .int .i64 fd.nul, .int .i64 fd.tag, .int .i64 fd.df, .int .i64 fd.of, fsv] : List Value).toArray, .int .i64 ver, .bool flex, .agg (xc).toArray, .agg (ec).toArray]) (hFd fd (List.mem_of_getElem? hfd)).enters (by simp only [List.map_toArray, List.map_cons, List.map_nil]; rw [show a'.eval (.tmp 55) = Value.agg ([.int .i64 fd.kind, .int .i64 fd.fr, .int .i64 fd.to, .int .i64 fd.nul, .int .i64 fd.tag, .int .i64 fd.df, .int .i64 fd.of, fsv] : List Value).toArray from (by rw [eTm]; exact hd'.c (nd' := []) 0 (by simp) rfl), show a'.eval (.tmp 56) = Value.int .i64 ver from (by rw [eTm]; exact hd'.c (nd' := []) 1 (by simp) rfl), show a'.eval (.tmp 57) = Value.bool flex from (by rw [eTm]; exact hd'.c (nd' := []) 2 (by simp) rfl), show a'.eval (.tmp 58) = Value.agg (xc).toArray from (by rw [eTm]; exact hd'.c (nd' := []) 3 (by simp) rfl), show a'.eval (.tmp 63) = Value.agg (ec).toArray from (by rw [eTm]; exact hd'.c (nd' := [7]) 8 (by simp) rfl)]) (((hFd fd (List.mem_of_getElem? hfd)).call w' A B C ver flex _ _ ec (atT l j) y (hrep.kept (hF55.tr hf') (by simp) (fun _ h => h)) (hxt8.kept hf' (by simp) (fun _ h => h)) (hgt.kept (hF55.tr hf') (by simp) (fun _ h => h)) (fun b hb => Nat.lt_of_lt_of_le (hA b hb) (hF55.tr hf').size) (fun b hb => Nat.lt_of_lt_of_le (hB b hb) (hF55.tr hf').size) (fun b hb => Nat.lt_of_lt_of_le (hC b hb) (hF55.tr hf').size) hTd).mono (by rintro e wz ⟨rfl, h⟩; exact ⟨_, rfl, rfl, h⟩)) ?_
          rintro _ w64 ⟨rfl, fr64⟩
          exact hK' _ w64 rfl fr64
        refine oCs ?_ ?_
        · refine op_c fun a' w' hk' hf' hd' K' hK' => ?_
          have hbt : get a' 64 = .bool true := hd'.at (d := 9) (by simp) rfl
          refine wp_not (b := true) (by rw [eTm]; exact hbt) ?_
          rw [show (!true) = false from rfl]
          exact hK'
        exact opsOk_nil
      intro a65 w65 k65 f65 hd_65
      have g65_0 : get a65 0 = .slice q fs.length cap := by rw [k65.get 0 (by omega), g60_0]
      have g65_1 : get a65 1 = .int .i64 ver := by rw [k65.get 1 (by omega), g60_1]
      have g65_2 : get a65 2 = .bool flex := by rw [k65.get 2 (by omega), g60_2]
      have g65_3 : get a65 3 = .agg ([.int .i64 n, sv, .bool nl, lv, uv] : List Value).toArray := by rw [k65.get 3 (by omega), g60_3]
      have g65_4 : get a65 4 = .agg ([.int .i64 gn, gsv, .bool gnl, .slice gq gl.length gcap, .slice guq gu.length gucap] : List Value).toArray := by rw [k65.get 4 (by omega), g60_4]
      have g65_8 : get a65 8 = .pointer (some ⟨w.heap.size, 0, none⟩) := by rw [k65.get 8 (by omega), g60_8]
      have g65_9 : get a65 9 = .pointer (some ⟨w2.heap.size, 0, none⟩) := by rw [k65.get 9 (by omega), g60_9]
      have g65_10 : get a65 10 = .bool false := by rw [k65.get 10 (by omega), g60_10]
      have g65_22 : get a65 22 = .bool false := by rw [k65.get 22 (by omega), g60_22]
      have g65_23 : get a65 23 = .slice q fs.length cap := by rw [k65.get 23 (by omega), g60_23]
      have g65_24 : get a65 24 = .int .i64 ((fs.length : Nat) : Int) := by rw [k65.get 24 (by omega), g60_24]
      have g65_25 : get a65 25 = .int .i64 (j : Int) := by rw [k65.get 25 (by omega), g60_25]
      have hz65 : a65.tmps.size = 120 := k65.size.trans hz60
      have hd65 : a65.defers = [] := k65.defers.trans hd60
      have g65_65 : get a65 65 = .bool false := hd_65.c (nd' := [9]) 10 (by simp) rfl
      have hF66 : Fr [] w w65 := hF55.tr f65
      have hL66_w15 : Fr [] w15 w65 := hL55_w15.tr f65
      have rb67 := f65.range rb56 .nil
      have rb68 := f65.range rb57 .nil
      have rb69 := f65.range rb58 .nil
      have rb70 := f65.range rb59 .nil
      refine hK63 a65 w65 ?_
      refine wp_cond_split (t := false) (eK g65_65) (fun h => by cases h) (fun _ => ?_)
      refine wp_skip ?_
      refine hK62 a65 w65 ?_
      refine wp_exit ?_
      show K20 a65 w65
      refine hK20 a65 w65 ?_
      refine wp_reg ?_
      refine wC (wp_add (k1 := .i64) (i := (j : Int)) (j := 1) (eK g65_25) rfl ?_)
      rw [show (IntKind.i64.wrap (((j : Int) : Int) + (1 : Int)) : Int) = (((j + 1 : Nat) : Int) : Int) from by simp only [IntKind.wrap, IntKind.bits, IntKind.signed]; simp; omega]
      refine wC (wMv (v := .int .i64 ((j + 1 : Nat) : Int)) (eS hz65) ?_)
      refine wEn fun a72 ha72 => ?_
      have hz72 := kS ha72 hz65
      have hd72 := kD ha72 hd65
      have g72_0 := kP ha72 g65_0
      have g72_1 := kP ha72 g65_1
      have g72_2 := kP ha72 g65_2
      have g72_3 := kP ha72 g65_3
      have g72_4 := kP ha72 g65_4
      have g72_8 := kP ha72 g65_8
      have g72_9 := kP ha72 g65_9
      have g72_10 := kP ha72 g65_10
      have g72_22 := kP ha72 g65_22
      have g72_23 := kP ha72 g65_23
      have g72_24 := kP ha72 g65_24
      have g72_25 : get a72 25 = .int .i64 ((j + 1 : Nat) : Int) := kG ha72 hz65
      exact ⟨m - 1, by omega, j + 1, hz72, hd72, g72_0, g72_1, g72_2, g72_3, g72_4, g72_8, g72_9, g72_10, g72_22, g72_23, g72_24, g72_25, by omega, rb67, rb68, hF66, Nat.le_trans hSl hL66_w15.size⟩
    · refine wp_exit ?_
      show K12 a17 w15
      refine hK12 a17 w15 (tUp ?_)
      refine wT fun K73 hK73 => ?_
      refine wC (wMv (v := .slice q fs.length cap) (eK g17_0) ?_)
      refine wC (wFa (b := w.heap.size) (i := 0) (hFlT26.fld (by decide)) (eK g17_8) ?_)
      rw [show (0 + 4 : Nat) = 4 from rfl]
      refine wC (wp_load0 (j := 4) (v := uv) hcT24 (eS hz17) hb8 rfl ?_)
      refine wC (wCr (R := fun x wz => Fr [] w15 wz ∧ TagsR wz (fun b => B b ∨ From w15.heap.size wz b) x (unknownW fs u)) (vs := #[.slice q fs.length cap, uv]) hUn.enters (mX2 (eS hz17) (eS hz17)) ((hUn.call w15 A B _ fs uv u (hfs.kept hfl (by simp) (fun _ h => h)) htg (hu.kept hfl (by simp) (fun _ h => h)) (fun b hb => Nat.lt_of_lt_of_le (hB b hb) hfl.size)).mono (by rintro e wz ⟨x, rfl, h1, h2⟩; exact ⟨x, rfl, h1, h2⟩)) ?_)
      rintro x74 w74 ⟨fr74, hus74⟩
      have hus := hus74.kept (A' := fun b => b < w74.heap.size) (Fr.refl [] _) (by simp) (by rintro b (hb | hb); exact Nat.lt_of_lt_of_le (hB b hb) (Nat.le_trans hfl.size fr74.size); exact hb.2)
      have hSu := Nat.le_trans hSl ((Fr.refl [] w15).tr fr74).size
      have hF75 : Fr [] w w74 := hfl.tr fr74
      have rb76 := fr74.range hb8 .nil
      have rb77 := fr74.range hb9 .nil
      refine wC (wAs (v := x74) (eS hz17) ?_)
      refine wEn fun a78 ha78 => ?_
      have hz78 := kS ha78 hz17
      have hd78 := kD ha78 hd17
      have g78_0 := kP ha78 g17_0
      have g78_1 := kP ha78 g17_1
      have g78_2 := kP ha78 g17_2
      have g78_3 := kP ha78 g17_3
      have g78_4 := kP ha78 g17_4
      have g78_8 := kP ha78 g17_8
      have g78_9 := kP ha78 g17_9
      have g78_10 := kP ha78 g17_10
      have g78_14 : get a78 14 = x74 := kG ha78 hz17
      have g78_22 := kP ha78 g17_22
      have g78_23 := kP ha78 g17_23
      have g78_24 := kP ha78 g17_24
      have g78_25 := kP ha78 g17_25
      refine hK73 a78 w74 (tUp ?_)
      refine then_id (wp_seq_k fun K79 hK79 => ?_)
      obtain ⟨ul, hul⟩ : ∃ x, x = if flex then unknownW fs u else [] := ⟨_, rfl⟩
      have hgul : gu = ul.map fun p => (p.1, wholeS p.2) := by rw [hR3, hul]; cases flex <;> simp [unksW, T.u]
      have hJ80 : ∀ (a' : Act) (w' : World), (∃ (lv14 : Value), a'.tmps.size = 120 ∧ a'.defers = [] ∧ get a' 0 = .slice q fs.length cap ∧ get a' 1 = .int .i64 ver ∧ get a' 2 = .bool flex ∧ get a' 3 = .agg ([.int .i64 n, sv, .bool nl, lv, uv] : List Value).toArray ∧ get a' 4 = .agg ([.int .i64 gn, gsv, .bool gnl, .slice gq gl.length gcap, .slice guq gu.length gucap] : List Value).toArray ∧ get a' 8 = .pointer (some ⟨w.heap.size, 0, none⟩) ∧ get a' 9 = .pointer (some ⟨w2.heap.size, 0, none⟩) ∧ get a' 10 = .bool false ∧ get a' 14 = lv14 ∧ get a' 22 = .bool false ∧ get a' 23 = .slice q fs.length cap ∧ get a' 24 = .int .i64 ((fs.length : Nat) : Int) ∧ get a' 25 = .int .i64 (j : Int) ∧ TagsR w' (fun b => b < w74.heap.size) lv14 ul ∧ w'.rangeAt w2.heap.size 0 [.int .i64 gn, gsv, .bool gnl, .slice gq gl.length gcap, .slice guq gu.length gucap] ∧ Fr [] w w' ∧ w74.heap.size ≤ w'.heap.size) → K79 a' w' := by
        rintro a80 w80 ⟨lv14, hz80, hd80, g80_0, g80_1, g80_2, g80_3, g80_4, g80_8, g80_9, g80_10, g80_14, g80_22, g80_23, g80_24, g80_25, htr14, hb914, hfl14, hS14⟩
        obtain ⟨q14, c14, rfl, -, h14b, h14e⟩ := htr14.sl2
        have hglen : gu.length = ul.length := by rw [hgul]; simp
        refine hK79 a80 w80 (tUp ?_)
        refine then_id (wp_seq_k fun K81 hK81 => ?_)
        refine wS fun K82 hK82 => ?_
        refine wC (wFa (b := w2.heap.size) (i := 0) (hFlT26.fld (by decide)) (eK g80_9) ?_)
        rw [show (0 + 4 : Nat) = 4 from rfl]
        refine wC (wp_load0 (j := 4) (v := .slice guq gu.length gucap) hcT24 (eS hz80) hb914 rfl ?_)
        refine wC (wp_lenS (n := gu.length) hsT24 (eS hz80) ?_)
        refine wC (wMv (v := .slice q14 ul.length c14) (eK g80_14) ?_)
        refine wC (wp_lenS (n := ul.length) hsT24 (eS hz80) ?_)
        refine wC (wp_neqF (k1 := .i64) (i := ((gu.length : Nat) : Int)) (j := ((ul.length : Nat) : Int)) (by rw [hglen]) (eS hz80) (eS hz80) ?_)
        refine wEn fun a83 ha83 => ?_
        have hz83 := kS ha83 hz80
        have hd83 := kD ha83 hd80
        have g83_9 := kP ha83 g80_9
        have g83_10 := kP ha83 g80_10
        have g83_14 := kP ha83 g80_14
        have g83_89 : get a83 89 = .bool false := kG ha83 hz80
        refine hK82 a83 w80 ?_
        refine wp_cond_split (t := false) (eK g83_89) (fun h => by cases h) (fun _ => ?_)
        refine wp_skip ?_
        refine hK81 a83 w80 (tUp ?_)
        refine then_id (wp_seq_k fun K85 hK85 => ?_)
        refine wS fun K86 hK86 => ?_
        refine wC (wMv (v := .slice q14 ul.length c14) (eK g83_14) ?_)
        refine wC (wp_lenS (n := ul.length) hsT24 (eS hz83) ?_)
        refine wC (wMv (v := .int .i64 0) rfl ?_)
        refine wEn fun a87 ha87 => ?_
        have hz87 := kS ha87 hz83
        have hd87 := kD ha87 hd83
        have g87_9 := kP ha87 g83_9
        have g87_10 := kP ha87 g83_10
        have g87_14 := kP ha87 g83_14
        have g87_90 : get a87 90 = .slice q14 ul.length c14 := kG ha87 hz83
        have g87_91 : get a87 91 = .int .i64 ((ul.length : Nat) : Int) := kG ha87 hz83
        have g87_92 : get a87 92 = .int .i64 0 := kG ha87 hz83
        refine hK86 a87 w80 ?_
        refine wp_block (wp_loop_ghost (fun (m2 : Nat) a' w' => ∃ (j : Nat), a'.tmps.size = 120 ∧ a'.defers = [] ∧ get a' 9 = .pointer (some ⟨w2.heap.size, 0, none⟩) ∧ get a' 10 = .bool false ∧ get a' 14 = .slice q14 ul.length c14 ∧ get a' 90 = .slice q14 ul.length c14 ∧ get a' 91 = .int .i64 ((ul.length : Nat) : Int) ∧ get a' 92 = .int .i64 (j : Int) ∧ j + m2 = ul.length ∧ w'.rangeAt w2.heap.size 0 [.int .i64 gn, gsv, .bool gnl, .slice gq gl.length gcap, .slice guq gu.length gucap] ∧ Fr [] w w' ∧ Fr [] w80 w') ul.length ?_ ?_)
        · exact ⟨0, hz87, hd87, g87_9, g87_10, g87_14, g87_90, g87_91, g87_92, by omega, hb914, hfl14, Fr.refl [] _⟩
        · rintro m2 a88 w88 ⟨j, hz88, hd88, g88_9, g88_10, g88_14, g88_90, g88_91, g88_92, hjm2, hb92, hfl2, hf14⟩
          refine wS fun K89 hK89 => ?_
          refine wC (wp_lss (k1 := .i64) (i := (j : Int)) (j := ((ul.length : Nat) : Int)) (eK g88_92) (eK g88_91) ?_)
          refine wEn fun a90 ha90 => ?_
          have hz90 := kS ha90 hz88
          have hd90 := kD ha90 hd88
          have g90_9 := kP ha90 g88_9
          have g90_10 := kP ha90 g88_10
          have g90_14 := kP ha90 g88_14
          have g90_90 := kP ha90 g88_90
          have g90_91 := kP ha90 g88_91
          have g90_92 := kP ha90 g88_92
          have g90_93 : get a90 93 = .bool (decide (((j : Int) : Int) < (((ul.length : Nat) : Int) : Int))) := kG ha90 hz88
          refine hK89 a90 w88 ?_
          refine wp_seq_k fun K91 hK91 => ?_
          refine wp_cond_split (t := decide (((j : Int) : Int) < (((ul.length : Nat) : Int) : Int))) (eK g90_93) (fun hc92 => ?_) (fun hc92 => ?_)
          · have hjl : j < ul.length := by simpa using hc92
            obtain ⟨⟨kk, x⟩, hp⟩ : ∃ p, ul[j]? = some p := ⟨ul[j], by simp [hjl]⟩
            obtain ⟨tb0, to0, xv, hq14, htb, hkk, hrt, hox⟩ := h14e j kk x hp
            have hgp : gu[j]? = some (kk, wholeS x) := by rw [hgul, List.getElem?_map, hp]; rfl
            obtain ⟨ub, uo, gxv, hguq, hub, hkk2, hru, hogx⟩ := hgue j kk (wholeS x) hgp
            have hgj : j < gu.length := by omega
            have hox2 := hox.kept hf14 (by simp) (fun _ h => h)
            refine wp_skip ?_
            refine hK91 a90 w88 ?_
            refine wp_seq_k fun K93 hK93 => ?_
            refine wp_blockT ?_
            refine wS fun K94 hK94 => ?_
            refine wC (wMv (v := .int .i64 (j : Int)) (eK g90_92) ?_)
            refine wC (wp_ixN (b := tb0) (o := to0) (i := j) hs_T24 (by rw [eTm, nZ (by decide), g90_90, hq14]) (eK g90_92) hjl ?_)
            refine wC (wp_loadFlat (cs := [.int .u32 ((kk : Nat) : Int), xv]) (b := tb0) (o := to0 + j * 2) hFlT65 rfl (eS hz90) ((hf14.tr (Fr.refl [] w88)).range hrt .nil) ?_)
            rw [wCo]
            have hgt95 := hf14.size
            have hgu96 := hS14
            have hgs97 := hfl2.size
            have hgs98 := (Fr.refl [] w88).size
            refine wp_allocL hFlT65 ?_
            rintro w99 f99 sz99 r99 th99
            have hF100 : Fr [] w w99 := hfl2.tr f99
            have hL100_w88 : Fr [] w88 w99 := (Fr.refl [] w88).tr f99
            have rb101 := f99.range hb92 .nil
            refine wC (wAs (v := .int .i64 (j : Int)) (eS hz90) ?_)
            refine wC (wp_storeL (cs := [.int .u32 ((kk : Nat) : Int), xv]) (o := 0) hFlT65 rfl (eS hz90) (eS hz90) (by intro u hu; simp at hu; rcases hu with rfl | rfl <;> first | rfl | exact hox.one) th99 ?_)
            rintro w102 f102 sz102 r102 th102
            have hF102 : Fr [] w w102 := hF100.trans f102 (fun r hr => .inl (by simp at hr; subst hr; have := hfl2.size; simp only; omega))
            have rb103 := f102.range rb101 (.cons (.inl (by simp only; omega)) .nil)
            have hL102_w88 : Fr [] w88 w102 := hL100_w88.trans f102 (fun r hr => .inl (by simp at hr; subst hr; have := (Fr.refl [] w88).size; simp only; omega))
            refine wEn fun a104 ha104 => ?_
            have hz104 := kS ha104 hz90
            have hd104 := kD ha104 hd90
            have g104_9 := kP ha104 g90_9
            have g104_10 := kP ha104 g90_10
            have g104_14 := kP ha104 g90_14
            have g104_15 : get a104 15 = .int .i64 (j : Int) := kG ha104 hz90
            have g104_16 : get a104 16 = .pointer (some ⟨w88.heap.size, 0, none⟩) := kG ha104 hz90
            have g104_90 := kP ha104 g90_90
            have g104_91 := kP ha104 g90_91
            have g104_92 := kP ha104 g90_92
            have hox3 := hox2.kept hL102_w88 (by simp) (fun _ h => h)
            refine hK94 a104 w102 ?_
            refine wp_seq_k fun K105 hK105 => ?_
            refine wp_drawE0 [spC [] (.pointer (some ⟨w2.heap.size, 4, none⟩)), spC [0] (.slice guq gu.length gucap), spC [] (.int .i64 (j : Int)), spC [1, 2] (.pointer (some ⟨ub, uo + j * 2, none⟩)), spC [3] (.pointer (some ⟨ub, uo + j * 2, none⟩)), spC [4] (.int .u32 ((kk : Nat) : Int)), spC [] (.pointer (some ⟨w88.heap.size, 0, none⟩)), spC [6] (.int .u32 ((kk : Nat) : Int)), spC [5, 7] (.bool false), spC [8] (.bool false), spC [9] (.pointer (some ⟨w2.heap.size, 4, none⟩)), spC [9, 10] (.slice guq gu.length gucap), spC [9] (.int .i64 (j : Int)), spC [9, 11, 12] (.pointer (some ⟨ub, uo + j * 2, none⟩)), spC [9, 13] (.pointer (some ⟨ub, uo + j * 2 + 1, none⟩)), spC [9, 14] (gxv), spC [9] (.pointer (some ⟨w88.heap.size, 1, none⟩)), spC [9, 16] (xv), spR [9, 17] (fun y w' => OctE w' (fun b => b < w74.heap.size) y (wholeS x)), spR [9, 15, 18] (fun x w' => x = .bool true), spC [9, 19] (.bool false), spC [9, 20] (.bool false)] 97 [] hmx he21 (by simp [shape]) (by simp [spC, spR]) (by simp; omega) ⟨lCc _ _ _, lCc _ _ _, lCc _ _ _, lCc _ _ _, lCc _ _ _, lCc _ _ _, lCc _ _ _, lCc _ _ _, lCc _ _ _, lCc _ _ _, lCc _ _ _, lCc _ _ _, lCc _ _ _, lCc _ _ _, lCc _ _ _, lCc _ _ _, lCc _ _ _, lCc _ _ _, (fun v w1 w2 f h => OctE.kept h f (by simp) (fun _ h => h)), (fun v w1 w2 f h => h), lCc _ _ _, lCc _ _ _, trivial⟩ ?_ ?_
            · refine oCs ?_ ?_
              · refine op_c fun a' w' hk' hf' hd' K' hK' => ?_
                refine wFa (b := w2.heap.size) (i := 0) (hFlT26.fld (by decide)) (by rw [eTm, hk'.get 9 (by omega), g104_9]) ?_
                rw [show (0 + 4 : Nat) = 4 from rfl]
                exact hK'
              refine oCs ?_ ?_
              · refine op_c fun a' w' hk' hf' hd' K' hK' => ?_
                refine wp_load0 (j := 4) (v := .slice guq gu.length gucap) hcT24 (by rw [eTm]; exact hd'.c (nd' := []) 0 (by simp) rfl) (hf'.range rb103 .nil) rfl ?_
                exact hK'
              refine oCs ?_ ?_
              · refine op_c fun a' w' hk' hf' hd' K' hK' => ?_
                refine wMv (v := .int .i64 (j : Int)) (by rw [eTm, hk'.get 15 (by omega), g104_15]) ?_
                exact hK'
              refine oCs ?_ ?_
              · refine op_c fun a' w' hk' hf' hd' K' hK' => ?_
                refine wp_ixN (b := ub) (o := uo) (i := j) hs_T24 (by rw [eTm, ← hguq]; exact hd'.c (nd' := [0]) 1 (by simp) rfl) (by rw [eTm]; exact hd'.c (nd' := []) 2 (by simp) rfl) hgj ?_
                exact hK'
              refine oCs ?_ ?_
              · refine op_c fun a' w' hk' hf' hd' K' hK' => ?_
                refine wFa (b := ub) (i := uo + j * 2) (hFlT65.fld (by decide)) (by rw [eTm]; exact hd'.c (nd' := [1, 2]) 3 (by simp) rfl) ?_
                rw [Nat.add_zero]
                exact hK'
              refine oCs ?_ ?_
              · refine op_c fun a' w' hk' hf' hd' K' hK' => ?_
                refine wp_load (b := ub) (o := uo + j * 2) (v := .int .u32 ((kk : Nat) : Int)) hcT63 (by rw [eTm]; exact hd'.c (nd' := [3]) 4 (by simp) rfl) (range_cons.1 ((hF102.tr hf').range hru .nil)).1 ?_
                exact hK'
              refine oCs ?_ ?_
              · refine op_c fun a' w' hk' hf' hd' K' hK' => ?_
                refine wFa (b := w88.heap.size) (i := 0) (hFlT65.fld (by decide)) (by rw [eTm, hk'.get 16 (by omega), g104_16]) ?_
                rw [show (0 + 0 : Nat) = 0 from rfl]
                exact hK'
              refine oCs ?_ ?_
              · refine op_c fun a' w' hk' hf' hd' K' hK' => ?_
                refine wp_load0 (j := 0) (v := .int .u32 ((kk : Nat) : Int)) hcT63 (by rw [eTm]; exact hd'.c (nd' := []) 6 (by simp) rfl) (hf'.range r102 .nil) rfl ?_
                exact hK'
              refine oCs ?_ ?_
              · refine op_c fun a' w' hk' hf' hd' K' hK' => ?_
                refine wp_neqF (k1 := .u32) (i := ((kk : Nat) : Int)) (j := ((kk : Nat) : Int)) (by exact rfl) (by rw [eTm]; exact hd'.c (nd' := [4]) 5 (by simp) rfl) (by rw [eTm]; exact hd'.c (nd' := [6]) 7 (by simp) rfl) ?_
                exact hK'
              refine oCs ?_ ?_
              · refine op_c fun a' w' hk' hf' hd' K' hK' => ?_
                refine wMv (v := .bool false) (by rw [eTm]; exact hd'.c (nd' := [5, 7]) 8 (by simp) rfl) ?_
                exact hK'
              refine oCs ?_ ?_
              · refine op_gy rfl (by decide) (fun a w h => h.c (nd' := [8]) 9 (by simp [spC, spR]) rfl) ?_
                refine op_c fun a' w' hk' hf' hd' K' hK' => ?_
                refine wFa (b := w2.heap.size) (i := 0) (hFlT26.fld (by decide)) (by rw [eTm, hk'.get 9 (by omega), g104_9]) ?_
                rw [show (0 + 4 : Nat) = 4 from rfl]
                exact hK'
              refine oCs ?_ ?_
              · refine op_gy rfl (by decide) (fun a w h => h.c (nd' := [8]) 9 (by simp [spC, spR]) rfl) ?_
                refine op_c fun a' w' hk' hf' hd' K' hK' => ?_
                refine wp_load0 (j := 4) (v := .slice guq gu.length gucap) hcT24 (by rw [eTm]; exact hd'.c (nd' := [9]) 10 (by simp) rfl) (hf'.range rb103 .nil) rfl ?_
                exact hK'
              refine oCs ?_ ?_
              · refine op_gy rfl (by decide) (fun a w h => h.c (nd' := [8]) 9 (by simp [spC, spR]) rfl) ?_
                refine op_c fun a' w' hk' hf' hd' K' hK' => ?_
                refine wMv (v := .int .i64 (j : Int)) (by rw [eTm, hk'.get 15 (by omega), g104_15]) ?_
                exact hK'
              refine oCs ?_ ?_
              · refine op_gy rfl (by decide) (fun a w h => h.c (nd' := [8]) 9 (by simp [spC, spR]) rfl) ?_
                refine op_c fun a' w' hk' hf' hd' K' hK' => ?_
                refine wp_ixN (b := ub) (o := uo) (i := j) hs_T24 (by rw [eTm, ← hguq]; exact hd'.c (nd' := [9, 10]) 11 (by simp) rfl) (by rw [eTm]; exact hd'.c (nd' := [9]) 12 (by simp) rfl) hgj ?_
                exact hK'
              refine oCs ?_ ?_
              · refine op_gy rfl (by decide) (fun a w h => h.c (nd' := [8]) 9 (by simp [spC, spR]) rfl) ?_
                refine op_c fun a' w' hk' hf' hd' K' hK' => ?_
                refine wFa (b := ub) (i := uo + j * 2) (hFlT65.fld (by decide)) (by rw [eTm]; exact hd'.c (nd' := [9, 11, 12]) 13 (by simp) rfl) ?_
                exact hK'
              refine oCs ?_ ?_
              · refine op_gy rfl (by decide) (fun a w h => h.c (nd' := [8]) 9 (by simp [spC, spR]) rfl) ?_
                refine op_c fun a' w' hk' hf' hd' K' hK' => ?_
                refine wp_load (b := ub) (o := uo + j * 2 + 1) (v := gxv) hcT22 (by rw [eTm]; exact hd'.c (nd' := [9, 13]) 14 (by simp) rfl) (range_one.1 (range_cons.1 ((hF102.tr hf').range hru .nil)).2) ?_
                exact hK'
              refine oCs ?_ ?_
              · refine op_gy rfl (by decide) (fun a w h => h.c (nd' := [8]) 9 (by simp [spC, spR]) rfl) ?_
                refine op_c fun a' w' hk' hf' hd' K' hK' => ?_
                refine wFa (b := w88.heap.size) (i := 0) (hFlT65.fld (by decide)) (by rw [eTm, hk'.get 16 (by omega), g104_16]) ?_
                rw [show (0 + 1 : Nat) = 1 from rfl]
                exact hK'
              refine oCs ?_ ?_
              · refine op_gy rfl (by decide) (fun a w h => h.c (nd' := [8]) 9 (by simp [spC, spR]) rfl) ?_
                refine op_c fun a' w' hk' hf' hd' K' hK' => ?_
                refine wp_load0 (j := 1) (v := xv) hcT22 (by rw [eTm]; exact hd'.c (nd' := [9]) 16 (by simp) rfl) (hf'.range r102 .nil) rfl ?_
                exact hK'
              refine oCs ?_ ?_
              · refine op_gy rfl (by decide) (fun a w h => h.c (nd' := [8]) 9 (by simp [spC, spR]) rfl) ?_
                refine op_r fun a' w' hk' hf' hd' K' hK' => ?_
                refine wCr (R := fun y wz => OctE wz (fun b => b < w74.heap.size) y (wholeS x) ∧ w' = wz) (vs := #[xv]) hWh.enters (by simp only [List.map_toArray, List.map_cons, List.map_nil]; rw [show a'.eval (.tmp 114) = xv from (by rw [eTm]; exact hd'.c (nd' := [9, 16]) 17 (by simp) rfl)]) ((hWh.call w' _ xv x (hox3.kept hf' (by simp) (fun _ h => h))).mono (by rintro e wz ⟨y, rfl, h1, rfl⟩; exact ⟨y, rfl, h1, rfl⟩)) ?_
                rintro x106 _ ⟨hx106, rfl⟩
                exact hK' x106 _ hx106 (Fr.refl [] _)
              refine oCs ?_ ?_
              · refine op_gy rfl (by decide) (fun a w h => h.c (nd' := [8]) 9 (by simp [spC, spR]) rfl) ?_
                refine op_r fun a' w' hk' hf' hd' K' hK' => ?_
                have hxo : OctE w' (fun b => b < w74.heap.size) (get a' 115) (wholeS x) := hd'.at (d := 18) (by simp) rfl
                refine wCr (R := fun x wz => x = .bool true ∧ Fr [] w' wz) (vs := #[gxv, get a' 115]) hSa.enters (by simp only [List.map_toArray, List.map_cons, List.map_nil, eTm]; rw [hd'.c (nd' := [9, 14]) 15 (by simp) rfl]) ((hSa.call w' _ _ _ _ _ (hogx.kept (hF102.tr hf') (by simp) (fun _ h => h)) hxo).mono (by rintro e wz ⟨rfl, h⟩; exact ⟨_, rfl, rfl, h⟩)) ?_
                rintro _ w107 ⟨rfl, fr107⟩
                exact hK' _ w107 rfl fr107
              refine oCs ?_ ?_
              · refine op_gy rfl (by decide) (fun a w h => h.c (nd' := [8]) 9 (by simp [spC, spR]) rfl) ?_
                refine op_c fun a' w' hk' hf' hd' K' hK' => ?_
                have hbt : get a' 116 = .bool true := hd'.at (d := 19) (by simp) rfl
                refine wp_not (b := true) (by rw [eTm]; exact hbt) ?_
                rw [show (!true) = false from rfl]
                exact hK'
              refine oCs ?_ ?_
              · refine op_c fun a' w' hk' hf' hd' K' hK' => ?_
                refine wp_pickNo (v := .bool false) (by rw [eTm]; exact hd'.c (nd' := [8]) 9 (by simp) rfl) (by rw [eTm]; exact hd'.c (nd' := [9, 19]) 20 (by simp) rfl) ?_
                exact hK'
              exact opsOk_nil
            intro a108 w108 k108 f108 hd_108
            have g108_9 : get a108 9 = .pointer (some ⟨w2.heap.size, 0, none⟩) := by rw [k108.get 9 (by omega), g104_9]
            have g108_10 : get a108 10 = .bool false := by rw [k108.get 10 (by omega), g104_10]
            have g108_14 : get a108 14 = .slice q14 ul.length c14 := by rw [k108.get 14 (by omega), g104_14]
            have g108_90 : get a108 90 = .slice q14 ul.length c14 := by rw [k108.get 90 (by omega), g104_90]
            have g108_91 : get a108 91 = .int .i64 ((ul.length : Nat) : Int) := by rw [k108.get 91 (by omega), g104_91]
            have g108_92 : get a108 92 = .int .i64 (j : Int) := by rw [k108.get 92 (by omega), g104_92]
            have hz108 : a108.tmps.size = 120 := k108.size.trans hz104
            have hd108 : a108.defers = [] := k108.defers.trans hd104
            have g108_118 : get a108 118 = .bool false := hd_108.c (nd' := [9, 20]) 21 (by simp) rfl
            have hF109 : Fr [] w w108 := hF102.tr f108
            have hL109_w88 : Fr [] w88 w108 := hL102_w88.tr f108
            have rb110 := f108.range rb103 .nil
            have rb111 := f108.range r102 .nil
            refine hK105 a108 w108 ?_
            refine wp_cond_split (t := false) (eK g108_118) (fun h => by cases h) (fun _ => ?_)
            refine wp_skip ?_
            refine hK93 a108 w108 ?_
            refine wp_reg ?_
            refine wC (wp_add (k1 := .i64) (i := (j : Int)) (j := 1) (eK g108_92) rfl ?_)
            rw [show (IntKind.i64.wrap (((j : Int) : Int) + (1 : Int)) : Int) = (((j + 1 : Nat) : Int) : Int) from by simp only [IntKind.wrap, IntKind.bits, IntKind.signed]; simp; omega]
            refine wC (wMv (v := .int .i64 ((j + 1 : Nat) : Int)) (eS hz108) ?_)
            refine wEn fun a113 ha113 => ?_
            have hz113 := kS ha113 hz108
            have hd113 := kD ha113 hd108
            have g113_9 := kP ha113 g108_9
            have g113_10 := kP ha113 g108_10
            have g113_14 := kP ha113 g108_14
            have g113_90 := kP ha113 g108_90
            have g113_91 := kP ha113 g108_91
            have g113_92 : get a113 92 = .int .i64 ((j + 1 : Nat) : Int) := kG ha113 hz108
            exact ⟨m2 - 1, by omega, j + 1, hz113, hd113, g113_9, g113_10, g113_14, g113_90, g113_91, g113_92, by omega, rb110, hF109, hf14.tr hL109_w88⟩
          · refine wp_exit ?_
            show K85 a90 w88
            refine hK85 a90 w88 (tUp ?_)
            refine wT fun K114 hK114 => ?_
            refine wC (wAs (v := .bool true) rfl ?_)
            refine wEn fun a115 ha115 => ?_
            have hz115 := kS ha115 hz90
            have hd115 := kD ha115 hd90
            have g115_10 : get a115 10 = .bool true := kG ha115 hz90
            refine hK114 a115 w88 (tUp ?_)
            refine wp_ret ?_
            exact ⟨hd115, _, rIs hres g115_10, rfl, hfl2⟩
      refine wS fun K116 hK116 => ?_
      refine wC (wMv (v := .bool flex) (eK g78_2) ?_)
      refine wC (wp_not (b := flex) (eS hz78) ?_)
      refine wEn fun a117 ha117 => ?_
      have hz117 := kS ha117 hz78
      have hd117 := kD ha117 hd78
      have g117_0 := kP ha117 g78_0
      have g117_1 := kP ha117 g78_1
      have g117_2 := kP ha117 g78_2
      have g117_3 := kP ha117 g78_3
      have g117_4 := kP ha117 g78_4
      have g117_8 := kP ha117 g78_8
      have g117_9 := kP ha117 g78_9
      have g117_10 := kP ha117 g78_10
      have g117_14 := kP ha117 g78_14
      have g117_22 := kP ha117 g78_22
      have g117_23 := kP ha117 g78_23
      have g117_24 := kP ha117 g78_24
      have g117_25 := kP ha117 g78_25
      have g117_83 : get a117 83 = .bool (!flex) := kG ha117 hz78
      refine hK116 a117 w74 ?_
      refine wp_cond_split (t := !flex) (eK g117_83) (fun hc118 => ?_) (fun hc118 => ?_)
      · have hfx : flex = false := by simpa using hc118
        have htrn : TagsR w74 (fun b => b < w74.heap.size) (.slice none 0 0) ul := .inl ⟨.inl rfl, by rw [hul, hfx]; rfl⟩
        refine wp_reg ?_
        refine wC (wAs (v := .slice none 0 0) rfl ?_)
        refine wEn fun a119 ha119 => ?_
        have hz119 := kS ha119 hz117
        have hd119 := kD ha119 hd117
        have g119_0 := kP ha119 g117_0
        have g119_1 := kP ha119 g117_1
        have g119_2 := kP ha119 g117_2
        have g119_3 := kP ha119 g117_3
        have g119_4 := kP ha119 g117_4
        have g119_8 := kP ha119 g117_8
        have g119_9 := kP ha119 g117_9
        have g119_10 := kP ha119 g117_10
        have g119_14 : get a119 14 = .slice none 0 0 := kG ha119 hz117
        have g119_22 := kP ha119 g117_22
        have g119_23 := kP ha119 g117_23
        have g119_24 := kP ha119 g117_24
        have g119_25 := kP ha119 g117_25
        exact hJ80 a119 w74 ⟨_, hz119, hd119, g119_0, g119_1, g119_2, g119_3, g119_4, g119_8, g119_9, g119_10, g119_14, g119_22, g119_23, g119_24, g119_25, htrn, rb77, hF75, (Fr.refl [] w74).size⟩
      · have hfx : flex = true := by simpa using hc118
        have htrf : TagsR w74 (fun b => b < w74.heap.size) x74 ul := by rw [hul, hfx]; exact hus.kept (Fr.refl [] w74) (by simp) (fun _ h => h)
        refine wp_skip ?_
        exact hJ80 a117 w74 ⟨_, hz117, hd117, g117_0, g117_1, g117_2, g117_3, g117_4, g117_8, g117_9, g117_10, g117_14, g117_22, g117_23, g117_24, g117_25, htrf, rb77, hF75, (Fr.refl [] w74).size⟩
end Go.Kq

namespace Go.Kq
open Go Go.Proofs
structure FlexM (P : Program) (f : FuncId) : Prop where
  enters : Enters P f
  call : ∀ (w : World) (fsv : Value) (fx ver : Int), fsv.oneCell' = true → Calls P f #[.agg ([fsv, .int .i64 fx] : List Value).toArray, .int .i64 ver] w fun e w' => e = .returned (.bool (decide (fx ≥ 0) && decide (ver ≥ fx))) ∧ Fr [] w w'
theorem flex_m {P : Program} {f : FuncId} {fn : Func} {T3 T31 : TypeId} {i0 i1 : Nat} {t0 t1 t2 t3 t4 t5 t6 t7 t8 t9 t10 t11 : TypeId} {p0 p1 p2 p3 p4 p5 p6 p7 p8 p9 p10 p11 : String} {e0 e1 e2 e3 e4 e5 e6 e7 e8 e9 e10 e11 : Array Edge} 
    (hf : P.funcs[f]? = some fn) (hname : (fn.name == "runtime.NumGoroutine") = false) (hres : fn.results = #[.tmp 4]) (hN : fn.ntmps = 14)
    (hbody : fn.body = some (.seq (Code.region i0 ⟨[⟨some 2, .box T31 (.tmp 0), t0, p0, e0, none⟩,
    ⟨some 4, .assign (.const (.bool false)), t1, p1, e1, none⟩]⟩ false)
  (.seq (Code.region i1 ⟨[⟨some 5, .fieldAddr T31 (.tmp 2) 1, t2, p2, e2, none⟩,
    ⟨some 6, .load T3 (.tmp 5), t3, p3, e3, none⟩,
    ⟨some 7, .binOp .geq T3 (.tmp 6) (.const (.int .i64 0)) T3, t4, p4, e4, none⟩,
    ⟨some 8, .move (.tmp 7), t5, p5, e5, none⟩,
    ⟨some 9, .move (.tmp 1), t6, p6, e6, some (3, true)⟩,
    ⟨some 10, .fieldAddr T31 (.tmp 2) 1, t7, p7, e7, some (3, true)⟩,
    ⟨some 11, .load T3 (.tmp 10), t8, p8, e8, some (3, true)⟩,
    ⟨some 12, .binOp .geq T3 (.tmp 9) (.tmp 11) T3, t9, p9, e9, some (3, true)⟩,
    ⟨some 13, .pick (.tmp 8) (.tmp 12) (.const (.bool false)), t10, p10, e10, none⟩,
    ⟨some 4, .assign (.tmp 13), t11, p11, e11, none⟩]⟩ false)
  .ret)))
    (hFlT31 : Flat P T31 zM) (hcT3 : scal P T3 = true)  : FlexM P f := by
  refine ⟨enters_of hf hname hbody, ?_⟩
  intro w fsv fx ver hfs1
  by_cases h1 : fx ≥ 0; by_cases h2 : ver ≥ fx
  · have hfl : (decide (fx ≥ 0) && decide (ver ≥ fx)) = true := by simp [h1, h2]
    rw [hfl]
    refine calls_of_wp hf hbody ?_
    generalize ha0 : ({ tmps := #[Value.agg ([fsv, .int .i64 fx] : List Value).toArray, Value.int .i64 ver] ++ Array.replicate (fn.ntmps - (#[Value.agg ([fsv, .int .i64 fx] : List Value).toArray, Value.int .i64 ver] : Array Value).size) undef, defers := [] } : Act) = a0
    have hz0 : a0.tmps.size = 14 := by subst ha0; simp [hN]
    have hd0 : a0.defers = [] := by subst ha0; rfl
    have g0_0 : get a0 0 = .agg ([fsv, .int .i64 fx] : List Value).toArray := by subst ha0; exact gAr rfl
    have g0_1 : get a0 1 = .int .i64 ver := by subst ha0; exact gAr rfl
    refine wT fun K1 hK1 => ?_
    refine wC (wp_boxL (cs := [fsv, .int .i64 fx]) (eK g0_0) ?_)
    rintro w2 f2 sz2 r2 th2
    have hF3 : Fr [] w w2 := f2
    refine wC (wAs (v := .bool false) rfl ?_)
    refine wEn fun a4 ha4 => ?_
    have hz4 := kS ha4 hz0
    have hd4 := kD ha4 hd0
    have g4_1 := kP ha4 g0_1
    have g4_2 : get a4 2 = .pointer (some ⟨w.heap.size, 0, none⟩) := kG ha4 hz0
    refine hK1 a4 w2 (tUp ?_)
    refine then_id (wp_seq_k fun K5 hK5 => ?_)
    refine wp_regG ?_
    refine wg_cons ?_
    refine wFa (b := w.heap.size) (i := 0) (hFlT31.fld (by decide)) (eK g4_2) ?_
    rw [show (0 + 1 : Nat) = 1 from rfl]
    refine wg_cons ?_
    refine wp_load0 (j := 1) (v := .int .i64 fx) hcT3 (eS hz4) r2 rfl ?_
    refine wg_cons ?_
    refine wp_geqT (k1 := .i64) (i := fx) (j := 0) h1 (eS hz4) rfl ?_
    refine wg_cons ?_
    refine wMv (v := .bool true) (eS hz4) ?_
    refine wg_yes (dj := 8) rfl (lZ hz4) (gS hz4) ?_
    refine wMv (v := .int .i64 ver) (eK g4_1) ?_
    refine wg_yes (dj := 8) rfl (lZ hz4) (gS hz4) ?_
    refine wFa (b := w.heap.size) (i := 0) (hFlT31.fld (by decide)) (eK g4_2) ?_
    rw [show (0 + 1 : Nat) = 1 from rfl]
    refine wg_yes (dj := 8) rfl (lZ hz4) (gS hz4) ?_
    refine wp_load0 (j := 1) (v := .int .i64 fx) hcT3 (eS hz4) r2 rfl ?_
    refine wg_yes (dj := 8) rfl (lZ hz4) (gS hz4) ?_
    refine wp_geqT (k1 := .i64) (i := ver) (j := fx) h2 (eS hz4) (eS hz4) ?_
    refine wg_cons ?_
    refine wp_pickYes (v := .bool true) (eS hz4) (eS hz4) ?_
    refine wg_cons ?_
    refine wAs (v := .bool true) (eS hz4) ?_
    refine wg_end fun a6 ha6 => ?_
    have hz6 := kS ha6 hz4
    have hd6 := kD ha6 hd4
    have g6_4 : get a6 4 = .bool true := kG ha6 hz4
    refine hK5 a6 w2 (tUp ?_)
    refine wp_ret ?_
    exact ⟨hd6, _, rIs hres g6_4, rfl, hF3⟩
  · have hfl : (decide (fx ≥ 0) && decide (ver ≥ fx)) = false := by simp [h1, h2]
    rw [hfl]
    refine calls_of_wp hf hbody ?_
    generalize ha0 : ({ tmps := #[Value.agg ([fsv, .int .i64 fx] : List Value).toArray, Value.int .i64 ver] ++ Array.replicate (fn.ntmps - (#[Value.agg ([fsv, .int .i64 fx] : List Value).toArray, Value.int .i64 ver] : Array Value).size) undef, defers := [] } : Act) = a0
    have hz0 : a0.tmps.size = 14 := by subst ha0; simp [hN]
    have hd0 : a0.defers = [] := by subst ha0; rfl
    have g0_0 : get a0 0 = .agg ([fsv, .int .i64 fx] : List Value).toArray := by subst ha0; exact gAr rfl
    have g0_1 : get a0 1 = .int .i64 ver := by subst ha0; exact gAr rfl
    refine wT fun K1 hK1 => ?_
    refine wC (wp_boxL (cs := [fsv, .int .i64 fx]) (eK g0_0) ?_)
    rintro w2 f2 sz2 r2 th2
    have hF3 : Fr [] w w2 := f2
    refine wC (wAs (v := .bool false) rfl ?_)
    refine wEn fun a4 ha4 => ?_
    have hz4 := kS ha4 hz0
    have hd4 := kD ha4 hd0
    have g4_1 := kP ha4 g0_1
    have g4_2 : get a4 2 = .pointer (some ⟨w.heap.size, 0, none⟩) := kG ha4 hz0
    refine hK1 a4 w2 (tUp ?_)
    refine then_id (wp_seq_k fun K5 hK5 => ?_)
    refine wp_regG ?_
    refine wg_cons ?_
    refine wFa (b := w.heap.size) (i := 0) (hFlT31.fld (by decide)) (eK g4_2) ?_
    rw [show (0 + 1 : Nat) = 1 from rfl]
    refine wg_cons ?_
    refine wp_load0 (j := 1) (v := .int .i64 fx) hcT3 (eS hz4) r2 rfl ?_
    refine wg_cons ?_
    refine wp_geqT (k1 := .i64) (i := fx) (j := 0) h1 (eS hz4) rfl ?_
    refine wg_cons ?_
    refine wMv (v := .bool true) (eS hz4) ?_
    refine wg_yes (dj := 8) rfl (lZ hz4) (gS hz4) ?_
    refine wMv (v := .int .i64 ver) (eK g4_1) ?_
    refine wg_yes (dj := 8) rfl (lZ hz4) (gS hz4) ?_
    refine wFa (b := w.heap.size) (i := 0) (hFlT31.fld (by decide)) (eK g4_2) ?_
    rw [show (0 + 1 : Nat) = 1 from rfl]
    refine wg_yes (dj := 8) rfl (lZ hz4) (gS hz4) ?_
    refine wp_load0 (j := 1) (v := .int .i64 fx) hcT3 (eS hz4) r2 rfl ?_
    refine wg_yes (dj := 8) rfl (lZ hz4) (gS hz4) ?_
    refine wp_geqF (k1 := .i64) (i := ver) (j := fx) h2 (eS hz4) (eS hz4) ?_
    refine wg_cons ?_
    refine wp_pickYes (v := .bool false) (eS hz4) (eS hz4) ?_
    refine wg_cons ?_
    refine wAs (v := .bool false) (eS hz4) ?_
    refine wg_end fun a6 ha6 => ?_
    have hz6 := kS ha6 hz4
    have hd6 := kD ha6 hd4
    have g6_4 : get a6 4 = .bool false := kG ha6 hz4
    refine hK5 a6 w2 (tUp ?_)
    refine wp_ret ?_
    exact ⟨hd6, _, rIs hres g6_4, rfl, hF3⟩
  · have hfl : (decide (fx ≥ 0) && decide (ver ≥ fx)) = false := by simp [h1]
    rw [hfl]
    refine calls_of_wp hf hbody ?_
    generalize ha0 : ({ tmps := #[Value.agg ([fsv, .int .i64 fx] : List Value).toArray, Value.int .i64 ver] ++ Array.replicate (fn.ntmps - (#[Value.agg ([fsv, .int .i64 fx] : List Value).toArray, Value.int .i64 ver] : Array Value).size) undef, defers := [] } : Act) = a0
    have hz0 : a0.tmps.size = 14 := by subst ha0; simp [hN]
    have hd0 : a0.defers = [] := by subst ha0; rfl
    have g0_0 : get a0 0 = .agg ([fsv, .int .i64 fx] : List Value).toArray := by subst ha0; exact gAr rfl
    have g0_1 : get a0 1 = .int .i64 ver := by subst ha0; exact gAr rfl
    refine wT fun K1 hK1 => ?_
    refine wC (wp_boxL (cs := [fsv, .int .i64 fx]) (eK g0_0) ?_)
    rintro w2 f2 sz2 r2 th2
    have hF3 : Fr [] w w2 := f2
    refine wC (wAs (v := .bool false) rfl ?_)
    refine wEn fun a4 ha4 => ?_
    have hz4 := kS ha4 hz0
    have hd4 := kD ha4 hd0
    have g4_1 := kP ha4 g0_1
    have g4_2 : get a4 2 = .pointer (some ⟨w.heap.size, 0, none⟩) := kG ha4 hz0
    refine hK1 a4 w2 (tUp ?_)
    refine then_id (wp_seq_k fun K5 hK5 => ?_)
    refine wp_regG ?_
    refine wg_cons ?_
    refine wFa (b := w.heap.size) (i := 0) (hFlT31.fld (by decide)) (eK g4_2) ?_
    rw [show (0 + 1 : Nat) = 1 from rfl]
    refine wg_cons ?_
    refine wp_load0 (j := 1) (v := .int .i64 fx) hcT3 (eS hz4) r2 rfl ?_
    refine wg_cons ?_
    refine wp_geqF (k1 := .i64) (i := fx) (j := 0) h1 (eS hz4) rfl ?_
    refine wg_cons ?_
    refine wMv (v := .bool false) (eS hz4) ?_
    refine wg_noT (dj := 8) rfl (lZ hz4) (gS hz4) ?_
    refine wg_noT (dj := 8) rfl (lZ hz4) (gS hz4) ?_
    refine wg_noT (dj := 8) rfl (lZ hz4) (gS hz4) ?_
    refine wg_noT (dj := 8) rfl (lZ hz4) (gS hz4) ?_
    refine wg_cons ?_
    refine wp_pickNo (v := .bool false) (eS hz4) rfl ?_
    refine wg_cons ?_
    refine wAs (v := .bool false) (eS hz4) ?_
    refine wg_end fun a6 ha6 => ?_
    have hz6 := kS ha6 hz4
    have hd6 := kD ha6 hd4
    have g6_4 : get a6 4 = .bool false := kG ha6 hz4
    refine hK5 a6 w2 (tUp ?_)
    refine wp_ret ?_
    exact ⟨hd6, _, rIs hres g6_4, rfl, hF3⟩
theorem lawt_m {P : Program} {f : FuncId} {fn : Func} {T3 T4 T26 T29 T31 T37 : TypeId} {f4 f5 f6 f7 f8 f9 f10 f11 f12 : FuncId} {a0 : Array TypeId} {a1 : Array TypeId} {a2 : Array TypeId} {a3 : Array TypeId} {a4 : Array TypeId} {a5 : Array TypeId} {a6 : Array TypeId} {a7 : Array TypeId} {a8 : Array TypeId} {i0 i1 i2 i3 i4 i5 i6 i7 i8 : Nat} {t0 t1 t2 t3 t4 t5 t6 t7 t8 t9 t10 t11 t12 t13 t14 t15 t16 t17 t18 t19 t20 t21 t22 t23 t24 t25 t26 t27 t28 t29 t30 t31 t32 t33 t34 t35 t36 t37 t38 t39 t40 t41 t42 t43 : TypeId} {p0 p1 p2 p3 p4 p5 p6 p7 p8 p9 p10 p11 p12 p13 p14 p15 p16 p17 p18 p19 p20 p21 p22 p23 p24 p25 p26 p27 p28 p29 p30 p31 p32 p33 p34 p35 p36 p37 p38 p39 p40 p41 p42 p43 : String} {e0 e1 e2 e3 e4 e5 e6 e7 e8 e9 e10 e11 e12 e13 e14 e15 e16 e17 e18 e19 e20 e21 e22 e23 e24 e25 e26 e27 e28 e29 e30 e31 e32 e33 e34 e35 e36 e37 e38 e39 e40 e41 e42 e43 : Array Edge} {ge mx : Nat} {fx : Int} {fs : List Fd} {enc : Int → Bool → T → List UInt8} {res : Int → List UInt8 → T × Bool} {R : Int → Bool → T → T → Prop} {small : T → Prop}
    (hf : P.funcs[f]? = some fn) (hname : (fn.name == "runtime.NumGoroutine") = false) (hres' : fn.results = #[.tmp 4]) (hN : fn.ntmps = 42)
    (hbody : fn.body = some (.seq (Code.region i0 ⟨[⟨some 3, .box T26 (.tmp 1), t0, p0, e0, none⟩,
    ⟨some 4, .assign (.const (.bool false)), t1, p1, e1, none⟩]⟩ false)
  (.seq (.seq (Code.region i1 ⟨[⟨some 10, .load T26 (.tmp 3), t2, p2, e2, none⟩,
    ⟨some 11, .call ⟨.value (.func f4), #[(.tmp 10)], a0⟩, t3, p3, e3, none⟩,
    ⟨some 12, .unOp .not T4 (.tmp 11), t4, p4, e4, none⟩]⟩ false)
  (.cond (.tmp 12) (.seq (Code.region i2 ⟨[⟨some 4, .assign (.const (.bool true)), t5, p5, e5, none⟩]⟩ false)
  .ret)
  .skip))
  (.seq (Code.region i3 ⟨[⟨some 13, .call ⟨.value (.func f5), #[], a1⟩, t6, p6, e6, none⟩,
    ⟨some 5, .assign (.tmp 13), t7, p7, e7, none⟩]⟩ false)
  (.seq (.seq (Code.region i4 ⟨[⟨some 14, .move (.tmp 5), t8, p8, e8, none⟩,
    ⟨some 15, .binOp .lss T3 (.tmp 14) (.const (.int .i64 0)) T3, t9, p9, e9, none⟩]⟩ false)
  (.cond (.tmp 15) (.seq (Code.region i5 ⟨[⟨some 4, .assign (.const (.bool false)), t10, p10, e10, none⟩]⟩ false)
  .ret)
  .skip))
  (.seq (Code.region i6 ⟨[⟨some 16, .call ⟨.value (.func f6), #[], a2⟩, t11, p11, e11, none⟩,
    ⟨some 17, .move (.tmp 0), t12, p12, e12, none⟩,
    ⟨some 18, .move (.tmp 5), t13, p13, e13, none⟩,
    ⟨some 19, .call ⟨.value (.func f7), #[(.tmp 17), (.tmp 18)], a3⟩, t14, p14, e14, none⟩,
    ⟨some 6, .alloc T31, t15, p15, e15, none⟩,
    ⟨none, .store T31 (.tmp 6) (.tmp 16), t16, p16, e16, none⟩,
    ⟨some 7, .assign (.tmp 19), t17, p17, e17, none⟩]⟩ false)
  (.seq (Code.region i7 ⟨[⟨some 21, .move (.tmp 7), t18, p18, e18, none⟩,
    ⟨some 22, .load T31 (.tmp 6), t19, p19, e19, none⟩,
    ⟨some 23, .move (.tmp 7), t20, p20, e20, none⟩,
    ⟨some 24, .load T26 (.tmp 3), t21, p21, e21, none⟩,
    ⟨some 25, .call ⟨.value (.func f9), #[(.tmp 22), (.tmp 23), (.tmp 24)], a4⟩, t22, p22, e22, none⟩,
    ⟨some 26, .call ⟨.value (.func f8), #[(.tmp 21), (.tmp 25)], a5⟩, t23, p23, e23, none⟩,
    ⟨some 20, .move (.tmp 26), t24, p24, e24, none⟩,
    ⟨some 27, .extract (.tmp 20) 0, t25, p25, e25, none⟩,
    ⟨some 28, .extract (.tmp 20) 1, t26, p26, e26, none⟩,
    ⟨some 8, .alloc T37, t27, p27, e27, none⟩,
    ⟨none, .store T37 (.tmp 8) (.tmp 27), t28, p28, e28, none⟩,
    ⟨some 9, .assign (.tmp 28), t29, p29, e29, none⟩]⟩ false)
  (.seq (Code.region i8 ⟨[⟨some 29, .move (.tmp 9), t30, p30, e30, none⟩,
    ⟨some 30, .move (.tmp 29), t31, p31, e31, none⟩,
    ⟨some 31, .fieldAddr T31 (.tmp 6) 0, t32, p32, e32, some (1, true)⟩,
    ⟨some 32, .load T29 (.tmp 31), t33, p33, e33, some (1, true)⟩,
    ⟨some 33, .move (.tmp 7), t34, p34, e34, some (1, true)⟩,
    ⟨some 34, .load T31 (.tmp 6), t35, p35, e35, some (1, true)⟩,
    ⟨some 35, .move (.tmp 7), t36, p36, e36, some (1, true)⟩,
    ⟨some 36, .call ⟨.value (.func f11), #[(.tmp 34), (.tmp 35)], a6⟩, t37, p37, e37, some (1, true)⟩,
    ⟨some 37, .load T26 (.tmp 3), t38, p38, e38, some (1, true)⟩,
    ⟨some 38, .load T37 (.tmp 8), t39, p39, e39, some (1, true)⟩,
    ⟨some 39, .call ⟨.value (.func f12), #[(.tmp 38)], a7⟩, t40, p40, e40, some (1, true)⟩,
    ⟨some 40, .call ⟨.value (.func f10), #[(.tmp 32), (.tmp 33), (.tmp 36), (.tmp 37), (.tmp 39)], a8⟩, t41, p41, e41, some (1, true)⟩,
    ⟨some 41, .pick (.tmp 30) (.tmp 40) (.const (.bool false)), t42, p42, e42, none⟩,
    ⟨some 4, .assign (.tmp 41), t43, p43, e43, none⟩]⟩ true)
  .ret))))))))
    (hFlT26 : Flat P T26 zT) (hFlT31 : Flat P T31 zM) (hFlT37 : Flat P T37 zT) (hcT29 : scal P T29 = true) (he8 : edgeOk 0 [e30, e31, e32, e33, e34, e35, e36, e37, e38, e39, e40, e41, e42, e43] [[], [0], [1], [1, 2], [1], [1], [1], [1, 5, 6], [1], [1], [1, 9], [1, 3, 4, 7, 8, 10], [1, 11], [0, 1, 2, 3, 4, 5, 6, 7, 8, 9, 10, 11, 12]] = true) (hmx : P.follows .mixedOrders = true) (hFit : FitM P f4) (hMax : MaxM P f5 mx) (hmb : mx < 32768) (hSch : SchM P f6 fs fx) (hVer : VerM P f7) (hWr : WriteM P f9 fs enc) (hDoor : DoorGM P ge f8 res) (hFlx : FlexM P f11) (hGot : Enters P f12 ∧ ∀ t, GotCall P f12 t) (hTold : ToldM P f10 fs R)
    (hplain : ∀ ver : Int, 0 ≤ ver → ver ≤ mx → ∀ t, small t → (enc ver (decide (fx ≥ 0) && decide (ver ≥ fx)) t).length ≤ 2147483648 ∧ (res ver (enc ver (decide (fx ≥ 0) && decide (ver ≥ fx)) t)).2 = true ∧ R ver (decide (fx ≥ 0) && decide (ver ≥ fx)) t (res ver (enc ver (decide (fx ≥ 0) && decide (ver ≥ fx)) t)).1) : LawT P ge f small := by
  refine ⟨enters_of hf hname hbody, ?_⟩
  intro w n B ct t er ty uer hn ht hB her hiface hsm
  cases t with
  | mk tn s nl l u =>
  have ht0 := ht
  obtain ⟨sv, lv, uv, rfl, hn0, hs, hl, hu⟩ := repT_iff.1 ht
  have hv1 : n % (mx + 1) ≤ mx := by have := Nat.mod_lt n (show 0 < mx + 1 by omega); omega
  obtain ⟨hlen, hok, hdf⟩ := hplain ((n % (mx + 1) : Nat) : Int) (by omega) (by omega) _ hsm
  obtain ⟨rt, hrt⟩ : ∃ x, x = res ((n % (mx + 1) : Nat) : Int) (enc ((n % (mx + 1) : Nat) : Int) (decide (fx ≥ 0) && decide (((n % (mx + 1) : Nat) : Int) ≥ fx)) (.mk tn s nl l u)) := ⟨_, rfl⟩
  rw [← hrt] at hok hdf
  refine calls_of_wp hf hbody ?_
  generalize ha0 : ({ tmps := #[Value.int .u8 (n : Int), Value.agg ([.int .i64 tn, sv, .bool nl, lv, uv] : List Value).toArray] ++ Array.replicate (fn.ntmps - (#[Value.int .u8 (n : Int), Value.agg ([.int .i64 tn, sv, .bool nl, lv, uv] : List Value).toArray] : Array Value).size) undef, defers := [] } : Act) = a0
  have hz0 : a0.tmps.size = 42 := by subst ha0; simp [hN]
  have hd0 : a0.defers = [] := by subst ha0; rfl
  have g0_0 : get a0 0 = .int .u8 (n : Int) := by subst ha0; exact gAr rfl
  have g0_1 : get a0 1 = .agg ([.int .i64 tn, sv, .bool nl, lv, uv] : List Value).toArray := by subst ha0; exact gAr rfl
  refine wT fun K1 hK1 => ?_
  refine wC (wp_boxL (cs := [.int .i64 tn, sv, .bool nl, lv, uv]) (eK g0_1) ?_)
  rintro w2 f2 sz2 r2 th2
  have hF3 : Fr [] w w2 := f2
  refine wC (wAs (v := .bool false) rfl ?_)
  refine wEn fun a4 ha4 => ?_
  have hz4 := kS ha4 hz0
  have hd4 := kD ha4 hd0
  have g4_0 := kP ha4 g0_0
  have g4_3 : get a4 3 = .pointer (some ⟨w.heap.size, 0, none⟩) := kG ha4 hz0
  refine hK1 a4 w2 (tUp ?_)
  refine then_id (wp_seq_k fun K5 hK5 => ?_)
  refine wS fun K6 hK6 => ?_
  refine wC (wp_loadFlat (cs := [.int .i64 tn, sv, .bool nl, lv, uv]) (b := w.heap.size) (o := 0) hFlT26 rfl (eK g4_3) r2 ?_)
  refine wC (wCr (R := fun vz wz => (∃ b : Bool, vz = .bool b) ∧ Fr [] w2 wz) (vs := #[.agg ([.int .i64 tn, sv, .bool nl, lv, uv] : List Value).toArray]) hFit.enters (mX1 (eS hz4)) ((hFit.call w2 B _ _ (ht0.kept hF3 (by simp) (fun _ h => h))).mono (by rintro e wz ⟨⟨b, rfl⟩, h⟩; exact ⟨_, rfl, ⟨b, rfl⟩, h⟩)) ?_)
  rintro _ w7 ⟨⟨bb, rfl⟩, fr7⟩
  have hF8 : Fr [] w w7 := hF3.tr fr7
  have hL8_w2 : Fr [] w2 w7 := (Fr.refl [] w2).tr fr7
  have rb9 := fr7.range r2 .nil
  refine wC (wp_not (b := bb) (eS hz4) ?_)
  refine wEn fun a10 ha10 => ?_
  have hz10 := kS ha10 hz4
  have hd10 := kD ha10 hd4
  have g10_0 := kP ha10 g4_0
  have g10_3 := kP ha10 g4_3
  have g10_12 : get a10 12 = .bool (!bb) := kG ha10 hz4
  refine hK6 a10 w7 ?_
  refine wp_cond_split (t := !bb) (eK g10_12) (fun hc11 => ?_) (fun hc11 => ?_)
  · refine wp_seq_k fun K12 hK12 => ?_
    refine wp_reg ?_
    refine wC (wAs (v := .bool true) rfl ?_)
    refine wEn fun a13 ha13 => ?_
    have hz13 := kS ha13 hz10
    have hd13 := kD ha13 hd10
    have g13_4 : get a13 4 = .bool true := kG ha13 hz10
    refine hK12 a13 w7 ?_
    refine wp_ret ?_
    exact ⟨hd13, _, rIs hres' g13_4, rfl, hF8⟩
  · refine wp_skip ?_
    refine hK5 a10 w7 (tUp ?_)
    refine wT fun K14 hK14 => ?_
    refine wC (wCr (R := fun vz wz => vz = .int .i64 (mx : Int) ∧ Fr [] w7 wz) (vs := #[]) hMax.1 (by simp) ((hMax.2 w7).mono (by rintro e wz ⟨rfl, h⟩; exact ⟨_, rfl, rfl, h⟩)) ?_)
    rintro _ w15 ⟨rfl, fr15⟩
    have hF16 : Fr [] w w15 := hF8.tr fr15
    have hL16_w2 : Fr [] w2 w15 := hL8_w2.tr fr15
    have rb17 := fr15.range rb9 .nil
    refine wC (wAs (v := .int .i64 (mx : Int)) (eS hz10) ?_)
    refine wEn fun a18 ha18 => ?_
    have hz18 := kS ha18 hz10
    have hd18 := kD ha18 hd10
    have g18_0 := kP ha18 g10_0
    have g18_3 := kP ha18 g10_3
    have g18_5 : get a18 5 = .int .i64 (mx : Int) := kG ha18 hz10
    refine hK14 a18 w15 (tUp ?_)
    refine then_id (wp_seq_k fun K19 hK19 => ?_)
    refine wS fun K20 hK20 => ?_
    refine wC (wMv (v := .int .i64 (mx : Int)) (eK g18_5) ?_)
    refine wC (wp_lssF (k1 := .i64) (i := (mx : Int)) (j := 0) (by omega) (eS hz18) rfl ?_)
    refine wEn fun a21 ha21 => ?_
    have hz21 := kS ha21 hz18
    have hd21 := kD ha21 hd18
    have g21_0 := kP ha21 g18_0
    have g21_3 := kP ha21 g18_3
    have g21_5 := kP ha21 g18_5
    have g21_15 : get a21 15 = .bool false := kG ha21 hz18
    refine hK20 a21 w15 ?_
    refine wp_cond_split (t := false) (eK g21_15) (fun h => by cases h) (fun _ => ?_)
    refine wp_skip ?_
    refine hK19 a21 w15 (tUp ?_)
    refine wT fun K23 hK23 => ?_
    refine wC (wCr (R := fun vz wz => ∃ fsv, vz = .agg ([fsv, .int .i64 fx] : List Value).toArray ∧ Fr [] w15 wz ∧ FdsR wz (From w15.heap.size wz) fsv fs) (vs := #[]) hSch.enters (by simp) ((hSch.call w15).mono (by rintro e wz ⟨v, rfl, h⟩; exact ⟨_, rfl, v, rfl, h⟩)) ?_)
    rintro _ w24 ⟨fsv, rfl, fr24, hfs⟩
    have hfs1 := hfs.one
    have hF25 : Fr [] w w24 := hF16.tr fr24
    have hL25_w2 : Fr [] w2 w24 := hL16_w2.tr fr24
    have rb26 := fr24.range rb17 .nil
    refine wC (wMv (v := .int .u8 (n : Int)) (eK g21_0) ?_)
    refine wC (wMv (v := .int .i64 (mx : Int)) (eK g21_5) ?_)
    refine wC (wCr (R := fun vz wz => vz = .int .i64 ((n % (mx + 1) : Nat) : Int) ∧ Fr [] w24 wz) (vs := #[.int .u8 (n : Int), .int .i64 (mx : Int)]) hVer.1 (mX2 (eS hz21) (eS hz21)) ((hVer.2 w24 n mx hn hmb).mono (by rintro e wz ⟨rfl, rfl⟩; exact ⟨_, rfl, rfl, Fr.refl _ _⟩)) ?_)
    rintro _ w27 ⟨rfl, fr27⟩
    have hF28 : Fr [] w w27 := hF25.tr fr27
    have hL28_w2 : Fr [] w2 w27 := hL25_w2.tr fr27
    have hL28_w24 : Fr [] w24 w27 := (Fr.refl [] w24).tr fr27
    have rb29 := fr27.range rb26 .nil
    rw [wCo]
    have hgs30 := hL28_w2.size
    have hgs31 := hL28_w24.size
    have hgs32 := hF28.size
    refine wp_allocL hFlT31 ?_
    rintro w33 f33 sz33 r33 th33
    have hF34 : Fr [] w w33 := hF28.tr f33
    have hL34_w2 : Fr [] w2 w33 := hL28_w2.tr f33
    have hL34_w24 : Fr [] w24 w33 := hL28_w24.tr f33
    have rb35 := f33.range rb29 .nil
    refine wC (wp_storeL (cs := [fsv, .int .i64 fx]) (o := 0) hFlT31 rfl (eS hz21) (eS hz21) (by intro u hu; simp at hu; rcases hu with rfl | rfl; exact hfs1; rfl) th33 ?_)
    rintro w36 f36 sz36 r36 th36
    have hF36 : Fr [] w w36 := hF34.trans f36 (fun r hr => .inl (by simp at hr; subst hr; have := hF28.size; simp only; omega))
    have rb37 := f36.range rb35 (.cons (.inl (by simp only; omega)) .nil)
    have hL36_w2 : Fr [] w2 w36 := hL34_w2.trans f36 (fun r hr => .inl (by simp at hr; subst hr; have := hL28_w2.size; simp only; omega))
    have hL36_w24 : Fr [] w24 w36 := hL34_w24.trans f36 (fun r hr => .inl (by simp at hr; subst hr; have := hL28_w24.size; simp only; omega))
    refine wC (wAs (v := .int .i64 ((n % (mx + 1) : Nat) : Int)) (by rw [eTm, pNo, nZ (by decide), sZ (zZ (zZ (zZ hz21))) (by decide)]) ?_)
    refine wEn fun a38 ha38 => ?_
    have hz38 := kS ha38 hz21
    have hd38 := kD ha38 hd21
    have g38_3 := kP ha38 g21_3
    have g38_6 : get a38 6 = .pointer (some ⟨w27.heap.size, 0, none⟩) := kG ha38 hz21
    have g38_7 : get a38 7 = .int .i64 ((n % (mx + 1) : Nat) : Int) := kG ha38 hz21
    refine hK23 a38 w36 (tUp ?_)
    refine wT fun K39 hK39 => ?_
    refine wC (wMv (v := .int .i64 ((n % (mx + 1) : Nat) : Int)) (eK g38_7) ?_)
    refine wC (wp_loadFlat (cs := [fsv, .int .i64 fx]) (b := w27.heap.size) (o := 0) hFlT31 rfl (eK g38_6) r36 ?_)
    refine wC (wMv (v := .int .i64 ((n % (mx + 1) : Nat) : Int)) (eK g38_7) ?_)
    refine wC (wp_loadFlat (cs := [.int .i64 tn, sv, .bool nl, lv, uv]) (b := w.heap.size) (o := 0) hFlT26 rfl (eK g38_3) rb37 ?_)
    refine wC (wCr (R := fun vz wz => Fr [] w36 wz ∧ Own wz (From w36.heap.size wz) 1 vz (enc ((n % (mx + 1) : Nat) : Int) (decide (fx ≥ 0) && decide (((n % (mx + 1) : Nat) : Int) ≥ fx)) (.mk tn s nl l u)).length (octets (enc ((n % (mx + 1) : Nat) : Int) (decide (fx ≥ 0) && decide (((n % (mx + 1) : Nat) : Int) ≥ fx)) (.mk tn s nl l u)))) (vs := #[.agg ([fsv, .int .i64 fx] : List Value).toArray, .int .i64 ((n % (mx + 1) : Nat) : Int), .agg ([.int .i64 tn, sv, .bool nl, lv, uv] : List Value).toArray]) hWr.enters (mX3 (eS hz38) (eS hz38) (eS hz38)) (calls_fresh (hWr.call w36 _ B ((n % (mx + 1) : Nat) : Int) fx fsv _ _ (hfs.kept hL36_w24 (by simp) (fun _ h => h)) (ht0.kept hF36 (by simp) (fun _ h => h)) (fun b hb => Nat.lt_of_lt_of_le hb.2 hL36_w24.size) (fun b hb => Nat.lt_of_lt_of_le (hB b hb) hF36.size) (by omega))) ?_)
    rintro x40 w40 ⟨fr40, ow40⟩
    have hF41 : Fr [] w w40 := hF36.tr fr40
    have hL41_w2 : Fr [] w2 w40 := hL36_w2.tr fr40
    have hL41_w24 : Fr [] w24 w40 := hL36_w24.tr fr40
    have hL41_w36 : Fr [] w36 w40 := (Fr.refl [] w36).tr fr40
    have rb42 := fr40.range rb37 .nil
    have rb43 := fr40.range r36 .nil
    rw [wCo]
    have hoW : OctE w40 (From w36.heap.size w40) x40 (enc ((n % (mx + 1) : Nat) : Int) (decide (fx ≥ 0) && decide (((n % (mx + 1) : Nat) : Int) ≥ fx)) (.mk tn s nl l u)) := ow40.octE (by omega)
    refine wCr (R := fun vz wz => ∃ dc : List Value, vz = .tuple #[.agg dc.toArray, .bool rt.2] ∧ Fr [] w40 wz ∧ RepT wz (From w40.heap.size wz) dc rt.1) (vs := #[.int .i64 ((n % (mx + 1) : Nat) : Int), x40]) hDoor.enters (mX2 (eS hz38) (eS hz38)) ((hDoor.call w40 _ ((n % (mx + 1) : Nat) : Int) _ (enc ((n % (mx + 1) : Nat) : Int) (decide (fx ≥ 0) && decide (((n % (mx + 1) : Nat) : Int) ≥ fx)) (.mk tn s nl l u)) er ty uer (by omega) (by omega) hoW (by omega) (hF41.cell her .nil) hiface).mono (by rw [← hrt]; rintro e wz ⟨cs, rfl, h⟩; exact ⟨_, rfl, cs, rfl, h⟩)) ?_
    rintro _ w44 ⟨dc, rfl, fr44, hdt⟩
    rw [hok]
    have hdl := hdt.length
    have hdo := hdt.ones
    have hF45 : Fr [] w w44 := hF41.tr fr44
    have hL45_w2 : Fr [] w2 w44 := hL41_w2.tr fr44
    have hL45_w24 : Fr [] w24 w44 := hL41_w24.tr fr44
    have hL45_w36 : Fr [] w36 w44 := hL41_w36.tr fr44
    have rb46 := fr44.range rb42 .nil
    have rb47 := fr44.range rb43 .nil
    refine wC (wMv (v := .tuple #[.agg dc.toArray, .bool true]) (eS hz38) ?_)
    refine wC (wp_extract (vs := #[.agg dc.toArray, .bool true]) (v := .agg dc.toArray) (eS hz38) rfl ?_)
    refine wC (wp_extract (vs := #[.agg dc.toArray, .bool true]) (v := .bool true) (eS hz38) rfl ?_)
    rw [wCo]
    have hgs48 := hL45_w2.size
    have hgs49 := hL45_w24.size
    have hgs50 := hL45_w36.size
    have hgs51 := (Fr.refl [] w44).size
    have hgs52 := hF45.size
    refine wp_allocL hFlT37 ?_
    rintro w53 f53 sz53 r53 th53
    have hF54 : Fr [] w w53 := hF45.tr f53
    have hL54_w24 : Fr [] w24 w53 := hL45_w24.tr f53
    have hL54_w44 : Fr [] w44 w53 := (Fr.refl [] w44).tr f53
    have rb55 := f53.range rb46 .nil
    have rb56 := f53.range rb47 .nil
    refine wC (wp_storeL (cs := dc) (o := 0) hFlT37 hdl (eS hz38) (eS hz38) hdo th53 ?_)
    rintro w57 f57 sz57 r57 th57
    have hF57 : Fr [] w w57 := hF54.trans f57 (fun r hr => .inl (by simp at hr; subst hr; have := hF45.size; simp only; omega))
    have rb58 := f57.range rb55 (.cons (.inl (by simp only; omega)) .nil)
    have rb59 := f57.range rb56 (.cons (.inl (by simp only; omega)) .nil)
    have hL57_w24 : Fr [] w24 w57 := hL54_w24.trans f57 (fun r hr => .inl (by simp at hr; subst hr; have := hL45_w24.size; simp only; omega))
    have hL57_w44 : Fr [] w44 w57 := hL54_w44.trans f57 (fun r hr => .inl (by simp at hr; subst hr; have := (Fr.refl [] w44).size; simp only; omega))
    refine wC (wAs (v := .bool true) (by rw [eTm, pNo, nZ (by decide), sZ (zZ (zZ (zZ (zZ (zZ (zZ (zZ (zZ hz38)))))))) (by decide)]) ?_)
    refine wEn fun a60 ha60 => ?_
    have hz60 := kS ha60 hz38
    have hd60 := kD ha60 hd38
    have g60_3 := kP ha60 g38_3
    have g60_6 := kP ha60 g38_6
    have g60_7 := kP ha60 g38_7
    have g60_8 : get a60 8 = .pointer (some ⟨w44.heap.size, 0, none⟩) := kG ha60 hz38
    have g60_9 : get a60 9 = .bool true := kG ha60 hz38
    refine hK39 a60 w57 (tUp ?_)
    refine then_id (wp_seq_k fun K61 hK61 => ?_)
    have hfs8 := hfs.kept hL57_w24 (by simp) (fun _ h => h)
    have hdt8 := hdt.kept hL57_w44 (by simp) (fun _ h => h)
    refine wp_drawR (os := [⟨some 29, .move (.tmp 9), t30, p30, e30, none⟩, ⟨some 30, .move (.tmp 29), t31, p31, e31, none⟩, ⟨some 31, .fieldAddr T31 (.tmp 6) 0, t32, p32, e32, some (1, true)⟩, ⟨some 32, .load T29 (.tmp 31), t33, p33, e33, some (1, true)⟩, ⟨some 33, .move (.tmp 7), t34, p34, e34, some (1, true)⟩, ⟨some 34, .load T31 (.tmp 6), t35, p35, e35, some (1, true)⟩, ⟨some 35, .move (.tmp 7), t36, p36, e36, some (1, true)⟩, ⟨some 36, .call ⟨.value (.func f11), #[(.tmp 34), (.tmp 35)], a6⟩, t37, p37, e37, some (1, true)⟩, ⟨some 37, .load T26 (.tmp 3), t38, p38, e38, some (1, true)⟩, ⟨some 38, .load T37 (.tmp 8), t39, p39, e39, some (1, true)⟩, ⟨some 39, .call ⟨.value (.func f12), #[(.tmp 38)], a7⟩, t40, p40, e40, some (1, true)⟩, ⟨some 40, .call ⟨.value (.func f10), #[(.tmp 32), (.tmp 33), (.tmp 36), (.tmp 37), (.tmp 39)], a8⟩, t41, p41, e41, some (1, true)⟩, ⟨some 41, .pick (.tmp 30) (.tmp 40) (.const (.bool false)), t42, p42, e42, none⟩]) (rest := [⟨some 4, .assign (.tmp 41), t43, p43, e43, none⟩]) [spC [] (.bool true), spC [0] (.bool true), spC [1] (.pointer (some ⟨w27.heap.size, 0, none⟩)), spC [1, 2] (fsv), spC [1] (.int .i64 ((n % (mx + 1) : Nat) : Int)), spC [1] (.agg ([fsv, .int .i64 fx] : List Value).toArray), spC [1] (.int .i64 ((n % (mx + 1) : Nat) : Int)), spR [1, 5, 6] (fun x w' => x = .bool (decide (fx ≥ 0) && decide (((n % (mx + 1) : Nat) : Int) ≥ fx))), spC [1] (.agg ([.int .i64 tn, sv, .bool nl, lv, uv] : List Value).toArray), spC [1] (.agg (dc).toArray), spR [1, 9] (fun x w' => ∃ gc : List Value, x = .agg gc.toArray ∧ RepT w' (fun b => w40.heap.size ≤ b ∧ b < w'.heap.size) gc rt.1), spR [1, 3, 4, 7, 8, 10] (fun x w' => x = .bool true), spC [1, 11] (.bool true)] 29 [] hmx he8 (by simp [shape]) (by simp [plainO]) (by simp [spC, spR]) (by simp; omega) ⟨lCc _ _ _, lCc _ _ _, lCc _ _ _, lCc _ _ _, lCc _ _ _, lCc _ _ _, lCc _ _ _, (fun v w1 w2 f h => h), lCc _ _ _, lCc _ _ _, (fun v w1 w2 f h => by obtain ⟨gc, h1, h2⟩ := h; exact ⟨gc, h1, h2.kept f (by simp) (fun b hb => ⟨hb.1, Nat.lt_of_lt_of_le hb.2 f.size⟩)⟩), (fun v w1 w2 f h => h), lCc _ _ _, trivial⟩ ?_ ?_
    · refine oCs ?_ ?_
      · refine op_c fun a' w' hk' hf' hd' K' hK' => ?_
        refine wMv (v := .bool true) (by rw [eTm, hk'.get 9 (by omega), g60_9]) ?_
        exact hK'
      refine oCs ?_ ?_
      · refine op_c fun a' w' hk' hf' hd' K' hK' => ?_
        refine wMv (v := .bool true) (by rw [eTm]; exact hd'.c (nd' := []) 0 (by simp) rfl) ?_
        exact hK'
      refine oCs ?_ ?_
      · refine op_gy rfl (by decide) (fun a w h => h.c (nd' := [0]) 1 (by simp [spC, spR]) rfl) ?_
        refine op_c fun a' w' hk' hf' hd' K' hK' => ?_
        refine wFa (b := w27.heap.size) (i := 0) (hFlT31.fld (by decide)) (by rw [eTm, hk'.get 6 (by omega), g60_6]) ?_
        rw [show (0 + 0 : Nat) = 0 from rfl]
        exact hK'
      refine oCs ?_ ?_
      · refine op_gy rfl (by decide) (fun a w h => h.c (nd' := [0]) 1 (by simp [spC, spR]) rfl) ?_
        refine op_c fun a' w' hk' hf' hd' K' hK' => ?_
        refine wp_load0 (j := 0) (v := fsv) hcT29 (by rw [eTm]; exact hd'.c (nd' := [1]) 2 (by simp) rfl) (hf'.range rb59 .nil) rfl ?_
        exact hK'
      refine oCs ?_ ?_
      · refine op_gy rfl (by decide) (fun a w h => h.c (nd' := [0]) 1 (by simp [spC, spR]) rfl) ?_
        refine op_c fun a' w' hk' hf' hd' K' hK' => ?_
        refine wMv (v := .int .i64 ((n % (mx + 1) : Nat) : Int)) (by rw [eTm, hk'.get 7 (by omega), g60_7]) ?_
        exact hK'
      refine oCs ?_ ?_
      · refine op_gy rfl (by decide) (fun a w h => h.c (nd' := [0]) 1 (by simp [spC, spR]) rfl) ?_
        refine op_c fun a' w' hk' hf' hd' K' hK' => ?_
        refine wp_loadFlat (cs := [fsv, .int .i64 fx]) (b := w27.heap.size) (o := 0) hFlT31 rfl (by rw [eTm, hk'.get 6 (by omega), g60_6]) (hf'.range rb59 .nil) ?_
        exact hK'
      refine oCs ?_ ?_
      · refine op_gy rfl (by decide) (fun a w h => h.c (nd' := [0]) 1 (by simp [spC, spR]) rfl) ?_
        refine op_c fun a' w' hk' hf' hd' K' hK' => ?_
        refine wMv (v := .int .i64 ((n % (mx + 1) : Nat) : Int)) (by rw [eTm, hk'.get 7 (by omega), g60_7]) ?_
        exact hK'
      refine oCs ?_ ?_
      · refine op_gy rfl (by decide) (fun a w h => h.c (nd' := [0]) 1 (by simp [spC, spR]) rfl) ?_
        refine op_r fun a' w' hk' hf' hd' K' hK' => ?_
        refine wCr (R := fun vz wz => vz = .bool (decide (fx ≥ 0) && decide (((n % (mx + 1) : Nat) : Int) ≥ fx)) ∧ Fr [] w' wz) (vs := #[.agg ([fsv, .int .i64 fx] : List Value).toArray, .int .i64 ((n % (mx + 1) : Nat) : Int)]) hFlx.enters (by simp only [List.map_toArray, List.map_cons, List.map_nil]; rw [show a'.eval (.tmp 34) = Value.agg ([fsv, .int .i64 fx] : List Value).toArray from (by rw [eTm]; exact hd'.c (nd' := [1]) 5 (by simp) rfl), show a'.eval (.tmp 35) = Value.int .i64 ((n % (mx + 1) : Nat) : Int) from (by rw [eTm]; exact hd'.c (nd' := [1]) 6 (by simp) rfl)]) ((hFlx.call w' fsv fx ((n % (mx + 1) : Nat) : Int) hfs1).mono (by rintro e wz ⟨rfl, h⟩; exact ⟨_, rfl, rfl, h⟩)) ?_
        rintro _ w62 ⟨rfl, fr62⟩
        exact hK' _ w62 rfl fr62
      refine oCs ?_ ?_
      · refine op_gy rfl (by decide) (fun a w h => h.c (nd' := [0]) 1 (by simp [spC, spR]) rfl) ?_
        refine op_c fun a' w' hk' hf' hd' K' hK' => ?_
        refine wp_loadFlat (cs := [.int .i64 tn, sv, .bool nl, lv, uv]) (b := w.heap.size) (o := 0) hFlT26 rfl (by rw [eTm, hk'.get 3 (by omega), g60_3]) (hf'.range rb58 .nil) ?_
        exact hK'
      refine oCs ?_ ?_
      · refine op_gy rfl (by decide) (fun a w h => h.c (nd' := [0]) 1 (by simp [spC, spR]) rfl) ?_
        refine op_c fun a' w' hk' hf' hd' K' hK' => ?_
        refine wp_loadFlat (cs := dc) (b := w44.heap.size) (o := 0) hFlT37 hdl (by rw [eTm, hk'.get 8 (by omega), g60_8]) ((hf'.range r57 .nil)) ?_
        exact hK'
      refine oCs ?_ ?_
      · refine op_gy rfl (by decide) (fun a w h => h.c (nd' := [0]) 1 (by simp [spC, spR]) rfl) ?_
        refine op_r fun a' w' hk' hf' hd' K' hK' => ?_
        refine wCr (R := fun vz wz => ∃ gc : List Value, vz = .agg gc.toArray ∧ Fr [] w' wz ∧ RepT wz (fun b => w40.heap.size ≤ b ∧ b < wz.heap.size) gc rt.1) (vs := #[.agg dc.toArray]) hGot.1 (by simp only [List.map_toArray, List.map_cons, List.map_nil]; rw [show a'.eval (.tmp 38) = Value.agg (dc).toArray from (by rw [eTm]; exact hd'.c (nd' := [1]) 9 (by simp) rfl)]) ((hGot.2 _ w' _ dc (hdt8.kept hf' (by simp) (fun _ h => h)) (fun b hb => by have := hb.2; have := hf'.size; omega)).mono (by rintro e wz ⟨gc, rfl, h1, h2⟩; exact ⟨_, rfl, gc, rfl, h1, h2.kept (Fr.refl [] _) (by simp) (fun b hb => by have q1 := h1.size; have q2 := hf'.size; have q3 := hL57_w44.size; have q4 := fr44.size; rcases hb with ⟨h3, h4⟩ | ⟨h3, h4⟩ <;> exact ⟨by omega, by omega⟩)⟩)) ?_
        rintro _ w63 ⟨gc, rfl, fr63, hg63⟩
        exact hK' _ w63 ⟨gc, rfl, hg63⟩ fr63
      refine oCs ?_ ?_
      · refine op_gy rfl (by decide) (fun a w h => h.c (nd' := [0]) 1 (by simp [spC, spR]) rfl) ?_
        refine op_r fun a' w' hk' hf' hd' K' hK' => ?_
        obtain ⟨gc, hgc, hgt⟩ : ∃ gc : List Value, get a' 39 = .agg gc.toArray ∧ RepT w' (fun b => w40.heap.size ≤ b ∧ b < w'.heap.size) gc rt.1 := hd'.at (d := 10) (by simp) rfl
        have hfx7 : get a' 36 = .bool (decide (fx ≥ 0) && decide (((n % (mx + 1) : Nat) : Int) ≥ fx)) := hd'.at (d := 7) (by simp) rfl
        refine wCr (R := fun vz wz => vz = .bool true ∧ Fr [] w' wz) (vs := #[fsv, .int .i64 ((n % (mx + 1) : Nat) : Int), .bool (decide (fx ≥ 0) && decide (((n % (mx + 1) : Nat) : Int) ≥ fx)), .agg ([.int .i64 tn, sv, .bool nl, lv, uv] : List Value).toArray, .agg gc.toArray]) hTold.enters (by simp only [List.map_toArray, List.map_cons, List.map_nil]; rw [show a'.eval (.tmp 32) = fsv from (by rw [eTm]; exact hd'.c (nd' := [1, 2]) 3 (by simp) rfl), show a'.eval (.tmp 33) = Value.int .i64 ((n % (mx + 1) : Nat) : Int) from (by rw [eTm]; exact hd'.c (nd' := [1]) 4 (by simp) rfl), show a'.eval (.tmp 36) = Value.bool (decide (fx ≥ 0) && decide (((n % (mx + 1) : Nat) : Int) ≥ fx)) from (by rw [eTm]; exact hfx7), show a'.eval (.tmp 37) = Value.agg ([.int .i64 tn, sv, .bool nl, lv, uv] : List Value).toArray from (by rw [eTm]; exact hd'.c (nd' := [1]) 8 (by simp) rfl), show a'.eval (.tmp 39) = Value.agg gc.toArray from (by rw [eTm]; exact hgc)]) ((hTold.call w' _ B _ _ _ _ _ gc _ rt.1 (hfs8.kept hf' (by simp) (fun _ h => h)) (ht0.kept (hF57.tr hf') (by simp) (fun _ h => h)) hgt (fun b hb => Nat.lt_of_lt_of_le hb.2 (Nat.le_trans hL57_w24.size hf'.size)) (fun b hb => Nat.lt_of_lt_of_le (hB b hb) (hF57.tr hf').size) (fun b hb => hb.2) hdf).mono (by rintro e wz ⟨rfl, h⟩; exact ⟨_, rfl, rfl, h⟩)) ?_
        rintro _ w64 ⟨rfl, fr64⟩
        exact hK' _ w64 rfl fr64
      refine oCs ?_ ?_
      · refine op_c fun a' w' hk' hf' hd' K' hK' => ?_
        refine wp_pickYes (v := .bool true) (by rw [eTm]; exact hd'.c (nd' := [0]) 1 (by simp) rfl) (by rw [eTm]; exact hd'.c (nd' := [1, 3, 4, 7, 8, 10]) 11 (by simp) rfl) ?_
        exact hK'
      exact opsOk_nil
    intro a65 w65 k65 f65 hd_65
    have hz65 : a65.tmps.size = 42 := k65.size.trans hz60
    have hd65 : a65.defers = [] := k65.defers.trans hd60
    have g65_41 : get a65 41 = .bool true := hd_65.c (nd' := [1, 11]) 12 (by simp) rfl
    have hF66 : Fr [] w w65 := hF57.tr f65
    have rb67 := f65.range rb58 .nil
    have rb68 := f65.range rb59 .nil
    have rb69 := f65.range r57 .nil
    refine wC (wAs (v := .bool true) (eK g65_41) ?_)
    refine wEn fun a70 ha70 => ?_
    have hz70 := kS ha70 hz65
    have hd70 := kD ha70 hd65
    have g70_4 : get a70 4 = .bool true := kG ha70 hz65
    refine hK61 a70 w65 (tUp ?_)
    refine wp_ret ?_
    exact ⟨hd70, _, rIs hres' g70_4, rfl, hF66⟩
end Go.Kq

namespace Go.Kq
open Go
def InvQ (f : Rd) (ver : Int) (fl : Bool) (Q : V → Prop) (out : List UInt8) : Prop :=
  ∀ rest nl, (nl = true → out ++ rest = []) → ∃ x, f ver fl ⟨out ++ rest, nl, false⟩ = some (x, ⟨rest, nl, false⟩) ∧ Q x
def TdX (Rf : Fd → Int → T → T → Prop) (ver : Int) (ts : List T) : List Fd → Nat → List T → Prop
  | [], _, [] => True
  | fd :: fs, i, y :: ls => (fd.tag < 0 ∧ fd.has ver = true ∧ Rf fd ver (atT ts i) y) ∧ TdX Rf ver ts fs (i + 1) ls
  | _, _, _ => False
def InvT (f : Rd) (ver : Int) (fl : Bool) (Rf : Fd → Int → T → T → Prop) (fs : List Fd) (gs : List (V → T)) (ts : List T) (i : Nat) (us : List (Nat × List UInt8)) (out : List UInt8) : Prop :=
  ∀ rest nl, (nl = true → out ++ rest = []) → ∃ xs, f ver fl ⟨out ++ rest, nl, false⟩ = some (.l xs, ⟨rest, nl, false⟩) ∧ TdX Rf ver ts fs i (tellAll gs xs) ∧ uOf gs xs = us
theorem TdX.len {Rf : Fd → Int → T → T → Prop} {ver : Int} {ts : List T} : ∀ {fs : List Fd} {i : Nat} {ls : List T}, TdX Rf ver ts fs i ls → ls.length = fs.length
  | [], _, [], _ => rfl
  | _ :: fs, i, _ :: ls, h => by simp [TdX.len h.2]
  | [], _, _ :: _, h => h.elim
  | _ :: _, _, [], h => h.elim
theorem TdX.at {Rf : Fd → Int → T → T → Prop} {ver : Int} {ts : List T} : ∀ {fs : List Fd} {i : Nat} {ls : List T}, TdX Rf ver ts fs i ls → ∀ (j : Nat) (fd : Fd) (y : T), fs[j]? = some fd → ls[j]? = some y → fd.tag < 0 ∧ fd.has ver = true ∧ Rf fd ver (atT ts (i + j)) y
  | [], _, [], _, j, fd, y, h1, _ => by simp at h1
  | f :: fs, i, x :: ls, h, j, fd, y, h1, h2 => by
    cases j with
    | zero => simp at h1 h2; subst h1 h2; simpa using h.1
    | succ j =>
      have := TdX.at h.2 j fd y (by simpa using h1) (by simpa using h2)
      rwa [show i + 1 + j = i + (j + 1) from by omega] at this
  | [], _, _ :: _, h, _, _, _, _, _ => h.elim
  | _ :: _, _, [], h, _, _, _, _, _ => h.elim
section
variable {ver : Int} {fl : Bool} {y t : T} {fr to nul tag df of : Int} {sub : List Fd} {Rf : Fd → Int → T → T → Prop}
theorem invt_cons {f : Fd} {fs : List Fd} {r g : Rd} {tl : V → T} {gs : List (V → T)} {ts : List T} {i : Nat} {us : List (Nat × List UInt8)} {tx : List UInt8} (ht : f.tag < 0) (hh : f.has ver = true)
    (h1 : InvQ r ver fl (fun x => Rf f ver (atT ts i) (tl x)) (fieldW f ver fl (atT ts i))) (h2 : InvT g ver fl Rf fs gs ts (i + 1) us (bodyL fs ver fl ts (i + 1) ++ tx)) :
    InvT (rdCons r g) ver fl Rf (f :: fs) (tl :: gs) ts i us (bodyL (f :: fs) ver fl ts i ++ tx) := by
  rw [bodyL, if_pos hh, List.append_assoc]
  intro rest nl hn
  obtain ⟨x, hx, hax⟩ := h1 ((bodyL fs ver fl ts (i + 1) ++ tx) ++ rest) nl (by rw [← List.append_assoc]; exact hn)
  obtain ⟨xs, hxs, haxs, hu⟩ := h2 rest nl (fun h => by have := hn h; simp only [List.append_eq_nil_iff] at this ⊢; exact ⟨this.1.2, this.2⟩)
  refine ⟨x :: xs, ?_, ⟨⟨ht, hh, hax⟩, haxs⟩, hu⟩
  rw [List.append_assoc]
  simp only [rdCons, hx, hxs, consV]
theorem invt_end {fs : List Fd} {ts : List T} {i : Nat} (hk : KeysOk t) : InvT (rdCons rdTagsF rdSt0) ver fl Rf [] [] ts i (if fl then unksW fs t else []) (bodyL [] ver fl ts i ++ if fl then uvW (unksW fs t).length ++ tagsW (unksW fs t) else []) := by
  have hok := unks_ok (fs := fs) hk.u
  intro rest nl hn
  cases fl with
  | false => exact ⟨[.nil], by simp [rdCons, rdTagsF, rdSt0, consV, bodyL], trivial, by simp [uOf, tagsT, tagKv, sortKv]⟩
  | true =>
    have hnl := nl_false hn (by simp [bodyL, uvW_ne])
    subst hnl
    obtain ⟨y, h1, h2⟩ := rdTagsGo_app (unksW fs t) .nil rest (fun p hp => ⟨hok.key p hp, hok.few p hp⟩) hok.rise (by simp [tagKv])
    have h3 : tagsT y = unksW fs t := tagsT_of (by rw [h2]; simp [tagKv]) hok.rise
    refine ⟨[y], ?_, trivial, ?_⟩
    · simp only [rdCons, rdTagsF, if_true, rdTags, bodyL, List.nil_append, List.append_assoc, rdUv_app hok.len, h1, rdSt0, consV]
    · simp only [uOf, h3, if_true]
theorem td_plain {g : Rd} {flx : Int → Bool} {fs : List Fd} {gs : List (V → T)} {tell : V → T} (hf : freeFs fs = true) (htell : ∀ x, tell x = .mk 0 [] false (tellAll gs (x.items.drop 1)) (uOf gs (x.items.drop 1)))
    (h : InvT g ver (flx ver) Rf fs gs t.l 0 (if flx ver then unksW fs t else []) (bodyL fs ver (flx ver) t.l 0 ++ if flx ver then uvW (unksW fs t).length ++ tagsW (unksW fs t) else [])) :
    (doorRes g flx tell ver (partW fs ver (flx ver) t)).2 = true ∧ TdL fs Rf ver (flx ver) t (doorRes g flx tell ver (partW fs ver (flx ver) t)).1 := by
  rw [← partW_flat (freeFs_tag hf)] at h
  obtain ⟨xs, h1, h2, h3⟩ := h [] (partW fs ver (flx ver) t).isEmpty (by intro h; simpa using h)
  rw [List.append_nil] at h1
  have e : doorRes g flx tell ver (partW fs ver (flx ver) t) = (.mk 0 [] false (tellAll gs xs) (uOf gs xs), true) := by
    simp [doorRes, h1, htell, consV, V.items]
  rw [e]
  refine ⟨rfl, h2.len, fun j fd y hj hy => ?_, h3⟩
  have := h2.at j fd y hj hy
  rwa [Nat.zero_add] at this
theorem tdf_num {fd : Fd} {R : T → T → Prop} {n : Int} (h8 : fd.kind ≠ 8) (h9 : fd.kind ≠ 9) (h7 : fd.kind ≠ 7) (h10 : fd.kind ≠ 10) (hn : fd.nul < 0) (h : n = numW fd.kind t.n) : TdF fd R ver t (.mk n [] false [] []) :=
  ⟨fun _ => (nullW_no hn).symm, fun _ => by simp [TdV, h7, h8, h9, h10, T.n, h]⟩
theorem invq_num {kd : IntKind} {k : Nat} {i : Int} {Q : V → Prop} (h : Q (.n (kd.wrap (Lib.beNat (fixedW i k))))) : InvQ (rdOne fun _ _ => gNum kd k) ver fl Q (fixedW i k) := by
  intro rest nl _
  refine ⟨.n (kd.wrap (Lib.beNat (fixedW i k))), ?_, h⟩
  simp only [rdOne, gNum, rdNum_app]
theorem invq_i16 {R : T → T → Prop} (hn : nul < 0) : InvQ (rdOne fun _ _ => gNum .i16 2) ver fl (fun x => TdF (.mk 2 fr to nul tag df of sub) R ver y (tNum x)) (fieldW (.mk 2 fr to nul tag df of sub) ver fl y) := by
  rw [fieldW_eq, show Fd.kind (.mk 2 fr to nul tag df of sub) = 2 from rfl, fieldV_i16]
  refine invq_num (tdf_num ?_ ?_ ?_ ?_ hn ?_) <;> try (show (2 : Int) ≠ _; decide)
  rw [beNat_f2]
  show _ = numW 2 y.n
  simp [numW, IntKind.wrap, IntKind.signed, IntKind.bits]
end
end Go.Kq
