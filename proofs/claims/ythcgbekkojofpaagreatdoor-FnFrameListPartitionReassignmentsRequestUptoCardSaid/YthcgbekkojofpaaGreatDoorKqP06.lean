/- A part of the library: rules of reasoning about the program's operations and what its shared functions do. -/
import Derived.Test.YthcgbekkojofpaaGreatDoorKqP05
import Derived.Test.YthcgbekkojofpaaGreatDoorKqP02
import Derived.Below
import Derived.ChangeSame
import Derived.ChangeSlices
import Derived.ChangeArms
import Derived.LaidLaws
import Derived.OpenShut
import Derived.WideKeyArgs
import Derived.WalkKit
import Derived.ProofKit
import Derived.Test.YthcgbekkojofpaaGreatDoorKqP01
import Derived.Test.YthcgbekkojofpaaGreatDoorKqP03
import Derived.Laws.IdiomCopy
import Derived.Test.YthcgbekkojofpaaGreatDoorKqP04
set_option linter.unusedVariables false
set_option linter.unusedSimpArgs false
namespace Go.Kq
open Go Go.Proofs
structure FitIM (P : Program) (f : FuncId) : Prop where
  enters : Enters P f
  call : ∀ (w : World) (has : Bool) (s : ByteArray), s.data.toList.length ≤ 2147483647 → Calls P f #[.agg ([.bool has, .string s] : List Value).toArray] w fun e w' => e = .returned (.bool true) ∧ Fr [] w w'
theorem i32_lo {n : Int} (h : IntKind.i32.min ≤ n) : -2147483648 ≤ n := by
  have : IntKind.i32.min = -2147483648 := by decide
  omega
theorem i32_hi {n : Int} (h : n ≤ IntKind.i32.max) : n ≤ 2147483647 := by
  have : IntKind.i32.max = 2147483647 := by decide
  omega
theorem frameW_le {key ver num : Int} {has flex : Bool} {ids body : List UInt8} (h : ids.length + body.length + 64 ≤ 4294967296) : (frameW key ver num (if has then .s ids else .nil) flex body).length ≤ 4294967296 := by
  have hf := flz_le flex;have hx : (V.octs (if has = true then V.s ids else .nil)).length ≤ ids.length := by split <;> simp [V.octs]
  simp only [frameW, frameB, List.length_append, fxL, apNStr_len]; omega
structure LawF (P : Program) (ge : Nat) (f : FuncId) (small : T → Prop) : Prop where
  enters : Enters P f
  call : ∀ (w : World) (n : Nat) (has : Bool) (s : ByteArray) (num : Int) (B : Nat → Prop) (ct : List Value) (t : T) (er : Value) (ty : TypeId) (u : Value), n < 256 → s.data.toList.length ≤ 1048576 → IntKind.i32.min ≤ num → num ≤ IntKind.i32.max → RepT w B ct t → (∀ b, B b → b < w.heap.size) →
    w.cell? ⟨ge, 0, none⟩ = some er → er = .iface ty u → small t → Calls P f #[.int .u8 (n : Int), .agg ([.bool has, .string s] : List Value).toArray, .int .i32 num, .agg ct.toArray] w fun e w' => e = .returned (.bool true) ∧ Fr [] w w'
theorem fits4_m {P : Program} {f : FuncId} {fn : Func} {T3 T9 T23 : TypeId} {i0 i1 i2 i3 : Nat} {t0 t1 t2 t3 t4 t5 t6 t7 : TypeId} {p0 p1 p2 p3 p4 p5 p6 p7 : String} {e0 e1 e2 e3 e4 e5 e6 e7 : Array Edge} 
    (hf : P.funcs[f]? = some fn) (hname : (fn.name == "runtime.NumGoroutine") = false) (hres : fn.results = #[.tmp 2]) (hN : fn.ntmps = 7)
    (hbody : fn.body = some (.seq (Code.region i0 ⟨[⟨some 1, .box T23 (.tmp 0), t0, p0, e0, none⟩,
    oA 2 (.const (.bool false)) t1 p1 e1]⟩ false) (.seq (.seq (Code.region i1 ⟨[oF 3 T23 1 1 t2 p2 e2,
    oL 4 T9 3 t3 p3 e3, ⟨some 5, .call ⟨.builtin .len, #[(.tmp 4)], #[T9]⟩, t4, p4, e4, none⟩, ⟨some 6, .binOp .gtr T3 (.tmp 5) (.const (.int .i64 2147483647)) T3, t5, p5, e5, none⟩]⟩ false) (.cond (.tmp 6) (.seq (Code.region i2 ⟨[oA 2 (.const (.bool false)) t6 p6 e6]⟩ false) .ret) .skip)) (.seq (Code.region i3 ⟨[oA 2 (.const (.bool true)) t7 p7 e7]⟩ false) .ret))))
    (hFlT23 : Flat P T23 [.bool false, .string ⟨#[]⟩]) (hcT9 : scal P T9 = true) (hST9 : strTy P T9 = true)  : FitIM P f := by
  refine ⟨enters_of hf hname hbody, ?_⟩;intro w has s hsl;refine calls_of_wp hf hbody ?_;generalize ha0 : ({ tmps := #[Value.agg ([.bool has, .string s] : List Value).toArray] ++ Array.replicate (fn.ntmps - (#[Value.agg ([.bool has, .string s] : List Value).toArray] : Array Value).size) undef, defers := [] } : Act) = a0;have hz0 : a0.tmps.size = 7 := by subst ha0; simp [hN]
  have hd0 : a0.defers = [] := by subst ha0; rfl
  have g0_0 : get a0 0 = .agg ([.bool has, .string s] : List Value).toArray := by subst ha0; exact gAr rfl
  refine wT fun K1 hK1 => ?_;refine wC (wp_boxL (cs := [.bool has, .string s]) (eK g0_0) ?_);rintro w2 f2 sz2 r2 th2;have hF3 : Fr [] w w2 := f2;refine wC (wAs (v := .bool false) rfl ?_);refine wEk hz0 hd0 fun a4 ha4 hz4 hd4 => ?_;have g4_1 : get a4 1 = .pointer (some ⟨w.heap.size, 0, none⟩) := kG ha4 hz0;refine hK1 a4 w2 (tUp ?_);refine tId (wp_seq_k fun K5 hK5 => ?_);refine wS fun K6 hK6 => ?_;refine wC (wFa (b := w.heap.size) (i := 0) (hFlT23.fld (by decide)) (eK g4_1) ?_);rw [show (0 + 1 : Nat) = 1 from rfl];refine wC (wL0 (j := 1) (v := .string s) hcT9 (eS hz4) r2 rfl ?_);refine wC (wp_lenStr (s := s) hST9 (eS hz4) ?_);refine wC (wp_gtrF (k1 := .i64) (i := ((s.data.toList.length : Nat) : Int)) (j := 2147483647) (by omega) (eS hz4) rfl ?_);refine wEk hz4 hd4 fun a7 ha7 hz7 hd7 => ?_;have g7_6 : get a7 6 = .bool false := kG ha7 hz4;refine hK6 a7 w2 ?_;refine wp_cond_split (t := false) (eK g7_6) (fun h => by cases h) (fun _ => ?_);refine wp_skip ?_;refine hK5 a7 w2 (tUp ?_);refine wT fun K9 hK9 => ?_;refine wC (wAs (v := .bool true) rfl ?_);refine wEk hz7 hd7 fun a10 ha10 hz10 hd10 => ?_;have g10_2 : get a10 2 = .bool true := kG ha10 hz7;refine hK9 a10 w2 (tUp ?_);refine wp_ret ?_;exact ⟨hd10, _, rIs hres g10_2, rfl, hF3⟩
set_option maxHeartbeats 1000000 in
theorem lawf_m {P : Program} {f : FuncId} {fn : Func} {T3 T4 T9 T23 T24 T28 T34 : TypeId} {f7 f8 f9 f10 f11 f12 f13 f14 f15 f16 : FuncId} {ct0 : Array TypeId} {ct1 : Array TypeId} {ct2 : Array TypeId} {ct3 : Array TypeId} {ct4 : Array TypeId} {ct5 : Array TypeId} {ct6 : Array TypeId} {ct7 : Array TypeId} {ct8 : Array TypeId} {ct9 : Array TypeId} {i0 i1 i2 i3 i4 i5 i6 i7 i8 i9 i10 i11 : Nat} {t0 t1 t2 t3 t4 t5 t6 t7 t8 t9 t10 t11 t12 t13 t14 t15 t16 t17 t18 t19 t20 t21 t22 t23 t24 t25 t26 t27 t28 t29 t30 t31 t32 t33 t34 t35 t36 t37 t38 t39 t40 t41 t42 t43 t44 t45 t46 t47 t48 t49 t50 t51 t52 t53 t54 t55 t56 t57 t58 t59 t60 t61 : TypeId} {p0 p1 p2 p3 p4 p5 p6 p7 p8 p9 p10 p11 p12 p13 p14 p15 p16 p17 p18 p19 p20 p21 p22 p23 p24 p25 p26 p27 p28 p29 p30 p31 p32 p33 p34 p35 p36 p37 p38 p39 p40 p41 p42 p43 p44 p45 p46 p47 p48 p49 p50 p51 p52 p53 p54 p55 p56 p57 p58 p59 p60 p61 : String} {e0 e1 e2 e3 e4 e5 e6 e7 e8 e9 e10 e11 e12 e13 e14 e15 e16 e17 e18 e19 e20 e21 e22 e23 e24 e25 e26 e27 e28 e29 e30 e31 e32 e33 e34 e35 e36 e37 e38 e39 e40 e41 e42 e43 e44 e45 e46 e47 e48 e49 e50 e51 e52 e53 e54 e55 e56 e57 e58 e59 e60 e61 : Array Edge} {ge mx : Nat} {fx key : Int} {fl : Int → Bool} {fs : List Fd} {enc : Int → Bool → T → List UInt8} {res : Int → List UInt8 → Option (List UInt8)} {small : T → Prop}
    (hf : P.funcs[f]? = some fn) (hname : (fn.name == "runtime.NumGoroutine") = false) (hres' : fn.results = #[.tmp 8]) (hN : fn.ntmps = 63)
    (hbody : fn.body = some (.seq (Code.region i0 ⟨[⟨some 5, .box T23 (.tmp 1), t0, p0, e0, none⟩, ⟨some 7, .box T28 (.tmp 3), t1, p1, e1, none⟩,
    oA 8 (.const (.bool false)) t2 p2 e2]⟩ false) (.seq (.seq (Code.region i1 ⟨[oL 15 T23 5 t3 p3 e3,
    oC 16 f7 #[(.tmp 15)] ct0 t4 p4 e4, ⟨some 17, .unOp .not T4 (.tmp 16), t5, p5, e5, none⟩,
    oM 18 17 t6 p6 e6, ⟨some 19, .load T28 (.tmp 7), t7, p7, e7, some (3, false)⟩, ⟨some 20, .call ⟨.value (.func f8), #[(.tmp 19)], ct1⟩, t8, p8, e8, some (3, false)⟩, ⟨some 21, .unOp .not T4 (.tmp 20), t9, p9, e9, some (3, false)⟩, ⟨some 22, .pick (.tmp 18) (.const (.bool true)) (.tmp 21), t10, p10, e10, none⟩]⟩ false) (.cond (.tmp 22) (.seq (Code.region i2 ⟨[oA 8 (.const (.bool true)) t11 p11 e11]⟩ false) .ret) .skip)) (.seq (Code.region i3 ⟨[oC 23 f9 #[] ct2 t12 p12 e12,
    oT 9 23 t13 p13 e13]⟩ false) (.seq (.seq (Code.region i4 ⟨[oM 24 9 t14 p14 e14, ⟨some 25, .binOp .lss T3 (.tmp 24) (.const (.int .i64 0)) T3, t15, p15, e15, none⟩]⟩ false) (.cond (.tmp 25) (.seq (Code.region i5 ⟨[oA 8 (.const (.bool false)) t16 p16 e16]⟩ false) .ret) .skip)) (.seq (Code.region i6 ⟨[oC 26 f10 #[] ct3 t17 p17 e17,
    oM 27 0 t18 p18 e18,
    oM 28 9 t19 p19 e19,
    oC 29 f11 #[(.tmp 27), (.tmp 28)] ct4 t20 p20 e20, ⟨some 10, .alloc T34, t21, p21, e21, none⟩,
    oS T34 10 26 t22 p22 e22,
    oT 11 29 t23 p23 e23]⟩ false) (.seq (.seq (Code.region i7 ⟨[oF 30 T23 5 1 t24 p24 e24,
    oL 31 T9 30 t25 p25 e25, ⟨some 32, .call ⟨.builtin .len, #[(.tmp 31)], #[T9]⟩, t26, p26, e26, none⟩, ⟨some 33, .binOp .gtr T3 (.tmp 32) (.const (.int .i64 32767)) T3, t27, p27, e27, none⟩]⟩ false) (.cond (.tmp 33) (.seq (Code.region i8 ⟨[oA 8 (.const (.bool true)) t28 p28 e28]⟩ false) .ret) .skip)) (.seq (Code.region i9 ⟨[oL 34 T34 10 t29 p29 e29,
    oM 35 11 t30 p30 e30,
    oL 36 T28 7 t31 p31 e31,
    oC 37 f12 #[(.tmp 34), (.tmp 35), (.tmp 36)] ct5 t32 p32 e32,
    oT 12 37 t33 p33 e33]⟩ false) (.seq (Code.region i10 ⟨[oL 39 T23 5 t34 p34 e34,
    oM 40 2 t35 p35 e35,
    oM 41 11 t36 p36 e36,
    oM 42 12 t37 p37 e37,
    oC 43 f13 #[(.tmp 39), (.tmp 40), (.tmp 41), (.tmp 42)] ct6 t38 p38 e38,
    oM 38 43 t39 p39 e39, ⟨some 44, .extract (.tmp 38) 0, t40, p40, e40, none⟩, ⟨some 45, .extract (.tmp 38) 1, t41, p41, e41, none⟩,
    oT 13 44 t42 p42 e42,
    oT 14 45 t43 p43 e43]⟩ false) (.seq (Code.region i11 ⟨[oM 46 14 t44 p44 e44,
    oM 47 46 t45 p45 e45, ⟨some 48, .move (.tmp 13), t46, p46, e46, some (1, true)⟩, ⟨some 49, .move (.tmp 11), t47, p47, e47, some (1, true)⟩, ⟨some 50, .move (.tmp 2), t48, p48, e48, some (1, true)⟩, ⟨some 51, .fieldAddr T23 (.tmp 5) 0, t49, p49, e49, some (1, true)⟩, ⟨some 52, .load T4 (.tmp 51), t50, p50, e50, some (1, true)⟩, ⟨some 53, .fieldAddr T23 (.tmp 5) 1, t51, p51, e51, some (1, true)⟩, ⟨some 54, .load T9 (.tmp 53), t52, p52, e52, some (1, true)⟩, ⟨some 55, .convert T9 T24 (.tmp 54), t53, p53, e53, some (1, true)⟩, ⟨some 56, .load T34 (.tmp 10), t54, p54, e54, some (1, true)⟩, ⟨some 57, .move (.tmp 11), t55, p55, e55, some (1, true)⟩, ⟨some 58, .call ⟨.value (.func f16), #[(.tmp 56), (.tmp 57)], ct7⟩, t56, p56, e56, some (1, true)⟩, ⟨some 59, .move (.tmp 12), t57, p57, e57, some (1, true)⟩, ⟨some 60, .call ⟨.value (.func f15), #[(.const (.int .i64 key)), (.tmp 49), (.tmp 50), (.tmp 52), (.tmp 55), (.tmp 58), (.tmp 59)], ct8⟩, t58, p58, e58, some (1, true)⟩, ⟨some 61, .call ⟨.value (.func f14), #[(.tmp 48), (.tmp 60)], ct9⟩, t59, p59, e59, some (1, true)⟩, ⟨some 62, .pick (.tmp 47) (.tmp 61) (.const (.bool false)), t60, p60, e60, none⟩,
    oT 8 62 t61 p61 e61]⟩ true) .ret))))))))))
    (hFlT23 : Flat P T23 [.bool false, .string ⟨#[]⟩]) (hFlT28 : Flat P T28 zT) (hFlT34 : Flat P T34 zM) (hcT9 : scal P T9 = true) (hST9 : strTy P T9 = true) (hcT4 : scal P T4 = true) (hBT24 : byteSl P T24 = true) (he11 : edgeOk 0 [e44, e45, e46, e47, e48, e49, e50, e51, e52, e53, e54, e55, e56, e57, e58, e59, e60, e61] [[], [0], [1], [1], [1], [1], [1, 5], [1], [1, 7], [1, 8], [1], [1], [1, 10, 11], [1], [1, 3, 4, 6, 9, 12, 13], [1, 2, 14], [0, 1, 2, 3, 4, 5, 6, 7, 8, 9, 10, 11, 12, 13, 14, 15], [0, 1, 2, 3, 4, 5, 6, 7, 8, 9, 10, 11, 12, 13, 14, 15, 16]] = true) (hmx : P.follows .mixedOrders = true) (hF4 : FitIM P f7) (hFit : FitM P f8) (hMax : MaxM P f9 mx) (hmb : mx < 32768) (hSch : SchM P f10 fs fx) (hVer : VerM P f11) (hWr : WriteM P f12 fs enc) (hFx : FrxM P ge f13 res key fl) (hFlx : FlexM P f16) (hFr : FrmS P f15) (hSame : SameM P f14)
    (hfl : ∀ ver : Int, 0 ≤ ver → ver ≤ mx → fl ver = (decide (fx ≥ 0) && decide (ver ≥ fx)))
    (hplain : ∀ ver : Int, 0 ≤ ver → ver ≤ mx → ∀ t, small t → (enc ver (decide (fx ≥ 0) && decide (ver ≥ fx)) t).length ≤ 2147483648 ∧ res ver (enc ver (decide (fx ≥ 0) && decide (ver ≥ fx)) t) = some (enc ver (decide (fx ≥ 0) && decide (ver ≥ fx)) t)) : LawF P ge f small := by
  refine ⟨enters_of hf hname hbody, ?_⟩;intro w n has s num B ct t er ty uer hn hsl hn0 hn1 ht hB her hiface hsm
  cases t with
  | mk tn s0 nl l u =>
  have ht0 := ht;obtain ⟨sv, lv, uv, rfl, hn0', hs, hl, hu⟩ := repT_iff.1 ht;have hv1 : n % (mx + 1) ≤ mx := by have := Nat.mod_lt n (show 0 < mx + 1 by omega); omega
  obtain ⟨hlen, hres⟩ := hplain ((n % (mx + 1) : Nat) : Int) (by omega) (by omega) _ hsm;have hflv := hfl ((n % (mx + 1) : Nat) : Int) (by omega) (by omega);refine calls_of_wp hf hbody ?_;generalize ha0 : ({ tmps := #[Value.int .u8 (n : Int), Value.agg ([.bool has, .string s] : List Value).toArray, Value.int .i32 num, Value.agg ([.int .i64 tn, sv, .bool nl, lv, uv] : List Value).toArray] ++ Array.replicate (fn.ntmps - (#[Value.int .u8 (n : Int), Value.agg ([.bool has, .string s] : List Value).toArray, Value.int .i32 num, Value.agg ([.int .i64 tn, sv, .bool nl, lv, uv] : List Value).toArray] : Array Value).size) undef, defers := [] } : Act) = a0;have hz0 : a0.tmps.size = 63 := by subst ha0; simp [hN]
  have hd0 : a0.defers = [] := by subst ha0; rfl
  have g0_0 : get a0 0 = .int .u8 (n : Int) := by subst ha0; exact gAr rfl
  have g0_1 : get a0 1 = .agg ([.bool has, .string s] : List Value).toArray := by subst ha0; exact gAr rfl
  have g0_2 : get a0 2 = .int .i32 num := by subst ha0; exact gAr rfl
  have g0_3 : get a0 3 = .agg ([.int .i64 tn, sv, .bool nl, lv, uv] : List Value).toArray := by subst ha0; exact gAr rfl
  refine wT fun K1 hK1 => ?_;refine wC (wp_boxL (cs := [.bool has, .string s]) (eK g0_1) ?_);rintro w2 f2 sz2 r2 th2;have hF3 : Fr [] w w2 := f2;refine wC (wp_boxL (cs := [.int .i64 tn, sv, .bool nl, lv, uv]) (eK g0_3) ?_);rintro w4 f4 sz4 r4 th4;have hF5 : Fr [] w w4 := hF3.tr f4;have rb6 := f4.range r2 .nil;refine wC (wAs (v := .bool false) rfl ?_);refine wEk hz0 hd0 fun a7 ha7 hz7 hd7 => ?_;have g7_0 := kP ha7 g0_0;have g7_2 := kP ha7 g0_2;have g7_5 : get a7 5 = .pointer (some ⟨w.heap.size, 0, none⟩) := kG ha7 hz0;have g7_7 : get a7 7 = .pointer (some ⟨w2.heap.size, 0, none⟩) := kG ha7 hz0;refine hK1 a7 w4 (tUp ?_);refine tId (wp_seq_k fun K8 hK8 => ?_);refine wp_seq_k fun K9 hK9 => ?_;refine wp_regG ?_;refine gCn ?_;refine wp_loadFlat (cs := [.bool has, .string s]) (b := w.heap.size) (o := 0) hFlT23 rfl (eK g7_5) rb6 ?_;refine gCn ?_;refine wCr (R := fun vz wz => vz = .bool true ∧ Fr [] w4 wz) (vs := #[.agg ([.bool has, .string s] : List Value).toArray]) hF4.enters (mX1 (eS hz7)) ((hF4.call w4 has s (by omega)).mono (by rintro e wz ⟨rfl, h⟩; exact ⟨_, rfl, rfl, h⟩)) ?_;rintro _ w10 ⟨rfl, fr10⟩;have hF11 : Fr [] w w10 := hF5.tr fr10;have hL11_w4 : Fr [] w4 w10 := (Fr.refl [] w4).tr fr10;have rb12 := fr10.range rb6 .nil;have rb13 := fr10.range r4 .nil;refine gCn ?_;refine wp_not (b := true) (eS hz7) ?_;rw [show (!true) = false from rfl];refine gCn ?_;refine wMv (v := .bool false) (eS hz7) ?_;refine wg_yes (dj := 18) rfl (lZ hz7) (gS hz7) ?_;refine wp_loadFlat (cs := [.int .i64 tn, sv, .bool nl, lv, uv]) (b := w2.heap.size) (o := 0) hFlT28 rfl (eK g7_7) rb13 ?_;refine wg_yes (dj := 18) rfl (lZ hz7) (gS hz7) ?_;refine wCr (R := fun vz wz => (∃ b : Bool, vz = .bool b) ∧ Fr [] w10 wz) (vs := #[.agg ([.int .i64 tn, sv, .bool nl, lv, uv] : List Value).toArray]) hFit.enters (mX1 (eS hz7)) ((hFit.call w10 B _ _ (ht0.kept hF11 (by simp) (fun _ h => h))).mono (by rintro e wz ⟨⟨b, rfl⟩, h⟩; exact ⟨_, rfl, ⟨b, rfl⟩, h⟩)) ?_;rintro _ w14 ⟨⟨bb, rfl⟩, fr14⟩;have hF15 : Fr [] w w14 := hF11.tr fr14;have hL15_w4 : Fr [] w4 w14 := hL11_w4.tr fr14;have rb16 := fr14.range rb12 .nil;have rb17 := fr14.range rb13 .nil;refine wg_yes (dj := 18) rfl (lZ hz7) (gS hz7) ?_;refine wp_not (b := bb) (eS hz7) ?_;refine gCn ?_;refine wp_pickNo (v := .bool (!bb)) (eS hz7) (eS hz7) ?_;refine wg_end fun a18 ha18 => ?_;have hz18 := kS ha18 hz7;have hd18 := kD ha18 hd7;have g18_0 := kP ha18 g7_0;have g18_2 := kP ha18 g7_2;have g18_5 := kP ha18 g7_5;have g18_7 := kP ha18 g7_7;have g18_22 : get a18 22 = .bool (!bb) := kG ha18 hz7;refine hK9 a18 w14 ?_;refine wp_cond_split (t := !bb) (eK g18_22) (fun hc19 => ?_) (fun hc19 => ?_)
  · refine wp_seq_k fun K20 hK20 => ?_;refine wp_reg ?_;refine wC (wAs (v := .bool true) rfl ?_);refine wEk hz18 hd18 fun a21 ha21 hz21 hd21 => ?_;have g21_8 : get a21 8 = .bool true := kG ha21 hz18;refine hK20 a21 w14 ?_;refine wp_ret ?_;exact ⟨hd21, _, rIs hres' g21_8, rfl, hF15⟩
  refine wp_skip ?_;refine hK8 a18 w14 (tUp ?_);refine wT fun K22 hK22 => ?_;refine wC (wCr (R := fun vz wz => vz = .int .i64 (mx : Int) ∧ Fr [] w14 wz) (vs := #[]) hMax.1 (by simp) ((hMax.2 w14).mono (by rintro e wz ⟨rfl, h⟩; exact ⟨_, rfl, rfl, h⟩)) ?_);rintro _ w23 ⟨rfl, fr23⟩;have hF24 : Fr [] w w23 := hF15.tr fr23;have hL24_w4 : Fr [] w4 w23 := hL15_w4.tr fr23;have rb25 := fr23.range rb16 .nil;have rb26 := fr23.range rb17 .nil;refine wC (wAs (v := .int .i64 (mx : Int)) (eS hz18) ?_);refine wEk hz18 hd18 fun a27 ha27 hz27 hd27 => ?_;have g27_0 := kP ha27 g18_0;have g27_2 := kP ha27 g18_2;have g27_5 := kP ha27 g18_5;have g27_7 := kP ha27 g18_7;have g27_9 : get a27 9 = .int .i64 (mx : Int) := kG ha27 hz18;refine hK22 a27 w23 (tUp ?_);refine tId (wp_seq_k fun K28 hK28 => ?_);refine wS fun K29 hK29 => ?_;refine wC (wMv (v := .int .i64 (mx : Int)) (eK g27_9) ?_);refine wC (wp_lssF (k1 := .i64) (i := (mx : Int)) (j := 0) (by omega) (eS hz27) rfl ?_);refine wEk hz27 hd27 fun a30 ha30 hz30 hd30 => ?_;have g30_0 := kP ha30 g27_0;have g30_2 := kP ha30 g27_2;have g30_5 := kP ha30 g27_5;have g30_7 := kP ha30 g27_7;have g30_9 := kP ha30 g27_9;have g30_25 : get a30 25 = .bool false := kG ha30 hz27;refine hK29 a30 w23 ?_;refine wp_cond_split (t := false) (eK g30_25) (fun h => by cases h) (fun _ => ?_);refine wp_skip ?_;refine hK28 a30 w23 (tUp ?_);refine wT fun K32 hK32 => ?_;refine wC (wCr (R := fun vz wz => ∃ fsv, vz = .agg ([fsv, .int .i64 fx] : List Value).toArray ∧ Fr [] w23 wz ∧ FdsR wz (From w23.heap.size wz) fsv fs) (vs := #[]) hSch.enters (by simp) ((hSch.call w23).mono (by rintro e wz ⟨v, rfl, h⟩; exact ⟨_, rfl, v, rfl, h⟩)) ?_);rintro _ w33 ⟨fsv, rfl, fr33, hfs⟩;have hfs1 := hfs.one;have hF34 : Fr [] w w33 := hF24.tr fr33;have hL34_w4 : Fr [] w4 w33 := hL24_w4.tr fr33;have rb35 := fr33.range rb25 .nil;have rb36 := fr33.range rb26 .nil;refine wC (wMv (v := .int .u8 (n : Int)) (eK g30_0) ?_);refine wC (wMv (v := .int .i64 (mx : Int)) (eK g30_9) ?_);refine wC (wCr (R := fun vz wz => vz = .int .i64 ((n % (mx + 1) : Nat) : Int) ∧ Fr [] w33 wz) (vs := #[.int .u8 (n : Int), .int .i64 (mx : Int)]) hVer.1 (mX2 (eS hz30) (eS hz30)) ((hVer.2 w33 n mx hn hmb).mono (by rintro e wz ⟨rfl, rfl⟩; exact ⟨_, rfl, rfl, Fr.refl _ _⟩)) ?_);rintro _ w37 ⟨rfl, fr37⟩;have hF38 : Fr [] w w37 := hF34.tr fr37;have hL38_w4 : Fr [] w4 w37 := hL34_w4.tr fr37;have hL38_w33 : Fr [] w33 w37 := (Fr.refl [] w33).tr fr37;have rb39 := fr37.range rb35 .nil;have rb40 := fr37.range rb36 .nil;rw [wCo];have hgs41 := hL38_w4.size;have hgs42 := hL38_w33.size;have hgs43 := hF38.size;refine wp_allocL hFlT34 ?_;rintro w44 f44 sz44 r44 th44;have hF45 : Fr [] w w44 := hF38.tr f44;have hL45_w33 : Fr [] w33 w44 := hL38_w33.tr f44;have rb46 := f44.range rb39 .nil;have rb47 := f44.range rb40 .nil;refine wC (wp_storeL (cs := [fsv, .int .i64 fx]) (o := 0) hFlT34 rfl (eS hz30) (eS hz30) (by intro u hu; simp at hu; rcases hu with rfl | rfl; exact hfs1; rfl) th44 ?_);rintro w48 f48 sz48 r48 th48;have hF48 : Fr [] w w48 := hF45.trans f48 (fun r hr => .inl (by simp at hr; subst hr; have := hF38.size; simp only; omega));have rb49 := f48.range rb46 (.cons (.inl (by simp only; omega)) .nil);have rb50 := f48.range rb47 (.cons (.inl (by simp only; omega)) .nil);have hL48_w33 : Fr [] w33 w48 := hL45_w33.trans f48 (fun r hr => .inl (by simp at hr; subst hr; have := hL38_w33.size; simp only; omega));refine wC (wAs (v := .int .i64 ((n % (mx + 1) : Nat) : Int)) (by rw [eTm, pNo, nZ (by decide), sZ (zZ (zZ (zZ hz30))) (by decide)]) ?_);refine wEk hz30 hd30 fun a51 ha51 hz51 hd51 => ?_;have g51_2 := kP ha51 g30_2;have g51_5 := kP ha51 g30_5;have g51_7 := kP ha51 g30_7;have g51_10 : get a51 10 = .pointer (some ⟨w37.heap.size, 0, none⟩) := kG ha51 hz30;have g51_11 : get a51 11 = .int .i64 ((n % (mx + 1) : Nat) : Int) := kG ha51 hz30;refine hK32 a51 w48 (tUp ?_);refine tId (wp_seq_k fun K52 hK52 => ?_);refine wS fun K53 hK53 => ?_;refine wC (wFa (b := w.heap.size) (i := 0) (hFlT23.fld (by decide)) (eK g51_5) ?_);rw [show (0 + 1 : Nat) = 1 from rfl];refine wC (wL0 (j := 1) (v := .string s) hcT9 (eS hz51) rb49 rfl ?_);refine wC (wp_lenStr (s := s) hST9 (eS hz51) ?_);refine wC (wp_gtr (k1 := .i64) (i := ((s.data.toList.length : Nat) : Int)) (j := 32767) (eS hz51) rfl ?_);refine wEk hz51 hd51 fun a54 ha54 hz54 hd54 => ?_;have g54_2 := kP ha54 g51_2;have g54_5 := kP ha54 g51_5;have g54_7 := kP ha54 g51_7;have g54_10 := kP ha54 g51_10;have g54_11 := kP ha54 g51_11;have g54_33 : get a54 33 = .bool (decide ((((s.data.toList.length : Nat) : Int) : Int) > (32767 : Int))) := kG ha54 hz51;refine hK53 a54 w48 ?_;refine wp_cond_split (t := decide ((((s.data.toList.length : Nat) : Int) : Int) > (32767 : Int))) (eK g54_33) (fun hc55 => ?_) (fun hc55 => ?_)
  · refine wp_seq_k fun K56 hK56 => ?_;refine wp_reg ?_;refine wC (wAs (v := .bool true) rfl ?_);refine wEk hz54 hd54 fun a57 ha57 hz57 hd57 => ?_;have g57_8 : get a57 8 = .bool true := kG ha57 hz54;refine hK56 a57 w48 ?_;refine wp_ret ?_;exact ⟨hd57, _, rIs hres' g57_8, rfl, hF48⟩
  refine wp_skip ?_;refine hK52 a54 w48 (tUp ?_);refine wT fun K58 hK58 => ?_;refine wC (wp_loadFlat (cs := [fsv, .int .i64 fx]) (b := w37.heap.size) (o := 0) hFlT34 rfl (eK g54_10) r48 ?_);refine wC (wMv (v := .int .i64 ((n % (mx + 1) : Nat) : Int)) (eK g54_11) ?_);refine wC (wp_loadFlat (cs := [.int .i64 tn, sv, .bool nl, lv, uv]) (b := w2.heap.size) (o := 0) hFlT28 rfl (eK g54_7) rb50 ?_);refine wC (wCr (R := fun vz wz => Fr [] w48 wz ∧ Own wz (From w48.heap.size wz) 1 vz (enc ((n % (mx + 1) : Nat) : Int) (decide (fx ≥ 0) && decide (((n % (mx + 1) : Nat) : Int) ≥ fx)) (.mk tn s0 nl l u)).length (octets (enc ((n % (mx + 1) : Nat) : Int) (decide (fx ≥ 0) && decide (((n % (mx + 1) : Nat) : Int) ≥ fx)) (.mk tn s0 nl l u)))) (vs := #[.agg ([fsv, .int .i64 fx] : List Value).toArray, .int .i64 ((n % (mx + 1) : Nat) : Int), .agg ([.int .i64 tn, sv, .bool nl, lv, uv] : List Value).toArray]) hWr.enters (mX3 (eS hz54) (eS hz54) (eS hz54)) (calls_fresh (hWr.call w48 _ B ((n % (mx + 1) : Nat) : Int) fx fsv _ _ (hfs.kept hL48_w33 (by simp) (fun _ h => h)) (ht0.kept hF48 (by simp) (fun _ h => h)) (fun b hb => Nat.lt_of_lt_of_le hb.2 hL48_w33.size) (fun b hb => Nat.lt_of_lt_of_le (hB b hb) hF48.size) (by omega))) ?_);rintro x59 w59 ⟨fr59, ow59⟩;have hF60 : Fr [] w w59 := hF48.tr fr59;have rb61 := fr59.range rb49 .nil;have rb62 := fr59.range rb50 .nil;have rb63 := fr59.range r48 .nil;refine wC (wAs (v := x59) (eS hz54) ?_);refine wEk hz54 hd54 fun a64 ha64 hz64 hd64 => ?_;have g64_2 := kP ha64 g54_2;have g64_5 := kP ha64 g54_5;have g64_10 := kP ha64 g54_10;have g64_11 := kP ha64 g54_11;have g64_12 : get a64 12 = x59 := kG ha64 hz54;refine hK58 a64 w59 (tUp ?_);refine wT fun K65 hK65 => ?_;refine wC (wp_loadFlat (cs := [.bool has, .string s]) (b := w.heap.size) (o := 0) hFlT23 rfl (eK g64_5) rb61 ?_);refine wC (wMv (v := .int .i32 num) (eK g64_2) ?_);refine wC (wMv (v := .int .i64 ((n % (mx + 1) : Nat) : Int)) (eK g64_11) ?_);refine wC (wMv (v := x59) (eK g64_12) ?_);rw [wCo];have hoW : OctE w59 (From w48.heap.size w59) x59 (enc ((n % (mx + 1) : Nat) : Int) (decide (fx ≥ 0) && decide (((n % (mx + 1) : Nat) : Int) ≥ fx)) (.mk tn s0 nl l u)) := ow59.octE (by omega);have hbe := hFx.call w59 _ ((n % (mx + 1) : Nat) : Int) has s num _ (enc ((n % (mx + 1) : Nat) : Int) (decide (fx ≥ 0) && decide (((n % (mx + 1) : Nat) : Int) ≥ fx)) (.mk tn s0 nl l u)) er ty uer (by omega) (by omega) hn0 hn1 hoW (by omega) (hF60.cell her .nil) hiface (by intro ys hys; rw [hres] at hys; cases hys; omega);rw [hres, hflv] at hbe;refine wCr (R := fun vz wz => ∃ ov, vz = .tuple #[ov, .bool true] ∧ Fr [] w59 wz ∧ OctE wz (From w59.heap.size wz) ov (frameW key ((n % (mx + 1) : Nat) : Int) num (if has then .s s.data.toList else .nil) (decide (fx ≥ 0) && decide (((n % (mx + 1) : Nat) : Int) ≥ fx)) (enc ((n % (mx + 1) : Nat) : Int) (decide (fx ≥ 0) && decide (((n % (mx + 1) : Nat) : Int) ≥ fx)) (.mk tn s0 nl l u)))) (vs := #[.agg ([.bool has, .string s] : List Value).toArray, .int .i32 num, .int .i64 ((n % (mx + 1) : Nat) : Int), x59]) hFx.enters (mX4 (eS hz64) (eS hz64) (eS hz64) (eS hz64)) (hbe.mono (by rintro e wz ⟨h1, ov, rfl, h2⟩; exact ⟨_, rfl, ov, rfl, h1, h2⟩)) ?_;rintro _ w66 ⟨ov, rfl, fr66, hov⟩;have hF67 : Fr [] w w66 := hF60.tr fr66;have rb68 := fr66.range rb61 .nil;have rb69 := fr66.range rb62 .nil;have rb70 := fr66.range rb63 .nil;have hoW2 := hoW.kept fr66 (by simp) (fun _ h => h);refine wC (wMv (v := .tuple #[ov, .bool true]) (eS hz64) ?_);refine wC (wp_extract (vs := #[ov, .bool true]) (v := ov) (eS hz64) rfl ?_);refine wC (wp_extract (vs := #[ov, .bool true]) (v := .bool true) (eS hz64) rfl ?_);refine wC (wAs (v := ov) (eS hz64) ?_);refine wC (wAs (v := .bool true) (eS hz64) ?_);refine wEk hz64 hd64 fun a71 ha71 hz71 hd71 => ?_;have g71_2 := kP ha71 g64_2;have g71_5 := kP ha71 g64_5;have g71_10 := kP ha71 g64_10;have g71_11 := kP ha71 g64_11;have g71_12 := kP ha71 g64_12;have g71_13 : get a71 13 = ov := kG ha71 hz64;have g71_14 : get a71 14 = .bool true := kG ha71 hz64;refine hK65 a71 w66 (tUp ?_);refine tId (wp_seq_k fun K72 hK72 => ?_);have hoW3 := hoW2.kept (Fr.refl [] w66) (by simp) (fun _ h => h);have hov3 := hov.kept (Fr.refl [] w66) (by simp) (fun _ h => h);refine wp_drawR (os := [oM 46 14 t44 p44 e44, oM 47 46 t45 p45 e45, ⟨some 48, .move (.tmp 13), t46, p46, e46, some (1, true)⟩, ⟨some 49, .move (.tmp 11), t47, p47, e47, some (1, true)⟩, ⟨some 50, .move (.tmp 2), t48, p48, e48, some (1, true)⟩, ⟨some 51, .fieldAddr T23 (.tmp 5) 0, t49, p49, e49, some (1, true)⟩, ⟨some 52, .load T4 (.tmp 51), t50, p50, e50, some (1, true)⟩, ⟨some 53, .fieldAddr T23 (.tmp 5) 1, t51, p51, e51, some (1, true)⟩, ⟨some 54, .load T9 (.tmp 53), t52, p52, e52, some (1, true)⟩, ⟨some 55, .convert T9 T24 (.tmp 54), t53, p53, e53, some (1, true)⟩, ⟨some 56, .load T34 (.tmp 10), t54, p54, e54, some (1, true)⟩, ⟨some 57, .move (.tmp 11), t55, p55, e55, some (1, true)⟩, ⟨some 58, .call ⟨.value (.func f16), #[(.tmp 56), (.tmp 57)], ct7⟩, t56, p56, e56, some (1, true)⟩, ⟨some 59, .move (.tmp 12), t57, p57, e57, some (1, true)⟩, ⟨some 60, .call ⟨.value (.func f15), #[(.const (.int .i64 key)), (.tmp 49), (.tmp 50), (.tmp 52), (.tmp 55), (.tmp 58), (.tmp 59)], ct8⟩, t58, p58, e58, some (1, true)⟩, ⟨some 61, .call ⟨.value (.func f14), #[(.tmp 48), (.tmp 60)], ct9⟩, t59, p59, e59, some (1, true)⟩]) (rest := [⟨some 62, .pick (.tmp 47) (.tmp 61) (.const (.bool false)), t60, p60, e60, none⟩, oT 8 62 t61 p61 e61]) [spC [] (.bool true), spC [0] (.bool true), spC [1] (ov), spC [1] (.int .i64 ((n % (mx + 1) : Nat) : Int)), spC [1] (.int .i32 num), spC [1] (.pointer (some ⟨w.heap.size, 0, none⟩)), spC [1, 5] (.bool has), spC [1] (.pointer (some ⟨w.heap.size, 1, none⟩)), spC [1, 7] (.string s), spR [1, 8] (fun x w' => OctE w' (From w66.heap.size w') x s.data.toList), spC [1] (.agg ([fsv, .int .i64 fx] : List Value).toArray), spC [1] (.int .i64 ((n % (mx + 1) : Nat) : Int)), spR [1, 10, 11] (fun x w' => x = .bool (decide (fx ≥ 0) && decide (((n % (mx + 1) : Nat) : Int) ≥ fx))), spC [1] (x59), spR [1, 3, 4, 6, 9, 12, 13] (fun x w' => OctE w' (From w66.heap.size w') x (frameW key ((n % (mx + 1) : Nat) : Int) num (if has then .s s.data.toList else .nil) (decide (fx ≥ 0) && decide (((n % (mx + 1) : Nat) : Int) ≥ fx)) (enc ((n % (mx + 1) : Nat) : Int) (decide (fx ≥ 0) && decide (((n % (mx + 1) : Nat) : Int) ≥ fx)) (.mk tn s0 nl l u)))), spR [1, 2, 14] (fun x w' => x = .bool true)] 46 [] hmx he11 (by simp [shape]) (by simp [plainO]) (by simp [spC, spR]) (by simp; omega) ⟨lCc _ _ _, lCc _ _ _, lCc _ _ _, lCc _ _ _, lCc _ _ _, lCc _ _ _, lCc _ _ _, lCc _ _ _, lCc _ _ _, (fun v w1 w2 f h => OctE.kept h f (by simp) (fun _ hb => ⟨hb.1, Nat.lt_of_lt_of_le hb.2 f.size⟩)), lCc _ _ _, lCc _ _ _, (fun v w1 w2 f h => h), lCc _ _ _, (fun v w1 w2 f h => OctE.kept h f (by simp) (fun _ hb => ⟨hb.1, Nat.lt_of_lt_of_le hb.2 f.size⟩)), (fun v w1 w2 f h => h), trivial⟩ ?_ ?_
  · refine oCs ?_ ?_
    · refine op_c fun a' w' hk' hf' hd' K' hK' => ?_;refine wMv (v := .bool true) (by rw [eTm, hk'.get 14 (by omega), g71_14]) ?_;exact hK'
    refine oCs ?_ ?_
    · refine op_c fun a' w' hk' hf' hd' K' hK' => ?_;refine wMv (v := .bool true) (by rw [eTm]; exact hd'.c (nd' := []) 0 (by simp) rfl) ?_;exact hK'
    refine oCs ?_ ?_
    · refine op_gy rfl (by decide) (fun a w h => h.c (nd' := [0]) 1 (by simp [spC, spR]) rfl) ?_;refine op_c fun a' w' hk' hf' hd' K' hK' => ?_;refine wMv (v := ov) (by rw [eTm, hk'.get 13 (by omega), g71_13]) ?_;exact hK'
    refine oCs ?_ ?_
    · refine op_gy rfl (by decide) (fun a w h => h.c (nd' := [0]) 1 (by simp [spC, spR]) rfl) ?_;refine op_c fun a' w' hk' hf' hd' K' hK' => ?_;refine wMv (v := .int .i64 ((n % (mx + 1) : Nat) : Int)) (by rw [eTm, hk'.get 11 (by omega), g71_11]) ?_;exact hK'
    refine oCs ?_ ?_
    · refine op_gy rfl (by decide) (fun a w h => h.c (nd' := [0]) 1 (by simp [spC, spR]) rfl) ?_;refine op_c fun a' w' hk' hf' hd' K' hK' => ?_;refine wMv (v := .int .i32 num) (by rw [eTm, hk'.get 2 (by omega), g71_2]) ?_;exact hK'
    refine oCs ?_ ?_
    · refine op_gy rfl (by decide) (fun a w h => h.c (nd' := [0]) 1 (by simp [spC, spR]) rfl) ?_;refine op_c fun a' w' hk' hf' hd' K' hK' => ?_;refine wFa (b := w.heap.size) (i := 0) (hFlT23.fld (by decide)) (by rw [eTm, hk'.get 5 (by omega), g71_5]) ?_;rw [show (0 + 0 : Nat) = 0 from rfl];exact hK'
    refine oCs ?_ ?_
    · refine op_gy rfl (by decide) (fun a w h => h.c (nd' := [0]) 1 (by simp [spC, spR]) rfl) ?_;refine op_c fun a' w' hk' hf' hd' K' hK' => ?_;refine wL0 (j := 0) (v := .bool has) hcT4 (by rw [eTm]; exact hd'.c (nd' := [1]) 5 (by simp) rfl) (hf'.range rb68 .nil) rfl ?_;exact hK'
    refine oCs ?_ ?_
    · refine op_gy rfl (by decide) (fun a w h => h.c (nd' := [0]) 1 (by simp [spC, spR]) rfl) ?_;refine op_c fun a' w' hk' hf' hd' K' hK' => ?_;refine wFa (b := w.heap.size) (i := 0) (hFlT23.fld (by decide)) (by rw [eTm, hk'.get 5 (by omega), g71_5]) ?_;rw [show (0 + 1 : Nat) = 1 from rfl];exact hK'
    refine oCs ?_ ?_
    · refine op_gy rfl (by decide) (fun a w h => h.c (nd' := [0]) 1 (by simp [spC, spR]) rfl) ?_;refine op_c fun a' w' hk' hf' hd' K' hK' => ?_;refine wL0 (j := 1) (v := .string s) hcT9 (by rw [eTm]; exact hd'.c (nd' := [1]) 7 (by simp) rfl) (hf'.range rb68 .nil) rfl ?_;exact hK'
    refine oCs ?_ ?_
    · refine op_gy rfl (by decide) (fun a w h => h.c (nd' := [0]) 1 (by simp [spC, spR]) rfl) ?_;refine op_r fun a' w' hk' hf' hd' K' hK' => ?_;refine wp_toBytes (v := s) (by omega) hST9 hBT24 (by rw [eTm]; exact hd'.c (nd' := [1, 7]) 8 (by simp) rfl) ?_;intro y73 w73 fr73 oy73;exact hK' y73 w73 (oy73.kept (Fr.refl [] _) (by simp) (fun b hb => (⟨Nat.le_trans hf'.size hb.1, hb.2⟩ : From w66.heap.size w73 b))) fr73
    refine oCs ?_ ?_
    · refine op_gy rfl (by decide) (fun a w h => h.c (nd' := [0]) 1 (by simp [spC, spR]) rfl) ?_;refine op_c fun a' w' hk' hf' hd' K' hK' => ?_;refine wp_loadFlat (cs := [fsv, .int .i64 fx]) (b := w37.heap.size) (o := 0) hFlT34 rfl (by rw [eTm, hk'.get 10 (by omega), g71_10]) (hf'.range rb70 .nil) ?_;exact hK'
    refine oCs ?_ ?_
    · refine op_gy rfl (by decide) (fun a w h => h.c (nd' := [0]) 1 (by simp [spC, spR]) rfl) ?_;refine op_c fun a' w' hk' hf' hd' K' hK' => ?_;refine wMv (v := .int .i64 ((n % (mx + 1) : Nat) : Int)) (by rw [eTm, hk'.get 11 (by omega), g71_11]) ?_;exact hK'
    refine oCs ?_ ?_
    · refine op_gy rfl (by decide) (fun a w h => h.c (nd' := [0]) 1 (by simp [spC, spR]) rfl) ?_;refine op_r fun a' w' hk' hf' hd' K' hK' => ?_;refine wCr (R := fun vz wz => vz = .bool (decide (fx ≥ 0) && decide (((n % (mx + 1) : Nat) : Int) ≥ fx)) ∧ Fr [] w' wz) (vs := #[.agg ([fsv, .int .i64 fx] : List Value).toArray, .int .i64 ((n % (mx + 1) : Nat) : Int)]) hFlx.enters (by simp only [List.map_toArray, List.map_cons, List.map_nil]; rw [show a'.eval (.tmp 56) = Value.agg ([fsv, .int .i64 fx] : List Value).toArray from (by rw [eTm]; exact hd'.c (nd' := [1]) 10 (by simp) rfl), show a'.eval (.tmp 57) = Value.int .i64 ((n % (mx + 1) : Nat) : Int) from (by rw [eTm]; exact hd'.c (nd' := [1]) 11 (by simp) rfl)]) ((hFlx.call w' fsv fx ((n % (mx + 1) : Nat) : Int) hfs1).mono (by rintro e wz ⟨rfl, h⟩; exact ⟨_, rfl, rfl, h⟩)) ?_;rintro _ w74 ⟨rfl, fr74⟩;exact hK' _ w74 rfl fr74
    refine oCs ?_ ?_
    · refine op_gy rfl (by decide) (fun a w h => h.c (nd' := [0]) 1 (by simp [spC, spR]) rfl) ?_;refine op_c fun a' w' hk' hf' hd' K' hK' => ?_;refine wMv (v := x59) (by rw [eTm, hk'.get 12 (by omega), g71_12]) ?_;exact hK'
    refine oCs ?_ ?_
    · refine op_gy rfl (by decide) (fun a w h => h.c (nd' := [0]) 1 (by simp [spC, spR]) rfl) ?_;refine op_r fun a' w' hk' hf' hd' K' hK' => ?_;obtain ⟨iv, hiv, hio⟩ : ∃ iv, get a' 55 = iv ∧ OctE w' (From w66.heap.size w') iv s.data.toList := ⟨_, rfl, hd'.at (d := 9) (by simp) rfl⟩;have hfx12 : get a' 58 = .bool (decide (fx ≥ 0) && decide (((n % (mx + 1) : Nat) : Int) ≥ fx)) := hd'.at (d := 12) (by simp) rfl;refine wCr (R := fun vz wz => Fr [] w' wz ∧ OctE wz (From w'.heap.size wz) vz (frameW key ((n % (mx + 1) : Nat) : Int) num (if has then .s s.data.toList else .nil) (decide (fx ≥ 0) && decide (((n % (mx + 1) : Nat) : Int) ≥ fx)) (enc ((n % (mx + 1) : Nat) : Int) (decide (fx ≥ 0) && decide (((n % (mx + 1) : Nat) : Int) ≥ fx)) (.mk tn s0 nl l u)))) (vs := #[.int .i64 key, .int .i64 ((n % (mx + 1) : Nat) : Int), .int .i32 num, .bool has, iv, .bool (decide (fx ≥ 0) && decide (((n % (mx + 1) : Nat) : Int) ≥ fx)), x59]) hFr.enters (by simp only [List.map_toArray, List.map_cons, List.map_nil]; rw [show a'.eval (.const (.int .i64 key)) = Value.int .i64 key from rfl, show a'.eval (.tmp 49) = Value.int .i64 ((n % (mx + 1) : Nat) : Int) from (by rw [eTm]; exact hd'.c (nd' := [1]) 3 (by simp) rfl), show a'.eval (.tmp 50) = Value.int .i32 num from (by rw [eTm]; exact hd'.c (nd' := [1]) 4 (by simp) rfl), show a'.eval (.tmp 52) = Value.bool has from (by rw [eTm]; exact hd'.c (nd' := [1, 5]) 6 (by simp) rfl), show a'.eval (.tmp 55) = iv from (by rw [eTm]; exact hiv), show a'.eval (.tmp 58) = Value.bool (decide (fx ≥ 0) && decide (((n % (mx + 1) : Nat) : Int) ≥ fx)) from (by rw [eTm]; exact hfx12), show a'.eval (.tmp 59) = x59 from (by rw [eTm]; exact hd'.c (nd' := [1]) 13 (by simp) rfl)]) ((hFr.call w' _ _ key ((n % (mx + 1) : Nat) : Int) num has iv s.data.toList (decide (fx ≥ 0) && decide (((n % (mx + 1) : Nat) : Int) ≥ fx)) _ (enc ((n % (mx + 1) : Nat) : Int) (decide (fx ≥ 0) && decide (((n % (mx + 1) : Nat) : Int) ≥ fx)) (.mk tn s0 nl l u)) _ hio (hoW3.kept hf' (by simp) (fun _ h => h)) rfl (i32_lo hn0) (i32_hi hn1) (by omega)).mono (by rintro e wz ⟨v, rfl, h1, h2⟩; exact ⟨_, rfl, h1, h2.octE (frameW_le (by omega))⟩)) ?_;rintro x75 w75 ⟨fr75, ox75⟩;exact hK' x75 w75 (ox75.kept (Fr.refl [] _) (by simp) (fun c hb => (⟨Nat.le_trans hf'.size hb.1, hb.2⟩ : From w66.heap.size w75 c))) fr75
    refine oCs ?_ ?_
    · refine op_gy rfl (by decide) (fun a w h => h.c (nd' := [0]) 1 (by simp [spC, spR]) rfl) ?_;refine op_r fun a' w' hk' hf' hd' K' hK' => ?_;obtain ⟨fv, hfv, hfo⟩ : ∃ fv, get a' 60 = fv ∧ OctE w' (From w66.heap.size w') fv (frameW key ((n % (mx + 1) : Nat) : Int) num (if has then .s s.data.toList else .nil) (decide (fx ≥ 0) && decide (((n % (mx + 1) : Nat) : Int) ≥ fx)) (enc ((n % (mx + 1) : Nat) : Int) (decide (fx ≥ 0) && decide (((n % (mx + 1) : Nat) : Int) ≥ fx)) (.mk tn s0 nl l u))) := ⟨_, rfl, hd'.at (d := 14) (by simp) rfl⟩;refine wCr (R := fun vz wz => vz = .bool true ∧ Fr [] w' wz) (vs := #[ov, fv]) hSame.enters (by simp only [List.map_toArray, List.map_cons, List.map_nil]; rw [show a'.eval (.tmp 48) = ov from (by rw [eTm]; exact hd'.c (nd' := [1]) 2 (by simp) rfl), show a'.eval (.tmp 60) = fv from (by rw [eTm]; exact hfv)]) ((hSame.call w' _ _ _ _ _ (hov3.kept hf' (by simp) (fun _ h => h)) hfo).mono (by rintro e wz ⟨rfl, h⟩; exact ⟨_, rfl, rfl, h⟩)) ?_;rintro _ w76 ⟨rfl, fr76⟩;exact hK' _ w76 rfl fr76
    exact opsOk_nil
  intro a77 w77 k77 f77 hd_77;have hz77 : a77.tmps.size = 63 := k77.size.trans hz71;have hd77 : a77.defers = [] := k77.defers.trans hd71;have g77_47 : get a77 47 = .bool true := hd_77.c (nd' := [0]) 1 (by simp) rfl;have hF78 : Fr [] w w77 := hF67.tr f77;have rb79 := f77.range rb68 .nil;have rb80 := f77.range rb69 .nil;have rb81 := f77.range rb70 .nil;have g77_61 : get a77 61 = .bool true := hd_77.at (d := 15) (by simp) rfl;refine wC (wp_pickYes (v := .bool true) (eK g77_47) (eK g77_61) ?_);refine wC (wAs (v := .bool true) (eS hz77) ?_);refine wEk hz77 hd77 fun a82 ha82 hz82 hd82 => ?_;have g82_8 : get a82 8 = .bool true := kG ha82 hz77;refine hK72 a82 w77 (tUp ?_);refine wp_ret ?_;exact ⟨hd82, _, rIs hres' g82_8, rfl, hF78⟩
end Go.Kq

namespace Go.Kq
open Go Go.Proofs Go.ChangeShapes Go.WideShapes Go.RowKit
section
variable {H : Type} {enc : TypeId × Value → H} {P : Program}
theorem octs_of_ints {w : World} {b o : Nat} : ∀ (zs : List Int), (∀ i, i < zs.length → w.cell? ⟨b, o + i, none⟩ = some (.int .u8 (zs.getD i 0))) → (∀ n ∈ zs, (Lit.int .u8 n).wf = true) →
    w.rangeAt b o (octets (zs.map fun z => UInt8.ofNat z.toNat)) := by
  intro zs h hw j v hv;simp only [octets, List.map_map, List.getElem?_map, Option.map_eq_some_iff] at hv;obtain ⟨z, hz, rfl⟩ := hv;have hj : j < zs.length := (List.getElem?_eq_some_iff.1 hz).1;rw [h j hj];have hzz : zs.getD j 0 = z := by rw [List.getD, hz]; rfl
  have hwz := hw z (List.mem_of_getElem? hz);simp only [Lit.wf] at hwz;have hb : 0 ≤ z ∧ z ≤ 255 := by simpa [IntKind.min, IntKind.max, IntKind.signed, IntKind.bits] using hwz
  rw [hzz];simp only [Function.comp_apply, UInt8.toNat_ofNat', Option.some.injEq, Value.int.injEq, true_and];omega
theorem err_of_laid {W : World} {name nm : String} {d : DataW Unit} {g : Nat} {ti : TypeId} {ms : Array (String × TypeId)} (hg : P.globalNamed name = some g) (hty : (P.globals[g]?).map (·.type) = some ti) (hi : P.underlying ti = some (.interface ms))
    (h : laidMet P [(name, .iface nm d)] W) : ∃ u v, W.cell? ⟨g, 0, none⟩ = some (.iface u v) := by
  obtain ⟨ps, ⟨g', t', cs, fuel, p, q, hg', ht', hvar, hd, _, _⟩, _⟩ := h;obtain rfl := Option.some.inj (hg.symm.trans hg');obtain rfl := Option.some.inj (hty.symm.trans ht');obtain ⟨l⟩ := cs;obtain ⟨_, u, v, hl, _⟩ := iface_of_trod hi hd;have : l = [.iface u v] := by simpa using hl
  subst this;exact ⟨u, v, World.var?_cell hg hvar 0⟩
theorem trodAll_stays (hl : laidOutB P = true) {W W' : World} {base : Nat} {sp' : Nat → Bool} :
    ∀ {ts : List TypeId} {vs : List Value} {ds : List (DataW H)} {ps : List MemPlace}, (∀ t ∈ ts, P.readableRec t = true ∧ t < P.types.size) → DataW.TrodAll enc P W base (fun _ => true) true ts vs ds ps →
      (∀ p ∈ ps, W.sameAt W' p) → (∀ p ∈ ps, sp' p.block = true) → DataW.TrodAll enc P W' base sp' true ts vs ds ps
  | [], _, _, _, _, h, _, _ => by
    obtain ⟨rfl, rfl, rfl⟩ := trodAll_nil h;exact h
  | t :: ts, _, _, _, ht, h, hs, hp => by
    obtain ⟨v, vs1, d, ds1, a, b, rfl, rfl, rfl, h1, h2⟩ := trodAll_cons h;exact ⟨a, b, WideElems.Trod_stays hl (ht t (by simp)).1 (ht t (by simp)).2 h1 (fun p hp' => hs p (List.mem_append_left _ hp')) (fun p hp' => hp p (List.mem_append_left _ hp')),
      trodAll_stays hl (fun t ht' => ht t (by simp [ht'])) h2 (fun p hp' => hs p (List.mem_append_right _ hp')) (fun p hp' => hp p (List.mem_append_right _ hp')), rfl⟩
theorem post_true (hl : laidOutB P = true) {f : Func} {s : ChangeSpec} {apart fresh handsOn again : Bool} {W W' : World} {args : Array Value} {ds gs : List (DataW H)} {before p : List MemPlace} {rt : TypeId}
    (hW : DataW.Whole enc P f.params.toList s.vars apart W args.toList ds gs before) (hv : s.vars = []) (hA : DataW.TrodAll enc P W 0 (fun _ => true) true f.params.toList args.toList ds p) (hbp : before = p) (hgs : gs = [])
    (hs : s.fn H (ds ++ gs) = { results := [.lit (.bool true)], args := ds }) (hrt : f.resultTypes = #[rt]) (hb : P.underlying rt = some .bool)
    (hrd : ∀ t ∈ f.params.toList, P.readableRec t = true ∧ t < P.types.size) (hF : Fr [] W W') :
    s.post enc P f apart fresh handsOn again W args (.bool true) W' := by
  subst hbp;have hbl := hF.below;have hlt : ∀ x ∈ before, x.block < W.heap.size := fun x hx => hW.lt x hx;have hold : ∀ x ∈ before, (fun b => decide (b < W.heap.size)) x.block = true := fun x hx => by simpa using hlt x hx
  have hres : ∀ (b : Nat) (sp : Nat → Bool) (hd : Bool), DataW.TrodAll enc P W' b sp hd f.resultTypes.toList ((Value.bool true).resultList f.resultTypes.size) (s.fn H (ds ++ gs)).results [] := by
    intro b sp hd;rw [hs, hrt];exact trodAll_cons_mk (shut_bool hb true) trodAll_mk0
  have hargs : ∀ sp : Nat → Bool, (∀ x ∈ before, sp x.block = true) → DataW.TrodAll enc P W' 0 sp true f.params.toList args.toList (s.fn H (ds ++ gs)).args before := by
    intro sp hsp;rw [hs];exact trodAll_stays hl hrd hA (fun x hx => hbl.same (hlt x hx)) hsp
  have hvars : ∀ sp : Nat → Bool, DataW.TrodVars enc P W' sp s.vars (s.fn H (ds ++ gs)).vars [] := by
    intro sp;rw [hv, hs];exact (rfl : ([] : List MemPlace) = [])
  refine ⟨ds, gs, before, [], before, [], hW, hres _ _ _, hargs _ hold, hvars _, World.keptBut_mono (fun x hx => ⟨hx, ?_⟩) (hbl.frame (· ∈ before)), fun _ => ?_⟩
  · exact Or.inr (Or.inl hx)
  obtain ⟨_, _, _, _, _, hz, hn⟩ := hW;refine ⟨?_, _, _, ([] ++ before) ++ [], ⟨[] ++ before, [], trodAll_append (hargs _ (fun _ _ => rfl)) (hres _ _ _), hvars _, rfl, ?_, ?_⟩, ?_⟩
  · exact ok_one (by rw [hrt]) rfl (okWide_bool_mk hb _)
  · intro b off hp;have hin : MemPlace.cell b off ∈ before := by simpa using hp
    rw [hbl.frozen (hlt _ hin)];exact hz b off hin
  · intro ha
    simpa using hn ha
  intro x hx _
  simpa using hx
end
end Go.Kq

namespace Go.Kq
open Go Go.Proofs Go.ChangeShapes Go.WideShapes Go.RowKit
theorem cell_in {w : World} {a : Addr} {v : Value} (h : w.cell? a = some v) : a.spot = none ∧ a.block < w.heap.size := by
  unfold World.cell? at h
  split at h
  · rename_i c e f hb
    refine ⟨?_, lt_of_block hb⟩
    cases hs : a.spot with
    | none => rfl
    | some x => simp [hs] at h
  simp at h
theorem cells_in {w : World} {base : Nat} {a : Addr} {n : Nat} {cs : List Value} (h : w.cells? base a n = some cs) (hn : 0 < n) : a.spot = none ∧ a.block < w.heap.size := by
  obtain ⟨_, h1, h2⟩ := World.cells?_some h;have h3 := h2 0 hn;have h4 : ∃ v, cs[0]? = some v := ⟨cs[0]'(by omega), by simp⟩;obtain ⟨v, hv⟩ := h4;rw [hv] at h3;exact cell_in (a := a.add 0) h3
structure Bulk {H : Type} (bk : DataW H → Nat) (bks : List (DataW H) → Nat) : Prop where
  lit : ∀ l, 1 ≤ bk (.lit l)
  nil : 1 ≤ bk .nil
  sl : ∀ es ss, bk (.slice es ss) = bks es + bks ss + 1
  agg : ∀ ps, bk (.agg ps) = bks ps + 1
  n : bks [] = 0
  c : ∀ d r, bks (d :: r) = bk d + bks r
theorem Bulk.lits {H : Type} {bk : DataW H → Nat} {bks : List (DataW H) → Nat} (h : Bulk bk bks) (k : IntKind) : ∀ zs : List Int, zs.length ≤ bks (lits k zs)
  | [] => by simp [ChangeShapes.lits, h.n]
  | z :: zs => by
    have h1 := Bulk.lits h k zs;have h2 := h.lit (.int k z);simp only [ChangeShapes.lits, List.map_cons, h.c, List.length_cons] at h1 ⊢;omega
section
variable {H : Type} {enc : TypeId × Value → H} {P : Program} {bk : DataW H → Nat} {bks : List (DataW H) → Nat}
theorem oct_of_trod {W : World} {t e : TypeId} {fuel : Nat} {cs : List Value} {x : DataW H × List MemPlace} (hbk : Bulk bk bks) (ht : P.underlying t = some (.slice e)) (he : P.underlying e = some (.int .u8)) (hc : P.cellsOf e = 1)
    (h : DataW.trod enc P W 0 (fun _ => true) true fuel t cs = some x) (hb : bk x.1 ≤ 4294967296) : ∃ v xs, cs = [v] ∧ OctE W (fun b => b < W.heap.size) v xs ∧ xs.length + 1 ≤ bk x.1 := by
  rcases open_ints ht he hc h with ⟨rfl, rfl⟩ | ⟨a, len, cap, zs, rfl, _, hl, hm, hz, rfl, hcell, hwz⟩
  · exact ⟨_, [], rfl, .nil, by simpa using hbk.nil⟩
  simp only [if_true] at hz
  by_cases hc0 : cap = 0
  · subst hc0;obtain rfl : len = 0 := by omega
    exact ⟨_, [], rfl, .inr ⟨⟨a, rfl⟩, rfl⟩, by simp only [hbk.sl, List.length_nil]; omega⟩
  obtain ⟨hsp, hbl⟩ : a.spot = none ∧ a.block < W.heap.size := cell_in (a := a.add 0) (hcell 0 (by omega));obtain ⟨b, o, spot⟩ := a;simp only at hsp hbl;subst hsp;have hr := octs_of_ints (b := b) (o := o) zs (fun i hi => by have := hcell i hi; rwa [Addr.add_lit] at this) hwz;have h1 := hbk.lits .u8 (zs.take len);have h2 := hbk.sl (lits .u8 (zs.take len)) (lits .u8 (zs.drop len));have hlen : (zs.take len).length = len := by simp; omega
  simp only [h2] at hb;refine ⟨_, (zs.take len).map fun z => UInt8.ofNat z.toNat, rfl, .inl ⟨some _, .inr ⟨b, o, cap, _, hbl, ?_, ⟨?_, ?_⟩, ?_, rfl⟩, rfl⟩, ?_⟩
  · rw [List.length_map, hlen]
  · rw [List.length_map, hlen]; exact hl
  · rw [List.length_map]; omega
  · have := range_part hr 0 len
    simpa [octets_take, octets_drop, List.map_take] using this
  rw [List.length_map, h2]; omega
theorem bks_get (hbk : Bulk bk bks) : ∀ {l : List (DataW H)} {i : Nat} {d : DataW H}, l[i]? = some d → bk d ≤ bks l
  | [], _, _, h => by simp at h
  | e :: l, 0, d, h => by simp at h; subst h; rw [hbk.c]; omega
  | e :: l, i + 1, d, h => by have := bks_get hbk (l := l) (i := i) (by simpa using h); rw [hbk.c]; omega
theorem elems_of_trod {W : World} {t e : TypeId} {fuel : Nat} {v : Value} {x : DataW H × List MemPlace} (hbk : Bulk bk bks) (ht : P.underlying t = some (.slice e))
    (hpos : 0 < P.cellsOf e) (h : DataW.trod enc P W 0 (fun _ => true) true fuel t [v] = some x) :
    ((v = .slice none 0 0 ∨ Void v) ∧ 1 ≤ bk x.1) ∨ ∃ b o len cap n, ∃ ds : List (DataW H × List MemPlace), fuel = n + 1 ∧ v = .slice (some ⟨b, o, none⟩) len cap ∧ b < W.heap.size ∧ len ≤ cap ∧ ds.length = len ∧ bks (ds.map (·.1)) + 1 ≤ bk x.1 ∧
      ∀ i, i < len → ∃ es d, W.rangeAt b (o + i * P.cellsOf e) es ∧ es.length = P.cellsOf e ∧ ds[i]? = some d ∧ DataW.trod enc P W 0 (fun _ => true) true n e es = some d := by
  rcases DataW.trod_slice ht h with ⟨h1, rfl⟩ | ⟨a, len, cap, elems, rest, n, rfl, hv, rfl, hb, hl, hm, hlen, hel, hsr, _⟩
  · left; simp at h1; exact ⟨.inl h1, hbk.nil⟩
  simp at hv; subst hv
  by_cases hc0 : cap = 0
  · subst hc0;obtain rfl : len = 0 := by omega
    exact .inl ⟨.inr ⟨a, rfl⟩, by simp only [hbk.sl]; omega⟩
  right
  obtain ⟨hsp, hbl⟩ : a.spot = none ∧ a.block < W.heap.size := by
    by_cases hl0 : len = 0
    · obtain ⟨h1, h2⟩ := hsr rfl;have h3 := h2 0 (by omega);have h4 : ∃ y, rest[0]? = some y := ⟨rest[0]'(by omega), by simp⟩;obtain ⟨y, hy⟩ := h4;rw [hy, Option.bind_eq_some_iff] at h3;obtain ⟨es, h5, _⟩ := h3;exact cells_in (a := a) (by simpa [hl0, Addr.add] using h5) hpos
    have h3 := hel 0 (by omega);have h4 : ∃ y, elems[0]? = some y := ⟨elems[0]'(by omega), by simp⟩;obtain ⟨y, hy⟩ := h4;rw [hy, Option.bind_eq_some_iff] at h3;obtain ⟨es, h5, _⟩ := h3;exact cells_in (a := a) (by simpa [Addr.add] using h5) hpos
  obtain ⟨b, o, spot⟩ := a;simp only at hsp hbl;subst hsp;refine ⟨b, o, len, cap, n, elems, rfl, rfl, hbl, hl, hlen, by rw [hbk.sl]; omega, fun i hi => ?_⟩;have h2 := hel i hi;have hge : elems[i]? = some elems[i] := by simp [hlen, hi]
  rw [hge, Option.bind_eq_some_iff] at h2;obtain ⟨es, h3, h4⟩ := h2;obtain ⟨_, h5, h6⟩ := World.cells?_some h3;refine ⟨es, elems[i], fun j u hj => ?_, h5, hge, h4⟩;have hjl := (List.getElem?_eq_some_iff.1 hj).1;have := h6 j (by omega);rw [Addr.add_mid, Addr.add_mid] at this;rw [this]; exact hj
theorem list_of {α : Type} : ∀ {len : Nat} {R : Nat → α → Prop}, (∀ i, i < len → ∃ y, R i y) → ∃ l : List α, l.length = len ∧ ∀ i y, l[i]? = some y → R i y
  | 0, R, _ => ⟨[], rfl, by simp⟩
  | n + 1, R, h => by
    obtain ⟨y, hy⟩ := h 0 (by omega);obtain ⟨l, h1, h2⟩ := list_of (len := n) (R := fun i y => R (i + 1) y) fun i hi => h (i + 1) (by omega);refine ⟨y :: l, by simp [h1], fun i z hz => ?_⟩
    cases i with
    | zero => simp at hz; subst hz; exact hy
    | succ i => exact h2 i z (by simpa using hz)
theorem sum_le (hbk : Bulk bk bks) {α : Type} {f : α → Nat} : ∀ {l : List α} {ds : List (DataW H × List MemPlace)}, l.length = ds.length → (∀ (i : Nat) (y : α) (d : DataW H × List MemPlace), l[i]? = some y → ds[i]? = some d → f y ≤ bk d.1) → (l.map f).sum ≤ bks (ds.map (·.1))
  | [], [], _, _ => by simp [hbk.n]
  | [], _ :: _, h, _ => by simp at h
  | _ :: _, [], h, _ => by simp at h
  | y :: l, d :: ds, h, hl => by
    have h1 := hl 0 y d rfl rfl;have h2 := sum_le hbk (l := l) (ds := ds) (by simpa using h) fun i y d hy hd => hl (i + 1) y d (by simpa using hy) (by simpa using hd);simp only [List.map_cons, List.sum_cons, hbk.c]; omega
def tagWt (u : List (Nat × List UInt8)) : Nat := (u.map fun p => p.2.length + 1).sum
theorem tags_of_trod {W : World} {t e t32 tS e8 : TypeId} {fs : Array Field} {fuel : Nat} {v : Value} {x : DataW H × List MemPlace} (hbk : Bulk bk bks) (ht : P.underlying t = some (.slice e)) (he : P.underlying e = some (.struct fs)) (hc : P.cellsOf e = 2)
    (hf0 : fs[0]?.map (fun f => (f.type, f.offset)) = some (t32, 0)) (hf1 : fs[1]?.map (fun f => (f.type, f.offset)) = some (tS, 1)) (hc0 : P.cellsOf t32 = 1) (hc1 : P.cellsOf tS = 1) (h32 : P.underlying t32 = some (.int .u32))
    (hS : P.underlying tS = some (.slice e8)) (h8 : P.underlying e8 = some (.int .u8)) (hc8 : P.cellsOf e8 = 1)
    (h : DataW.trod enc P W 0 (fun _ => true) true fuel t [v] = some x) (hb : bk x.1 ≤ 4294967296) : ∃ u, TagsR W (fun b => b < W.heap.size) v u ∧ tagWt u + 1 ≤ bk x.1 ∧ ∀ p ∈ u, p.1 < 4294967296 := by
  rcases elems_of_trod hbk ht (by omega) h with ⟨hv0, h1⟩ | ⟨b, o, len, cap, n, ds, rfl, rfl, hbl, hl, hdl, hbd, hel⟩
  · exact ⟨[], .inl ⟨hv0, rfl⟩, by simpa [tagWt] using h1, by simp⟩
  have each : ∀ i, i < len → ∃ y : Nat × List UInt8, y.1 < 4294967296 ∧ (∃ xv, W.rangeAt b (o + i * 2) [.int .u32 y.1, xv] ∧ OctE W (fun b => b < W.heap.size) xv y.2) ∧ ∀ d, ds[i]? = some d → y.2.length + 1 ≤ bk d.1 := by
    intro i hi;obtain ⟨es, d, hr, hle, hd, htr⟩ := hel i hi;rw [hc] at hr hle
    match es, hle with
    | [c0, c1], _ =>
      obtain ⟨xs, m, rfl, rfl, _, hxl, hxs⟩ := DataW.trod_struct he htr;obtain ⟨f0, hf0', e0⟩ := Option.map_eq_some_iff.1 hf0;obtain ⟨f1, hf1', e1⟩ := Option.map_eq_some_iff.1 hf1;simp only [Prod.mk.injEq] at e0 e1;have q0 := hxs 0 f0 hf0';have q1 := hxs 1 f1 hf1';rw [e0.1, e0.2, hc0] at q0;rw [e1.1, e1.2, hc1] at q1;simp only [List.drop_zero, List.take_succ_cons, List.take_zero, List.drop_succ_cons] at q0 q1;have hn0 : ∃ y0, xs[0]? = some y0 := by
        have := (Array.getElem?_eq_some_iff.1 hf0').1;exact ⟨xs[0]'(by omega), by simp⟩
      have hn1 : ∃ y1, xs[1]? = some y1 := by
        have := (Array.getElem?_eq_some_iff.1 hf1').1;exact ⟨xs[1]'(by omega), by simp⟩
      obtain ⟨y0, hy0⟩ := hn0;obtain ⟨y1, hy1⟩ := hn1;rw [hy0] at q0;rw [hy1] at q1;obtain ⟨k, hk, _, hw⟩ := DataW.trod_int h32 q0;simp at hk; subst hk
      have hdb : bk (DataW.agg (xs.map (·.1))) ≤ 4294967296 := by
        have h5 := bks_get hbk (l := ds.map (·.1)) (i := i) (d := DataW.agg (xs.map (·.1))) (by rw [List.getElem?_map, hd]; rfl);omega
      have hy1b : bk y1.1 + 1 ≤ bk (DataW.agg (xs.map (·.1))) := by
        rw [hbk.agg];have := bks_get hbk (l := xs.map (·.1)) (i := 1) (d := y1.1) (by rw [List.getElem?_map, hy1]; rfl);omega
      rw [range_cons, range_one] at hr;obtain ⟨v1, xs1, hv1, ho, hl1⟩ := oct_of_trod hbk hS h8 hc8 q1 (by omega);simp at hv1; subst hv1
      have hk0 : 0 ≤ k ∧ k < 4294967296 := by
        simp [Lit.wf, IntKind.min, IntKind.max, IntKind.signed, IntKind.bits] at hw; omega
      obtain ⟨k', rfl⟩ := Int.eq_ofNat_of_zero_le hk0.1;refine ⟨(k', xs1), by simp only; omega, ⟨c1, by rw [range_cons, range_one]; exact hr, ho⟩, ?_⟩;intro d' hd';rw [hd] at hd'
      cases hd'
      simp only; omega
  obtain ⟨u, hu1, hu2⟩ := list_of each;have hsum := sum_le hbk (f := fun p : Nat × List UInt8 => p.2.length + 1) (l := u) (ds := ds) (by omega) fun i y d hy hd => (hu2 i y hy).2.2 d hd;have hlen : u.length ≤ (u.map fun p => p.2.length + 1).sum := by
    clear hu1 hu2 hsum
    induction u with
    | nil => simp
    | cons p u ih => simp only [List.map_cons, List.sum_cons, List.length_cons]; omega
  refine ⟨u, .inr ⟨b, o, cap, hbl, by rw [hu1], ⟨by omega, by omega⟩, fun i k xx hi => ?_⟩, by simp only [tagWt]; omega, ?_⟩
  · obtain ⟨g1, ⟨xv, g2, g3⟩, _⟩ := hu2 i _ hi;exact ⟨xv, g1, g2, g3⟩
  intro p hp;obtain ⟨i, hi⟩ := List.getElem?_of_mem hp;exact (hu2 i p hi).1
end
mutual
/-- How much a tree weighs. -/
def tw : T → Nat
  | .mk _ s _ l u => 1 + s.length + tws l + tagWt u
def tws : List T → Nat
  | [] => 0
  | t :: r => tw t + tws r
end
theorem tws_sum : ∀ l : List T, tws l = (l.map tw).sum
  | [] => rfl
  | t :: r => by rw [tws, tws_sum r]; simp
inductive KeysOk : T → Prop where
  | mk {n : Int} {s : List UInt8} {nl : Bool} {l : List T} {u : List (Nat × List UInt8)} (hu : ∀ p ∈ u, p.1 < 4294967296) (hl : ∀ y ∈ l, KeysOk y) : KeysOk (.mk n s nl l u)
structure TIds (P : Program) (TT TL tN tS tB tU tG t32 t8 : TypeId) (fs gs : Array Field) : Prop where
  tt : P.underlying TT = some (.struct fs)
  c5 : P.cellsOf TT = 5
  sz : fs.size = 5
  f0 : fs[0]?.map (fun f => (f.type, f.offset)) = some (tN, 0)
  f1 : fs[1]?.map (fun f => (f.type, f.offset)) = some (tS, 1)
  f2 : fs[2]?.map (fun f => (f.type, f.offset)) = some (tB, 2)
  f3 : fs[3]?.map (fun f => (f.type, f.offset)) = some (TL, 3)
  f4 : fs[4]?.map (fun f => (f.type, f.offset)) = some (tU, 4)
  cN : P.cellsOf tN = 1
  cS : P.cellsOf tS = 1
  cB : P.cellsOf tB = 1
  cL : P.cellsOf TL = 1
  cU : P.cellsOf tU = 1
  n : P.underlying tN = some (.int .i64)
  s : P.underlying tS = some (.slice t8)
  b : P.underlying tB = some .bool
  l : P.underlying TL = some (.slice TT)
  u : P.underlying tU = some (.slice tG)
  u8 : P.underlying t8 = some (.int .u8)
  c8 : P.cellsOf t8 = 1
  g : P.underlying tG = some (.struct gs)
  cG : P.cellsOf tG = 2
  g0 : gs[0]?.map (fun f => (f.type, f.offset)) = some (t32, 0)
  g1 : gs[1]?.map (fun f => (f.type, f.offset)) = some (tS, 1)
  c32 : P.cellsOf t32 = 1
  u32 : P.underlying t32 = some (.int .u32)
section
variable {H : Type} {enc : TypeId × Value → H} {P : Program} {bk : DataW H → Nat} {bks : List (DataW H) → Nat}
theorem fld_of {fs : Array Field} {cs : List Value} {xs : List (DataW H × List MemPlace)} {W : World} {m i o : Nat} {t : TypeId} (h : fs[i]?.map (fun f => (f.type, f.offset)) = some (t, o)) (hc : P.cellsOf t = 1) (hl : xs.length = fs.size)
    (hxs : ∀ (i : Nat) (f : Field), fs[i]? = some f → DataW.trod enc P W 0 (fun _ => true) true m f.type ((cs.drop f.offset).take (P.cellsOf f.type)) = xs[i]?) : ∃ y, xs[i]? = some y ∧ DataW.trod enc P W 0 (fun _ => true) true m t ((cs.drop o).take 1) = some y := by
  obtain ⟨f, hf, e⟩ := Option.map_eq_some_iff.1 h;simp only [Prod.mk.injEq] at e;have q := hxs i f hf;rw [e.1, e.2, hc] at q;have := (Array.getElem?_eq_some_iff.1 hf).1;exact ⟨xs[i]'(by omega), by simp, by rw [q]; simp⟩
theorem tree_of_trod {TT TL tN tS tB tU tG t32 t8 : TypeId} {fs gs : Array Field} {W : World} (hbk : Bulk bk bks) (I : TIds P TT TL tN tS tB tU tG t32 t8 fs gs) :
    ∀ (fuel : Nat) (cs : List Value) (x : DataW H × List MemPlace), DataW.trod enc P W 0 (fun _ => true) true fuel TT cs = some x → bk x.1 ≤ 4294967296 → ∃ t, RepT W (fun b => b < W.heap.size) cs t ∧ tw t ≤ bk x.1 ∧ KeysOk t := by
  intro fuel
  induction fuel using Nat.strongRecOn with
  | _ fuel ih =>
    intro cs x h hb;obtain ⟨xs, m, rfl, rfl, hcl, hxl, hxs⟩ := DataW.trod_struct I.tt h;rw [I.c5] at hcl
    match cs, hcl with
    | [c0, c1, c2, c3, c4], _ =>
      obtain ⟨y0, hy0, q0⟩ := fld_of (P := P) I.f0 I.cN hxl hxs;obtain ⟨y1, hy1, q1⟩ := fld_of (P := P) I.f1 I.cS hxl hxs;obtain ⟨y2, hy2, q2⟩ := fld_of (P := P) I.f2 I.cB hxl hxs;obtain ⟨y3, hy3, q3⟩ := fld_of (P := P) I.f3 I.cL hxl hxs;obtain ⟨y4, hy4, q4⟩ := fld_of (P := P) I.f4 I.cU hxl hxs;simp only [List.drop_zero, List.take_succ_cons, List.take_zero, List.drop_succ_cons] at q0 q1 q2 q3 q4;rw [I.sz] at hxl;have hxe : xs = [y0, y1, y2, y3, y4] := by
        match xs, hxl with
        | [a0, a1, a2, a3, a4], _ => simp at hy0 hy1 hy2 hy3 hy4; simp [hy0, hy1, hy2, hy3, hy4]
      subst hxe;simp only [List.map_cons, List.map_nil, hbk.agg, hbk.c, hbk.n] at hb ⊢;obtain ⟨n, hn, _, hwn⟩ := DataW.trod_int I.n q0;simp at hn; subst hn
      obtain ⟨nl, hnl, _⟩ := DataW.trod_bool I.b q2;simp at hnl; subst hnl
      obtain ⟨v1, s, hv1, ho, hsl⟩ := oct_of_trod hbk I.s I.u8 I.c8 q1 (by omega);simp at hv1; subst hv1
      obtain ⟨u, hu, huw, huk⟩ := tags_of_trod hbk I.u I.g I.cG I.g0 I.g1 I.c32 I.cS I.u32 I.s I.u8 I.c8 q4 (by omega);have hn64 : -9223372036854775808 ≤ n ∧ n ≤ 9223372036854775807 := by
        simpa [Lit.wf, IntKind.min, IntKind.max, IntKind.signed, IntKind.bits] using hwn
      have hL : ∃ l, Things W (fun b => b < W.heap.size) c3 l ∧ tws l + 1 ≤ bk y3.1 ∧ ∀ y ∈ l, KeysOk y := by
        rcases elems_of_trod hbk I.l (by rw [I.c5]; omega) q3 with ⟨hv0, h1⟩ | ⟨b, o, len, cap, k, ds, rfl, rfl, hbl, hl, hdl, hbd, hel⟩
        · exact ⟨[], .inl ⟨hv0, rfl⟩, by simpa [tws] using h1, by simp⟩
        have each : ∀ i, i < len → ∃ t, (RepT W (fun b => b < W.heap.size) (cellsAt W b (o + i * 5) 5) t ∧ W.rangeAt b (o + i * 5) (cellsAt W b (o + i * 5) 5)) ∧ (∀ d, ds[i]? = some d → tw t ≤ bk d.1) ∧ KeysOk t := by
          intro i hi;obtain ⟨es, d, hr, hle, hd, htr⟩ := hel i hi;rw [I.c5] at hr hle;have hd5 := bks_get hbk (l := ds.map (·.1)) (i := i) (d := d.1) (by rw [List.getElem?_map, hd]; rfl);obtain ⟨t, h1, h2, h3⟩ := ih k (by omega) es d htr (by omega);have hce := range_cellsAt hr;rw [hle] at hce;rw [← hce];exact ⟨t, ⟨h1, hr⟩, fun d' hd' => by rw [hd] at hd'; cases hd'; exact h2, h3⟩
        obtain ⟨l, hl1, hl2⟩ := list_of each;have hsum := sum_le hbk (f := tw) (l := l) (ds := ds) (by omega) fun i y d hy hd => (hl2 i y hy).2.1 d hd;have hlen : l.length ≤ (l.map tw).sum := by
          clear hl1 hl2 hsum
          induction l with
          | nil => simp
          | cons p l ih =>
            have : 1 ≤ tw p := by cases p; rw [tw]; omega
            simp only [List.map_cons, List.sum_cons, List.length_cons]; omega
        rw [← tws_sum] at hsum hlen;refine ⟨l, .inr ⟨b, o, cap, hbl, by rw [hl1], ⟨by omega, by omega⟩, fun i => cellsAt W b (o + i * 5) 5, fun i y hi => (hl2 i y hi).1.2, fun i y hi => (hl2 i y hi).1.1⟩, by omega, fun y hy => ?_⟩;obtain ⟨i, hi⟩ := List.getElem?_of_mem hy;exact (hl2 i y hi).2.2
      obtain ⟨l, hl, hlw, hlk⟩ := hL;refine ⟨.mk n s nl l u, repT_iff.2 ⟨_, _, _, rfl, hn64, ho, hl, hu⟩, ?_, .mk huk hlk⟩;rw [tw]; omega
end
end Go.Kq

namespace Go.Kq
open Go
def Inv (f : Rd) (ver : Int) (fl : Bool) (ap : V → List UInt8) (out : List UInt8) : Prop :=
  ∀ rest nl, (nl = true → out ++ rest = []) → ∃ x, f ver fl ⟨out ++ rest, nl, false⟩ = some (x, ⟨rest, nl, false⟩) ∧ ap x = out
def InvL (f : Rd) (ver : Int) (fl : Bool) (gs : List (V → List UInt8)) (out : List UInt8) : Prop :=
  ∀ rest nl, (nl = true → out ++ rest = []) → ∃ xs, f ver fl ⟨out ++ rest, nl, false⟩ = some (.l xs, ⟨rest, nl, false⟩) ∧ apAll gs xs = out
theorem invl_nil {ver : Int} {fl : Bool} : InvL rdSt0 ver fl [] [] := fun rest nl _ => ⟨[], rfl, rfl⟩
theorem invl_cons {f g : Rd} {ver : Int} {fl : Bool} {a : V → List UInt8} {gs : List (V → List UInt8)} {o1 o2 : List UInt8} (h1 : Inv f ver fl a o1) (h2 : InvL g ver fl gs o2) : InvL (rdCons f g) ver fl (a :: gs) (o1 ++ o2) := by
  intro rest nl hn;obtain ⟨x, hx, hax⟩ := h1 (o2 ++ rest) nl (by rw [← List.append_assoc]; exact hn);obtain ⟨xs, hxs, haxs⟩ := h2 rest nl (fun h => by have := hn h; simp only [List.append_eq_nil_iff] at this ⊢; exact ⟨this.1.2, this.2⟩);refine ⟨x :: xs, ?_, by simp only [apAll, hax, haxs]⟩;rw [List.append_assoc];simp only [rdCons, hx, hxs, consV]
theorem inv_st {f : Rd} {ver : Int} {fl : Bool} {gs : List (V → List UInt8)} {o : List UInt8} (h : InvL f ver fl gs o) : Inv f ver fl (apSt gs) o := by
  intro rest nl hn;obtain ⟨xs, h1, h2⟩ := h rest nl hn;exact ⟨.l xs, h1, h2⟩
theorem inv_two {g1 g2 : RSt → V × RSt} {ver : Int} {fl : Bool} {a1 a2 : V → List UInt8} {o1 o2 : List UInt8} (h1 : fl = true → Inv (rdOne fun _ _ => g1) ver fl a1 o1) (h2 : fl = false → Inv (rdOne fun _ _ => g2) ver fl a2 o2) :
    Inv (rdOne fun _ fl st => if fl then g1 st else g2 st) ver fl (fun x => if fl then a1 x else a2 x) (if fl then o1 else o2) := by
  intro rest nl hn
  cases fl with
  | true => exact h1 rfl rest nl hn
  | false => exact h2 rfl rest nl hn
theorem u8_mod (n : Nat) : (UInt8.ofNat n).toNat = n % 256 := by simp
theorem beNat_f2 (i : Int) : ((Lib.beNat (fxW i 2) : Nat) : Int) = i % 65536 := by
  simp only [fxW, be2, u8_mod, Nat.reduceMul, Nat.reducePow]; omega
theorem beNat_f4 (i : Int) : ((Lib.beNat (fxW i 4) : Nat) : Int) = i % 4294967296 := by
  simp only [fxW, be4, u8_mod, Nat.reduceMul, Nat.reducePow]; omega
theorem rdTake_app {k : Nat} {o rest : List UInt8} {nl : Bool} (h : o.length = k) : rdTake k ⟨o ++ rest, nl, false⟩ = (some o, ⟨rest, nl, false⟩) := by
  subst h;simp [rdTake]
theorem rdNum_app {kd : IntKind} {k : Nat} {i : Int} {rest : List UInt8} {nl : Bool} : rdNum kd k ⟨fxW i k ++ rest, nl, false⟩ = (kd.wrap (Lib.beNat (fxW i k)), ⟨rest, nl, false⟩) := by
  simp only [rdNum, rdTake_app (fxL i k)]
theorem inv_num {kd : IntKind} {k : Nat} {i : Int} {ver : Int} {fl : Bool} (h : fxW (kd.wrap (Lib.beNat (fxW i k))) k = fxW i k) : Inv (rdOne fun _ _ => gNum kd k) ver fl (apInt k) (fxW i k) := by
  intro rest nl _;refine ⟨.n (kd.wrap (Lib.beNat (fxW i k))), ?_, h⟩;simp only [rdOne, gNum, rdNum_app]
theorem inv_i32 {i ver : Int} {fl : Bool} : Inv (rdOne fun _ _ => gNum .i32 4) ver fl (apInt 4) (fxW i 4) := inv_num (by rw [fixedW_w32, beNat_f4, fixedW_mod4])
theorem rdSpan_app {o rest : List UInt8} {l : Int} {nl : Bool} (h : l = o.length) (hn : nl = true → o ++ rest = []) : ∃ y, rdSpan l ⟨o ++ rest, nl, false⟩ = (y, ⟨rest, nl, false⟩) ∧ y.getD [] = o ∧ (nl = false → y = some o) := by
  subst h
  cases nl with
  | true =>
    have := hn rfl;simp only [List.append_eq_nil_iff] at this;obtain ⟨rfl, rfl⟩ := this;exact ⟨none, by simp [rdSpan], rfl, by simp⟩
  | false =>
    refine ⟨some o, ?_, rfl, fun _ => rfl⟩;have h1 : ¬ (((o ++ rest).length : Int) < (o.length : Int) ∨ (o.length : Int) < 0) := by rw [List.length_append]; omega
    simp only [rdSpan, if_neg h1];simp
theorem nl_false {nl : Bool} {o r : List UInt8} (h : nl = true → o ++ r = []) (ho : o ≠ []) : nl = false := by
  cases nl with
  | false => rfl
  | true => exact absurd (List.append_eq_nil_iff.1 (h rfl)).1 ho
theorem fixedW_ne {i : Int} {k : Nat} (hk : 0 < k) : fxW i k ≠ [] := by
  intro h; have := fxL i k; rw [h] at this; simp at this; omega
theorem rd16 {n : Nat} (h : n ≤ 32767) {rest : List UInt8} {nl : Bool} : rdNum .i16 2 ⟨fxW (n : Int) 2 ++ rest, nl, false⟩ = ((n : Int), ⟨rest, nl, false⟩) := by
  rw [rdNum_app, beNat_f2]
  congr 1
  simp [IntKind.wrap, IntKind.signed, IntKind.bits]; omega
theorem rd32 {n : Nat} (h : n ≤ 2147483647) {rest : List UInt8} {nl : Bool} : rdNum .i32 4 ⟨fxW (n : Int) 4 ++ rest, nl, false⟩ = ((n : Int), ⟨rest, nl, false⟩) := by
  rw [rdNum_app, beNat_f4]
  congr 1
  simp [IntKind.wrap, IntKind.signed, IntKind.bits]; omega
theorem inv_str {s : List UInt8} (h : s.length ≤ 32767) {ver : Int} {fl : Bool} : Inv (rdOne fun _ _ => gStr) ver fl apStr (fxW s.length 2 ++ s) := by
  intro rest nl hn;have hnl := nl_false hn (by simp [fixedW_ne]);subst hnl;obtain ⟨y, h1, h2, _⟩ := rdSpan_app (o := s) (rest := rest) (l := s.length) (nl := false) rfl (by simp);refine ⟨.s s, ?_, rfl⟩;simp only [rdOne, gStr, rdString, List.append_assoc, rd16 h, h1, h2]
theorem uvGo_uvW : ∀ (k n : Nat) (rest : List UInt8), n * 8 < 128 ^ (k + 1) → uvGo (k + 1) (uvW n ++ rest) = some (n, (uvW n).length)
  | 0, n, rest, h => by
    have hn : n < 16 := by simp at h; omega
    rw [uvW, if_neg (by omega)];have h1 : (UInt8.ofNat n).toNat = n := by rw [u8_mod]; omega
    simp [uvGo, h1]
    omega
  | k + 1, n, rest, h => by
    rw [uvW]
    split
    · rename_i hn
      have h1 : (UInt8.ofNat (n % 128 + 128)).toNat = n % 128 + 128 := by rw [u8_mod]; omega
      have hp : 128 ^ (k + 1 + 1) = 128 * 128 ^ (k + 1) := by rw [Nat.pow_succ]; omega
      rw [hp] at h;have ih := uvGo_uvW k (n / 128) rest (by omega);rw [List.cons_append];simp only [uvGo, h1, ih];simp
      rw [if_neg (by omega)]; congr 2; omega
    have h1 : (UInt8.ofNat n).toNat = n := by rw [u8_mod]; omega
    simp [uvGo, h1]
    omega
theorem rdUv_app {n : Nat} (h : n < 4294967296) {rest : List UInt8} {nl : Bool} : rdUv ⟨uvW n ++ rest, nl, false⟩ = (n, ⟨rest, nl, false⟩) := by
  have h1 : uv (uvW n ++ rest) = some (n, (uvW n).length) := uvGo_uvW 4 n rest (by simp; omega);simp [rdUv, h1]
theorem uvW_ne (n : Nat) : uvW n ≠ [] := by
  intro h; have := uvW_pos n; rw [h] at this; simp at this
theorem inv_cstr {s : List UInt8} (h : s.length ≤ 32767) {ver : Int} {fl : Bool} : Inv (rdOne fun _ _ => gCStr) ver fl apCStr (uvW (s.length + 1) ++ s) := by
  intro rest nl hn;have hnl := nl_false hn (by simp [uvW_ne]);subst hnl;obtain ⟨y, h1, h2, _⟩ := rdSpan_app (o := s) (rest := rest) (l := s.length) (nl := false) rfl (by simp);refine ⟨.s s, ?_, rfl⟩;have e : ((s.length + 1 : Nat) : Int) - 1 = s.length := by omega
  simp only [rdOne, gCStr, rdCString, List.append_assoc, rdUv_app (show s.length + 1 < 4294967296 by omega), e, h1, h2]
theorem uvW_zero : uvW 0 = [0] := by rw [uvW]; rfl
theorem rdMany_app {f : Rd} {ver : Int} {fl : Bool} {a : V → List UInt8} : ∀ (os : List (List UInt8)) (rest : List UInt8), (∀ o ∈ os, Inv f ver fl a o) →
    ∃ xs, rdMany f ver fl os.length ⟨os.flatten ++ rest, false, false⟩ = some (xs, ⟨rest, false, false⟩) ∧ xs.length = os.length ∧ (xs.map a).flatten = os.flatten
  | [], rest, _ => ⟨[], rfl, rfl, rfl⟩
  | o :: os, rest, h => by
    obtain ⟨x, h1, h2⟩ := h o (by simp) (os.flatten ++ rest) false (by simp);obtain ⟨xs, h3, h4, h5⟩ := rdMany_app os rest fun o ho => h o (by simp [ho]);refine ⟨x :: xs, ?_, by simp [h4], by simp [h2, h5]⟩;simp only [List.flatten_cons, List.append_assoc, List.length_cons, rdMany, h1, h3]
theorem flatten_len {os : List (List UInt8)} (h : ∀ o ∈ os, 1 ≤ o.length) : os.length ≤ os.flatten.length := by
  induction os with
  | nil => simp
  | cons o os ih =>
    have h1 := h o (by simp);have h2 := ih fun o ho => h o (by simp [ho]);simp only [List.flatten_cons, List.length_append, List.length_cons]; omega
def LenI (len : RSt → V × RSt) (lo : List UInt8) (n : Nat) : Prop := lo ≠ [] ∧ ∀ rest : List UInt8, n ≤ rest.length → len ⟨lo ++ rest, false, false⟩ = (.n n, ⟨rest, false, false⟩)
theorem len_fixed {n : Nat} (h : n ≤ 32767) : LenI gALen (fxW n 4) n := by
  refine ⟨fixedW_ne (by omega), fun rest hr => ?_⟩;have h0 : ¬ ((rest.length : Int) < (n : Int)) := by omega
  simp only [gALen, rdArrayLen, rd32 (show n ≤ 2147483647 by omega), h0, if_false]
theorem len_uv {n : Nat} (h : n ≤ 32767) : LenI gCALen (uvW (n + 1)) n := by
  refine ⟨uvW_ne _, fun rest hr => ?_⟩;have h0 : ¬ ((rest.length : Int) < (n : Int)) := by omega
  have e : IntKind.i32.wrap (IntKind.i32.wrap ((n + 1 : Nat) : Int) - 1) = (n : Int) := by
    simp [IntKind.wrap, IntKind.signed, IntKind.bits]; omega
  simp only [gCALen, rdCArrayLen, rdUv_app (show n + 1 < 4294967296 by omega), e, h0, if_false]
theorem inv_arr {len : Int → Bool → RSt → V × RSt} {f : Rd} {ver : Int} {fl : Bool} {a : V → List UInt8} {la : Nat → List UInt8} {lo : List UInt8} {os : List (List UInt8)} (hl : LenI (len ver fl) lo os.length) (hla : la os.length = lo) (ho : ∀ o ∈ os, Inv f ver fl a o) (h1 : ∀ o ∈ os, 1 ≤ o.length) :
    Inv (rdArr len f) ver fl (fun x => la x.items.length ++ (x.items.map a).flatten) (lo ++ os.flatten) := by
  intro rest nl hn;have hnl := nl_false hn (by simp [hl.1]);subst hnl;have h2 := hl.2 (os.flatten ++ rest) (by rw [List.length_append]; have := flatten_len h1; omega);obtain ⟨xs, h3, h4, h5⟩ := rdMany_app os rest ho;simp only [rdArr, List.append_assoc, h2]
  by_cases h0 : os.length = 0
  · have : os = [] := List.eq_nil_of_length_eq_zero h0;subst this;exact ⟨.nil, by simp, by simp [V.items, ← hla]⟩
  refine ⟨.l xs, ?_, by simp [V.items, h4, h5, hla]⟩;have h6 : (0 : Int) < os.length := by omega
  have h7 : os ≠ [] := by rintro rfl; exact h0 rfl
  simp [h7, h3]
end Go.Kq

namespace Go.Kq
open Go
structure TagsOk (l : List (Nat × List UInt8)) : Prop where
  rise : l.Pairwise fun a b => a.1 < b.1
  key : ∀ p ∈ l, p.1 < 4294967296
  few : ∀ p ∈ l, p.2.length ≤ 32767
  len : l.length < 4294967296
def vTag (p : Nat × List UInt8) : Nat × V := (p.1, .s p.2)
theorem rdTagsGo_app : ∀ (l : List (Nat × List UInt8)) (x : V) (rest : List UInt8), (∀ p ∈ l, p.1 < 4294967296 ∧ p.2.length ≤ 32767) → l.Pairwise (fun a b => a.1 < b.1) → (∀ q ∈ tagKv x, ∀ p ∈ l, q.1 < p.1) →
    ∃ y, rdTagsGo l.length x ⟨tagsW l ++ rest, false, false⟩ = (y, ⟨rest, false, false⟩) ∧ tagKv y = tagKv x ++ l.map vTag
  | [], x, rest, _, _, _ => ⟨x, rfl, by simp⟩
  | p :: l, x, rest, h, hp, hx => by
    obtain ⟨h1, h2⟩ := h p (by simp);have e1 : tagsW (p :: l) ++ rest = uvW p.1 ++ (uvW p.2.length ++ (p.2 ++ (tagsW l ++ rest))) := by simp [tagsW, tagW]
    obtain ⟨y, h3, _, h4⟩ := rdSpan_app (o := p.2) (rest := tagsW l ++ rest) (l := p.2.length) (nl := false) rfl (by simp);have h5 := h4 rfl;subst h5;have hset : tagKv (tagSet x p.1 (.s p.2)) = tagKv x ++ [vTag p] := by
      rw [tagSet, tagKv, kvSet_push fun q hq => Nat.ne_of_lt (hx q hq p (by simp))]; rfl
    obtain ⟨y, h6, h7⟩ := rdTagsGo_app l (tagSet x p.1 (.s p.2)) rest (fun q hq => h q (by simp [hq])) (List.pairwise_cons.1 hp).2 (by
      intro q hq r hr;rw [hset] at hq
      rcases List.mem_append.1 hq with hq | hq
      · exact hx q hq r (by simp [hr])
      · simp [vTag] at hq; subst hq; exact (List.pairwise_cons.1 hp).1 r hr)
    refine ⟨y, ?_, by rw [h7, hset]; simp⟩;rw [e1, List.length_cons];simp only [rdTagsGo, rdUv_app h1, rdUv_app (show p.2.length < 4294967296 by omega), h3, V.oct];exact h6
theorem insKv_le {p : Nat × V} : ∀ {l : List (Nat × V)}, (∀ q ∈ l, p.1 ≤ q.1) → insKv p l = p :: l
  | [], _ => rfl
  | q :: r, h => by rw [insKv, if_pos (h q (by simp))]
theorem sortKv_id : ∀ {l : List (Nat × V)}, l.Pairwise (fun a b => a.1 < b.1) → sortKv l = l
  | [], _ => rfl
  | p :: l, h => by
    have h1 := List.pairwise_cons.1 h;show insKv p (sortKv l) = p :: l
    rw [sortKv_id h1.2, insKv_le fun q hq => Nat.le_of_lt (h1.1 q hq)]
theorem tagsT_of {y : V} {l : List (Nat × List UInt8)} (h : tagKv y = l.map vTag) (hp : l.Pairwise fun a b => a.1 < b.1) : tagsT y = l := by
  unfold tagsT;rw [h, sortKv_id (List.pairwise_map.2 hp), List.map_map];have : (fun p : Nat × V => (p.1, p.2.octs)) ∘ vTag = id := by funext p; rfl
  rw [this, List.map_id]
theorem inv_tags {l : List (Nat × List UInt8)} (h : TagsOk l) {ver : Int} : Inv rdTagsF ver true apTags (uvW l.length ++ tagsW l) := by
  intro rest nl hn;have hnl := nl_false hn (by simp [uvW_ne]);subst hnl;obtain ⟨y, h1, h2⟩ := rdTagsGo_app l .nil rest (fun p hp => ⟨h.key p hp, h.few p hp⟩) h.rise (by simp [tagKv]);have h3 : tagsT y = l := tagsT_of (by rw [h2]; simp [tagKv]) h.rise;refine ⟨y, ?_, by rw [apTags, h3]⟩;simp only [rdTagsF, if_true, rdTags, List.append_assoc, rdUv_app h.len, h1]
theorem inv_tagsF {l : List (Nat × List UInt8)} {fl : Bool} (h : fl = true → TagsOk l) {ver : Int} : Inv rdTagsF ver fl (fun x => if fl then apTags x else []) (if fl then uvW l.length ++ tagsW l else []) := by
  cases fl with
  | true => exact inv_tags (h rfl)
  | false => intro rest nl _; exact ⟨.nil, by simp [rdTagsF], rfl⟩
theorem insAt_spec {out : List (Nat × List UInt8)} {k : Nat} (h : out.Pairwise fun a b => a.1 < b.1) : (∀ p ∈ out.take (insAt out k), p.1 < k) ∧ (∀ p ∈ out.drop (insAt out k), k ≤ p.1) := by
  induction out with
  | nil => simp [insAt]
  | cons q out ih =>
    have h1 := List.pairwise_cons.1 h
    by_cases hq : q.1 < k
    · have e : insAt (q :: out) k = insAt out k + 1 := by simp [insAt, List.takeWhile_cons, hq]
      rw [e];obtain ⟨i1, i2⟩ := ih h1.2;exact ⟨by intro p hp; rcases List.mem_cons.1 (by simpa using hp) with rfl | hp; exact hq; exact i1 p hp, by simpa using i2⟩
    have e : insAt (q :: out) k = 0 := by simp [insAt, List.takeWhile_cons, hq]
    rw [e];refine ⟨by simp, ?_⟩;intro p hp
    rcases List.mem_cons.1 (by simpa using hp) with rfl | hp
    · omega
    have := h1.1 p hp; omega
theorem insTag_rise {least : Nat} {out : List (Nat × List UInt8)} {t : Nat × List UInt8} (h : out.Pairwise fun a b => a.1 < b.1) : (insTag least out t).Pairwise fun a b => a.1 < b.1 := by
  unfold insTag
  split
  · exact h
  split
  · exact h
  rename_i hne
  obtain ⟨i1, i2⟩ := insAt_spec (k := t.1) h;have hd : ∀ p ∈ out.drop (insAt out t.1), t.1 < p.1 := by
    intro p hp;have h2 := i2 p hp
    rcases Nat.lt_or_ge t.1 p.1 with h3 | h3
    · exact h3
    exfalso
    have hpe : p.1 = t.1 := by omega
    cases hdr : out.drop (insAt out t.1) with
    | nil => rw [hdr] at hp; simp at hp
    | cons q r =>
      have hq : out[insAt out t.1]? = some q := by
        have := congrArg (fun l => l[0]?) hdr
        simpa using this
      have hpw := List.Pairwise.sublist (List.drop_sublist (insAt out t.1) out) h;rw [hdr] at hpw hp;have hq2 := i2 q (by rw [hdr]; simp)
      rcases List.mem_cons.1 hp with rfl | hp
      · exact hne (by rw [hq]; simp [hpe])
      have := (List.pairwise_cons.1 hpw).1 p hp; omega
  rw [List.pairwise_append];refine ⟨h.sublist (List.take_sublist _ _), List.pairwise_cons.2 ⟨hd, h.sublist (List.drop_sublist _ _)⟩, ?_⟩;intro a ha b hb;have h1 := i1 a ha
  rcases List.mem_cons.1 hb with rfl | hb
  · exact h1
  have := hd b hb; omega
theorem insTag_mem {least : Nat} {out : List (Nat × List UInt8)} {t p : Nat × List UInt8} (h : p ∈ insTag least out t) : p ∈ out ∨ p = t := by
  unfold insTag at h
  split at h
  · exact .inl h
  split at h
  · exact .inl h
  rcases List.mem_append.1 h with h | h
  · exact .inl (List.mem_of_mem_take h)
  rcases List.mem_cons.1 h with rfl | h
  · exact .inr rfl
  exact .inl (List.mem_of_mem_drop h)
theorem foldl_ins {least : Nat} : ∀ (u out : List (Nat × List UInt8)), out.Pairwise (fun a b => a.1 < b.1) → (u.foldl (insTag least) out).Pairwise (fun a b => a.1 < b.1) ∧ (∀ p ∈ u.foldl (insTag least) out, p ∈ out ∨ p ∈ u) ∧ (u.foldl (insTag least) out).length ≤ out.length + u.length
  | [], out, h => ⟨h, fun p hp => .inl hp, by simp⟩
  | t :: u, out, h => by
    obtain ⟨h1, h2, h3⟩ := foldl_ins u (insTag least out t) (insTag_rise h);refine ⟨h1, fun p hp => ?_, ?_⟩
    · rcases h2 p hp with h | h
      · rcases insTag_mem h with h | h
        · exact .inl h
        exact .inr (by simp [h])
      exact .inr (by simp [h])
    have := insTag_len least out t;simp only [List.foldl_cons, List.length_cons]; omega
theorem unks_ok {fs : List Fd} {t : T} (hk : ∀ p ∈ t.u, p.1 < 4294967296) : TagsOk (unksW fs t) := by
  obtain ⟨h1, h2, h3⟩ := foldl_ins (least := knownW fs) (t.u.take 32767) [] (by simp);refine ⟨?_, ?_, ?_, ?_⟩
  · exact List.pairwise_map.2 h1
  · intro p hp;obtain ⟨q, hq, rfl⟩ := List.mem_map.1 hp
    rcases h2 q hq with h | h
    · simp at h
    exact hk q (List.mem_of_mem_take h)
  · intro p hp;obtain ⟨q, hq, rfl⟩ := List.mem_map.1 hp;simp [wholeS]; omega
  unfold unksW unknownW;rw [List.length_map];simp at h3
  omega
end Go.Kq

namespace Go.Kq
open Go
def bodyL : List Fd → Int → Bool → List T → Nat → List UInt8
  | [], _, _, _, _ => []
  | f :: fs, ver, flex, ts, i => (if f.has ver then fieldW f ver flex (atT ts i) else []) ++ bodyL fs ver flex ts (i + 1)
theorem bodyW_eq : ∀ (fs : List Fd) (ver : Int) (flex : Bool) (ts : List T) (j : Nat), (∀ f ∈ fs, f.tag < 0) → bodyW fs ver (fieldsW fs ver flex ts j) fs.length = bodyL fs ver flex ts j
  | [], _, _, _, _, _ => rfl
  | f :: fs, ver, flex, ts, j, h => by
    have ih := bodyW_eq fs ver flex ts (j + 1) fun g hg => h g (by simp [hg]);have hf := h f (by simp);rw [bodyL, ← ih, bodyW, List.length_cons, List.range_succ_eq_map, List.flatMap_cons, List.flatMap_map, fieldsW];simp [bodyW, hf]
theorem partW_flat {fs : List Fd} {ver : Int} {flex : Bool} {t : T} (h : ∀ f ∈ fs, f.tag < 0) : partW fs ver flex t = bodyL fs ver flex t.l 0 ++ (if flex then uvW (unksW fs t).length ++ tagsW (unksW fs t) else []) := by
  have hk : knownsW fs t (fieldsW fs ver flex t.l 0) = [] := by simp [knownsW, knownW_free h]
  have hp : ∀ l : List (Nat × List UInt8), l.flatMap pairW = tagsW l := fun l => by
    simp only [tagsW, List.flatMap]; congr 1
  rw [partW, joinW, hk, bodyW_eq _ _ _ _ _ h]
  cases flex <;> simp [hp]
section
variable {ver : Int} {flex : Bool} {t : T} {nul of : Int} {sub : T → List UInt8}
theorem fieldV_i32 : fieldV 3 nul of sub ver flex t = fxW t.n 4 := by simp [fieldV, valueW, widthW]
theorem nullW_no (h : nul < 0) : nullW nul ver t = false := by
  have : ¬ nul ≥ 0 := by omega
  simp [nullW, this]
theorem fieldV_str (h : nullW nul ver t = false) : fieldV 8 nul of sub ver flex t = if flex then uvW ((wholeS t.s).length + 1) ++ wholeS t.s else fxW (wholeS t.s).length 2 ++ wholeS t.s := by
  cases flex <;> simp [fieldV, valueW, countedW, h]
theorem wholeS_len (s : List UInt8) : (wholeS s).length ≤ 32767 := by simp [wholeS]; omega
end
theorem beh_plain {g : Rd} {fl : Int → Bool} {gs : Int → List (V → List UInt8)} {ver : Int} {W : List UInt8} (h : InvL g ver (fl ver) (gs ver) W) : behRes g fl (fun ver => apSt ((fun _ => []) :: gs ver)) ver W = some W := by
  obtain ⟨xs, h1, h2⟩ := h [] W.isEmpty (by intro h; simpa using h);rw [List.append_nil] at h1;simp [behRes, h1, apSt, apAll, h2]
end Go.Kq

namespace Go.Kq
open Go
theorem uvW_le5 {n : Nat} (h : n < 4294967296) : (uvW n).length ≤ 5 := uvW_le 5 n (by omega) (by simp only [Nat.reducePow]; omega)
mutual
/-- So many octets a piece. -/
def kF : Fd → Nat
  | .mk _ _ _ _ _ _ _ sub => kFs sub + 40
def kFs : List Fd → Nat
  | [] => 0
  | f :: fs => kF f + kFs fs
end
mutual
/-- No field is a tag. -/
def freeF : Fd → Bool
  | .mk _ _ _ _ tag _ _ sub => decide (tag < 0) && freeFs sub
def freeFs : List Fd → Bool
  | [] => true
  | f :: fs => freeF f && freeFs fs
end
theorem freeFs_tag : ∀ {fs : List Fd}, freeFs fs = true → ∀ f ∈ fs, f.tag < 0
  | [], _, _, h => by simp at h
  | g :: fs, h, f, hf => by
    rw [freeFs, Bool.and_eq_true] at h
    rcases List.mem_cons.1 hf with rfl | hf
    · cases f; simp [freeF] at h; exact h.1.1
    exact freeFs_tag h.2 f hf
theorem tw_pos (t : T) : 1 ≤ tw t := by cases t; rw [tw]; omega
theorem tw_eq (t : T) : tw t = 1 + t.s.length + tws t.l + tagWt t.u := by cases t; rw [tw]; rfl
theorem KeysOk.u {t : T} (h : KeysOk t) : ∀ p ∈ t.u, p.1 < 4294967296 := by cases h; assumption
theorem KeysOk.l {t : T} (h : KeysOk t) : ∀ y ∈ t.l, KeysOk y := by cases h; assumption
theorem KeysOk.zero : KeysOk .zero := .mk (by simp) (by simp)
theorem KeysOk.at {l : List T} (h : ∀ y ∈ l, KeysOk y) (i : Nat) : KeysOk (atT l i) := by
  unfold atT
  cases hi : l[i]? with
  | none => exact .zero
  | some y => exact h y (List.mem_of_getElem? hi)
theorem counted_le {flex null : Bool} {n size : Nat} (h : n ≤ 32767) (hs : size ≤ 4) : (countedW flex null n size).length ≤ 5 := by
  unfold countedW;have := uvW_le5 (n := n + 1) (by omega)
  split
  · simp
  split
  · omega
  split <;> simp only [fxL] <;> omega
theorem value_le {kind : Int} {sub : T → List UInt8} {null flex : Bool} {t : T} {S : Nat} (hS : (sub t).length ≤ S * tw t) : (valueW kind sub null flex t).length ≤ (S + 19) * tw t := by
  have h1 := tw_pos t;have h2 := tw_eq t;rw [Nat.add_mul];have h3 : (if null then [] else wholeS t.s).length ≤ t.s.length := by cases null <;> simp [wholeS]; omega
  have h4 : (if null then [] else wholeS t.s).length ≤ 32767 := by cases null <;> simp [wholeS]; omega
  unfold valueW
  split
  · simp; omega
  split
  · simp only [uuidW, List.length_append, List.length_take, List.length_replicate]; omega
  split
  · rw [List.length_append]; have := counted_le (flex := flex) (null := null) (size := 2) h4 (by omega); omega
  split
  · rw [List.length_append]; have := counted_le (flex := flex) (null := null) (size := 4) h4 (by omega); omega
  split
  · omega
  have : widthW kind ≤ 8 := by unfold widthW; repeat' split <;> try omega
  rw [fxL]; omega
theorem tws_take (l : List T) (n : Nat) : ((l.take n).map tw).sum ≤ tws l := by
  rw [tws_sum]
  induction l generalizing n with
  | nil => simp
  | cons y l ih =>
    cases n with
    | zero => simp
    | succ n => have := ih n; simp only [List.take_succ_cons, List.map_cons, List.sum_cons]; omega
theorem flat_le {f : T → List UInt8} {S : Nat} : ∀ {l : List T}, (∀ y ∈ l, (f y).length ≤ S * tw y) → (l.flatMap f).length ≤ S * (l.map tw).sum
  | [], _ => by simp
  | y :: l, h => by
    have h1 := h y (by simp);have h2 := flat_le (f := f) (S := S) (l := l) fun z hz => h z (by simp [hz]);simp only [List.flatMap_cons, List.length_append, List.map_cons, List.sum_cons, Nat.mul_add]; omega
theorem fieldV_le {kind nul of : Int} {sub : T → List UInt8} {ver : Int} {flex : Bool} {t : T} {S : Nat} (hk : KeysOk t) (hS : ∀ y, KeysOk y → (sub y).length ≤ S * tw y) : (fieldV kind nul of sub ver flex t).length ≤ (S + 20) * tw t := by
  have h1 := tw_pos t;have h2 := tw_eq t;unfold fieldV
  split
  · rw [List.length_append];have h3 : (thingsW (nullW nul ver t) t).length ≤ 32767 := by unfold thingsW; split <;> simp; omega
    have h4 := counted_le (flex := flex) (null := nullW nul ver t) (size := 4) h3 (by omega);have h5 : ((thingsW (nullW nul ver t) t).flatMap (valueW of sub false flex)).length ≤ (S + 19) * ((thingsW (nullW nul ver t) t).map tw).sum := by
      refine flat_le fun y hy => value_le (hS y ?_);unfold thingsW at hy
      split at hy
      · simp at hy
      exact hk.l y (List.mem_of_mem_take hy)
    have h6 : ((thingsW (nullW nul ver t) t).map tw).sum ≤ tws t.l := by
      unfold thingsW
      split
      · simp
      exact tws_take _ _
    have h7 := Nat.mul_le_mul_left (S + 19) (show ((thingsW (nullW nul ver t) t).map tw).sum ≤ tw t - 1 by omega);have h8 : (S + 20) * tw t = (S + 20) * (tw t - 1) + (S + 20) := by
      conv => lhs; rw [show tw t = (tw t - 1) + 1 from by omega, Nat.mul_succ]
    have h9 : (S + 20) * (tw t - 1) = (S + 19) * (tw t - 1) + (tw t - 1) := by rw [Nat.succ_mul (S + 19)]
    omega
  split
  · have := hS t hk;rw [Nat.add_mul]
    split
    · simp; omega
    simp only [List.length_cons]; omega
  have := value_le (kind := kind) (null := nullW nul ver t) (flex := flex) (hS t hk);rw [Nat.add_mul] at this ⊢;omega
theorem tagWt_app (a b : List (Nat × List UInt8)) : tagWt (a ++ b) = tagWt a + tagWt b := by simp [tagWt]
theorem tagWt_ins (least : Nat) (out : List (Nat × List UInt8)) (t : Nat × List UInt8) : tagWt (insTag least out t) ≤ tagWt out + (t.2.length + 1) := by
  unfold insTag
  split
  · omega
  split
  · omega
  have h1 : tagWt out = tagWt (out.take (insAt out t.1)) + tagWt (out.drop (insAt out t.1)) := by rw [← tagWt_app, List.take_append_drop]
  rw [tagWt_app];have h2 : tagWt (t :: out.drop (insAt out t.1)) = t.2.length + 1 + tagWt (out.drop (insAt out t.1)) := by simp [tagWt]
  omega
theorem tagWt_foldl (least : Nat) : ∀ (u out : List (Nat × List UInt8)), tagWt (u.foldl (insTag least) out) ≤ tagWt out + tagWt u
  | [], out => by simp
  | t :: u, out => by
    have h1 := tagWt_ins least out t;have h2 := tagWt_foldl least u (insTag least out t);have h3 : tagWt (t :: u) = t.2.length + 1 + tagWt u := by simp [tagWt]
    rw [List.foldl_cons]; omega
theorem tagWt_take : ∀ (u : List (Nat × List UInt8)) (n : Nat), tagWt (u.take n) ≤ tagWt u
  | [], n => by simp
  | p :: u, 0 => by simp [tagWt]
  | p :: u, n + 1 => by have := tagWt_take u n; simp [tagWt] at this ⊢; omega
theorem tagWt_whole : ∀ u : List (Nat × List UInt8), tagWt (u.map fun p => (p.1, wholeS p.2)) ≤ tagWt u
  | [] => by simp
  | p :: u => by
    have := tagWt_whole u;simp [tagWt, wholeS] at this ⊢; omega
theorem unksW_wt {fs : List Fd} {t : T} : tagWt (unksW fs t) ≤ tagWt t.u := by
  unfold unksW unknownW;have h1 := tagWt_whole ((t.u.take 32767).foldl (insTag (knownW fs)) []);have h2 := tagWt_foldl (knownW fs) (t.u.take 32767) [];have h3 := tagWt_take t.u 32767;have h4 : tagWt [] = 0 := rfl;omega
theorem tagsW_le : ∀ {l : List (Nat × List UInt8)}, (∀ p ∈ l, p.1 < 4294967296 ∧ p.2.length ≤ 32767) → (tagsW l).length ≤ 10 * tagWt l
  | [], _ => by simp [tagsW]
  | p :: l, h => by
    have h1 := tagsW_le (l := l) fun q hq => h q (by simp [hq]);obtain ⟨h2, h3⟩ := h p (by simp);have h4 := uvW_le5 h2;have h5 := uvW_le5 (n := p.2.length) (by omega);simp [tagsW, tagW, tagWt] at h1 ⊢
    omega
theorem bodyL_le {ver : Int} {flex : Bool} : ∀ {fs : List Fd} {ts : List T} {i : Nat}, (∀ f ∈ fs, ∀ y, KeysOk y → (fieldW f ver flex y).length ≤ kF f * tw y) → (∀ y ∈ ts, KeysOk y) → (bodyL fs ver flex ts i).length ≤ kFs fs * (1 + tws (ts.drop i))
  | [], ts, i, _, _ => by simp [bodyL]
  | f :: fs, ts, i, h, hk => by
    have h1 := bodyL_le (fs := fs) (ts := ts) (i := i + 1) (fun g hg => h g (by simp [hg])) hk;have h2 : (if f.has ver then fieldW f ver flex (atT ts i) else []).length ≤ kF f * tw (atT ts i) := by
      split
      · exact h f (by simp) _ (KeysOk.at hk i)
      simp
    have h3 : tw (atT ts i) + tws (ts.drop (i + 1)) ≤ 1 + tws (ts.drop i) := by
      unfold atT
      cases hi : ts[i]? with
      | none =>
        have : ts.length ≤ i := by simpa using hi
        rw [List.drop_of_length_le this, List.drop_of_length_le (by omega)];have e : tw T.zero = 1 := rfl;simp only [Option.getD_none]; rw [e]; omega
      | some y =>
        obtain ⟨hl, rfl⟩ := List.getElem?_eq_some_iff.1 hi;rw [List.drop_eq_getElem_cons hl, tws];simp only [Option.getD_some]; omega
    have h4 : kF f * tw (atT ts i) ≤ kF f * (1 + tws (ts.drop i)) := Nat.mul_le_mul_left _ (by omega);have h5 : kFs fs * (1 + tws (ts.drop (i + 1))) ≤ kFs fs * (1 + tws (ts.drop i)) := Nat.mul_le_mul_left _ (by have := tw_pos (atT ts i); omega);rw [bodyL, List.length_append, kFs, Nat.add_mul]; omega
theorem part_of_fields {fs : List Fd} {ver : Int} {flex : Bool} {t : T} (hf : freeFs fs = true) (hk : KeysOk t) (h : ∀ f ∈ fs, ∀ y, KeysOk y → (fieldW f ver flex y).length ≤ kF f * tw y) : (partW fs ver flex t).length ≤ (kFs fs + 20) * tw t := by
  rw [partW_flat (freeFs_tag hf), List.length_append];have h1 := bodyL_le (i := 0) h hk.l;have h2 := tw_eq t;have hu := unks_ok (fs := fs) hk.u;have h3 : (if flex then uvW (unksW fs t).length ++ tagsW (unksW fs t) else []).length ≤ 5 + 10 * tagWt t.u := by
    split
    · have := uvW_le5 hu.len;have := tagsW_le (l := unksW fs t) fun p hp => ⟨hu.key p hp, hu.few p hp⟩;have := unksW_wt (fs := fs) (t := t);rw [List.length_append]; omega
    simp
  rw [List.drop_zero] at h1;have h4 : kFs fs * (1 + tws t.l) ≤ kFs fs * tw t := Nat.mul_le_mul_left _ (by omega);rw [Nat.add_mul]; omega
mutual
theorem fieldW_le : ∀ (f : Fd), freeF f = true → ∀ (ver : Int) (flex : Bool) (t : T), KeysOk t → (fieldW f ver flex t).length ≤ kF f * tw t
  | .mk kind fr to nul tag df of sub, h, ver, flex, t, hk => by
    rw [freeF, Bool.and_eq_true] at h;rw [fieldW_eq, kF];exact fieldV_le (S := kFs sub + 20) hk fun y hy => part_of_fields h.2 hy (fieldsW_le sub h.2 ver flex)
theorem fieldsW_le : ∀ (fs : List Fd), freeFs fs = true → ∀ (ver : Int) (flex : Bool), ∀ f ∈ fs, ∀ y, KeysOk y → (fieldW f ver flex y).length ≤ kF f * tw y
  | [], _, _, _, f, hf => by simp at hf
  | g :: fs, h, ver, flex, f, hf => by
    rw [freeFs, Bool.and_eq_true] at h;intro y hy
    by_cases e : f = g
    · rw [e]; exact fieldW_le g h.1 ver flex y hy
    exact fieldsW_le fs h.2 ver flex f (by rcases List.mem_cons.1 hf with hf | hf; exact absurd hf e; exact hf) y hy
end
theorem partW_le {fs : List Fd} (hf : freeFs fs = true) {ver : Int} {flex : Bool} {t : T} (hk : KeysOk t) : (partW fs ver flex t).length ≤ (kFs fs + 20) * tw t := part_of_fields hf hk (fieldsW_le fs hf ver flex)
theorem small_of {fs : List Fd} {t : T} (hf : freeFs fs = true) (hk : KeysOk t) (hw : tw t ≤ 1048576) (hK : kFs fs + 20 ≤ 2048) : KeysOk t ∧ ∀ ver flex, (partW fs ver flex t).length ≤ 2147483648 := by
  refine ⟨hk, fun ver flex => ?_⟩;have h1 := partW_le hf hk (ver := ver) (flex := flex);have h2 := Nat.mul_le_mul hK hw;omega
end Go.Kq

namespace Go.Kq
open Go Go.Proofs
structure Leaf (P : Program) (f : FuncId) (ty : Ty) (g : V → List UInt8) : Prop where
  one : ty.size = 1
  call : ∀ (e : AE) (cv : Value) (x : V), Rep e.w0 e.B ty [cv] x → CallOk P e f cv (g x)
theorem Leaf.int {P : Program} {f : FuncId} {kd : IntKind} {sz : Nat} (h : ApI P f kd sz) : Leaf P f (.int kd) (apInt sz) :=
  ⟨rfl, fun e cv x hr => by obtain ⟨i, hi, rfl, h1, h2⟩ := hr; simp at hi; subst hi; exact CallOk.int h h1 h2⟩
theorem Leaf.str {P : Program} {f : FuncId} {g : V → List UInt8} (h : ApV P f .str g) : Leaf P f .str g := ⟨rfl, fun _ _ _ hr => CallOk.val h hr⟩
theorem tags_small {x : V} (h : (apTags x).length < 4294967296) : (tagsT x).length < 4294967296 := by
  have := tagsW_len (tagsT x);simp only [apTags, List.length_append] at h;omega
section
variable {P : Program} {N n n2 n3 n4 m s L R id id1 id2 id3 id4 b0 b1 pb po fi o : Nat} {e : AE} {c : Ctx} {k k1 k2 : Code} {ty : Ty} {g g1 g2 : V → List UInt8} {S T : TypeId}
  {t0 t1 t2 t3 t4 t5 t6 t7 t8 t9 : TypeId} {p0 p1 p2 p3 p4 p5 p6 p7 p8 p9 : String} {e0 e1 e2 e3 e4 e5 e6 e7 e8 e9 : Array Edge}
theorem af_load (hs : (s, Value.pointer (some ⟨pb, po, none⟩)) ∈ c) (hF : fieldOf P S fi o = true) (hT : scal P T = true) (hB : e.B pb) (h1 : ty.size = 1)
    (hb : (c.free n [L, 1] && decide (L < n) && decide (1 < n) && decide (n + 3 < N) && decide (L ≠ 1)) = true) (h : ∀ cv x, Rep e.w0 e.B ty [cv] x → ApC P N e ((L, cv) :: c) k (g x)) {x : V} (hx : FA e pb (po + o) ty x) :
    ApC P N e c (.seq (Code.region id ⟨[oM n s t0 p0 e0, ⟨some (n + 1), .nilCheck (.tmp n), t1, p1, e1, none⟩, oF (n + 2) S (n + 1) fi t2 p2 e2, oL (n + 3) T (n + 2) t3 p3 e3,
      oT L (n + 3) t4 p4 e4]⟩ false) k) (g x) := by
  obtain ⟨cv, hc, hr⟩ := hx.one h1;exact ApC.load hs hF hT hc hB hb (h cv x hr)
theorem ak_call {cv : Value} {x : V} {f : FuncId} {ats : Array TypeId} (hf : Leaf P f ty g) (hr : Rep e.w0 e.B ty [cv] x) (hL : (L, cv) ∈ c) (hb : (c.free n [1] && decide (1 < n) && decide (n + 2 < N)) = true) :
    ApC P N e c (Code.region id ⟨[oM n 1 t0 p0 e0, oM (n + 1) L t1 p1 e1, oC (n + 2) f #[.tmp n, .tmp (n + 1)] ats t2 p2 e2, oT 1 (n + 2) t3 p3 e3]⟩ false) (g x) :=
  ApC.call hL (hf.call e cv x hr) hb
theorem ak_len {t : Ty} {cv : Value} {x : V} {f : FuncId} {ats : Array TypeId} {lg : Nat → List UInt8} (hf : ApL P f lg) (hr : Rep e.w0 e.B (.arr t) [cv] x) (hn : x.items.length < 4294967295) (hL : (L, cv) ∈ c) (hT : slTy P T = true) (hb : (c.free n [1] && decide (1 < n) && decide (n + 3 < N)) = true) :
    ApC P N e c (Code.region id ⟨[oM n 1 t0 p0 e0, oM (n + 1) L t1 p1 e1, ⟨some (n + 2), .call ⟨.builtin .len, #[.tmp (n + 1)], #[T]⟩, t2, p2, e2, none⟩,
      oC (n + 3) f #[.tmp n, .tmp (n + 2)] ats t3 p3 e3, oT 1 (n + 3) t4 p4 e4]⟩ false) (lg x.items.length) := by
  obtain ⟨q, cap, rfl, _, _, _⟩ := arr_cell hr;exact ApC.len hL hT (CallOk.len hf hn) hb
theorem ak_loop {t : Ty} {cv : Value} {x : V} {TI TI' TI2 TI3 : TypeId} {m' q' : Nat} {body : Code} (hr : Rep e.w0 e.B (.arr t) [cv] x) (hL : (L, cv) ∈ c) (hT : slTy P T = true)
    (hb : (c.free n [1] && decide (1 < n) && decide (n + 2 < N) && decide (n + 3 ≤ m') && decide (m' < N) && decide (n + 3 ≤ q') && decide (q' < N)) = true)
    (h : ∀ (i : Nat) (y : V) (b o ln cap : Nat), i < ln → (L, Value.slice (some ⟨b, o, none⟩) ln cap) ∈ c → e.B b → FA e b (o + i * t.size) t y → ApC P N e ((n + 2, .int .i64 i) :: (n + 1, .int .i64 ln) :: c) body (g y)) :
    ApC P N e c (.seq (Code.region id ⟨[oM n L t0 p0 e0, ⟨some (n + 1), .call ⟨.builtin .len, #[.tmp n], #[T]⟩, t1, p1, e1, none⟩, ⟨some (n + 2), .move (.const (.int .i64 0)), t2, p2, e2, none⟩]⟩ false) (.block b0 (.loop (.seq (Code.region id1 ⟨[⟨some m', .binOp .lss TI (.tmp (n + 2)) (.tmp (n + 1)) TI', t3, p3, e3, none⟩]⟩ false) (.seq (.cond (.tmp m') .skip (.exit b0)) (.seq (.block b1 body) (Code.region id2 ⟨[⟨some q', .binOp .add TI2 (.tmp (n + 2)) (.const (.int .i64 1)) TI3, t4, p4, e4, none⟩, ⟨some (n + 2), .move (.tmp q'), t5, p5, e5, none⟩]⟩ false))))))) (x.items.map g).flatten := by
  obtain ⟨q, cap, rfl, _, hl, hel⟩ := arr_cell hr;refine ApC.loop hL hT hl hb fun i y hy => ?_;have hil : i < x.items.length := (List.getElem?_eq_some_iff.1 hy).1;obtain ⟨qa, rfl⟩ : ∃ qa, q = some qa := by
    cases q with
    | some qa => exact ⟨qa, rfl⟩
    | none => cases x <;> simp_all [V.isNil, V.items]
  obtain ⟨b, o, rfl, hB, hels⟩ := hel _ rfl;obtain ⟨es, h1, _, h2⟩ := hels i y hy;exact h i y b o _ cap hil hL hB ⟨es, h1, h2⟩
theorem ak_small {x : V} {t : Ty} {cv : Value} {lg : List UInt8} {ys : List UInt8} (hg : x.items.length ≤ ys.length) (h : x.items.length < 4294967295 → ApC P N e c k (lg ++ ys)) (hl : 1 ≤ lg.length) : ApC P N e c k (lg ++ ys) := by
  refine ApC.fits fun hf => h ?_;rw [List.length_append] at hf;omega
theorem ApS.st {tys : List Ty} {gs : List (V → List UInt8)} (h : ApS P N e c k pb o tys gs) {x : V} (hx : FA e pb o (.st tys) x) : ApC P N e c k (apSt gs x) := by
  obtain ⟨cs, h1, xs, rfl, h2⟩ := hx;exact h xs ⟨cs, h1, h2⟩
end
end Go.Kq

namespace Go.Kq
open Go
def Fat (ty : Ty) (g : V → List UInt8) : Prop := ∀ (w : World) (A : Nat → Prop) (cs : List Value) (x : V), Rep w A ty cs x → 1 ≤ (g x).length
def FatL (tys : List Ty) (gs : List (V → List UInt8)) : Prop := ∀ (w : World) (A : Nat → Prop) (cs : List Value) (xs : List V), Reps w A tys cs xs → 1 ≤ (apAll gs xs).length
theorem fat_any {ty : Ty} {g : V → List UInt8} (h : ∀ x, 1 ≤ (g x).length) : Fat ty g := fun _ _ _ x _ => h x
theorem fat_int {k : IntKind} {sz : Nat} (h : 0 < sz) : Fat (.int k) (apInt sz) := by
  rintro w A cs x ⟨i, _, rfl, _⟩;simp only [apInt, fxL]; omega
theorem apStr_pos (x : V) : 1 ≤ (apStr x).length := by simp only [apStr, List.length_append, fxL]; omega
theorem apCStr_pos (x : V) : 1 ≤ (apCStr x).length := by have := uvW_pos (x.octs.length + 1); simp only [apCStr, List.length_append]; omega
theorem apLen_pos (n : Nat) : 1 ≤ (apLen n).length := by simp only [apLen, fxL]; omega
theorem apCLen_pos (n : Nat) : 1 ≤ (apCLen n).length := uvW_pos _
theorem two_pos {b : Bool} {l1 l2 : List UInt8} (h1 : 1 ≤ l1.length) (h2 : 1 ≤ l2.length) : 1 ≤ (if b then l1 else l2).length := by cases b <;> simpa
theorem app_pos {l1 l2 : List UInt8} (h1 : 1 ≤ l1.length) : 1 ≤ (l1 ++ l2).length := by rw [List.length_append]; omega
theorem fat_two {ty : Ty} {b : Bool} {g1 g2 : V → List UInt8} (h1 : Fat ty g1) (h2 : Fat ty g2) : Fat ty (fun x => if b then g1 x else g2 x) := by
  intro w A cs x h;exact two_pos (h1 w A cs x h) (h2 w A cs x h)
theorem fatl_head {ty : Ty} {tys : List Ty} {g : V → List UInt8} {gs : List (V → List UInt8)} (h : Fat ty g) : FatL (ty :: tys) (g :: gs) := by
  rintro w A cs xs ⟨c1, c2, x, r, rfl, rfl, h1, h2⟩;exact app_pos (h w A c1 x h1)
theorem fat_st {tys : List Ty} {gs : List (V → List UInt8)} (h : FatL tys gs) : Fat (.st tys) (apSt gs) := by
  rintro w A cs x ⟨xs, rfl, h1⟩;exact h w A cs xs h1
theorem ak_items {w : World} {A : Nat → Prop} {t : Ty} {g : V → List UInt8} {cv : Value} {x : V} (hr : Rep w A (.arr t) [cv] x) (h : Fat t g) : x.items.length ≤ (x.items.map g).flatten.length := by
  have h1 := flatten_len (os := x.items.map g) (by
    intro o ho;obtain ⟨y, hy, rfl⟩ := List.mem_map.1 ho
    rcases hr with ⟨_, rfl⟩ | ⟨b, o, cap, xs, _, _, _, rfl, hel⟩
    · simp [V.items] at hy
    · obtain ⟨i, hi⟩ := List.getElem?_of_mem hy;obtain ⟨es, _, _, h2⟩ := hel i y hi;exact h w A es y h2)
  simpa using h1
end Go.Kq

namespace Go.Kq
open Go
section
variable {ver : Int} {fl : Bool} {y t : T} {fr to nul tag df of : Int} {sub : List Fd}
theorem invb_cons {f : Fd} {fs : List Fd} {r g : Rd} {a : V → List UInt8} {gs : List (V → List UInt8)} {ts : List T} {i : Nat} {tl : List UInt8} (h1 : Inv r ver fl a (if f.has ver then fieldW f ver fl (atT ts i) else [])) (h2 : InvL g ver fl gs (bodyL fs ver fl ts (i + 1) ++ tl)) :
    InvL (rdCons r g) ver fl (a :: gs) (bodyL (f :: fs) ver fl ts i ++ tl) := by
  rw [bodyL, List.append_assoc]; exact invl_cons h1 h2
theorem invb_nil {g : Rd} {gs : List (V → List UInt8)} {ts : List T} {i : Nat} {tl : List UInt8} (h : InvL g ver fl gs tl) : InvL g ver fl gs (bodyL [] ver fl ts i ++ tl) := h
theorem inv_tagend {fs : List Fd} (hk : KeysOk t) : InvL (rdCons rdTagsF rdSt0) ver fl [fun x => if fl then apTags x else []] (if fl then uvW (unksW fs t).length ++ tagsW (unksW fs t) else []) := by
  have h := invl_cons (inv_tagsF (fl := fl) (ver := ver) fun _ => unks_ok (fs := fs) hk.u) invl_nil
  rwa [List.append_nil] at h
theorem inv_part {fs : List Fd} {g : Rd} {gs : List (V → List UInt8)} (hf : freeFs fs = true) (h : InvL g ver fl gs (bodyL fs ver fl t.l 0 ++ (if fl then uvW (unksW fs t).length ++ tagsW (unksW fs t) else []))) : InvL g ver fl gs (partW fs ver fl t) := by
  rw [partW_flat (freeFs_tag hf)]; exact h
theorem inv_has {f : Fd} {r : Rd} {a : V → List UInt8} (hh : f.has ver = true) (h : Inv r ver fl a (fieldW f ver fl y)) : Inv r ver fl a (if f.has ver then fieldW f ver fl y else []) := by rw [if_pos hh]; exact h
theorem has_all {kind : Int} (hv : 0 ≤ ver) (h1 : fr ≤ 0) (h2 : to < 0) : Fd.has (.mk kind fr to nul tag df of sub) ver = true := by
  show (decide (fr ≤ ver) && (decide (to < 0) || decide (ver ≤ to))) = true
  simp only [Bool.and_eq_true, Bool.or_eq_true, decide_eq_true_eq]; omega
theorem uuidW_len (s : List UInt8) : (uuidW s).length = 16 := by simp only [uuidW, List.length_append, List.length_take, List.length_replicate]; omega
theorem invf_i32 : Inv (rdOne fun _ _ => gNum .i32 4) ver fl (apInt 4) (fieldW (.mk 3 fr to nul tag df of sub) ver fl y) := by rw [fieldW_eq, show Fd.kind (.mk 3 fr to nul tag df of sub) = 3 from rfl, fieldV_i32]; exact inv_i32
theorem invf_str (hn : nul < 0) : Inv (rdOne fun _ fl st => if fl then gCStr st else gStr st) ver fl (fun x => if fl then apCStr x else apStr x) (fieldW (.mk 8 fr to nul tag df of sub) ver fl y) := by
  rw [fieldW_eq, show Fd.kind (.mk 8 fr to nul tag df of sub) = 8 from rfl, fieldV_str (nullW_no (show Fd.nul (.mk 8 fr to nul tag df of sub) < 0 from hn))]; exact inv_two (fun _ => inv_cstr (wholeS_len _)) (fun _ => inv_str (wholeS_len _))
theorem invf_arr {ge : Rd} {ga : V → List UInt8} (hn : nul < 0) (he : ∀ z ∈ y.l, Inv ge ver fl ga (valueW of (partW sub ver fl) false fl z)) (h1 : ∀ z, 1 ≤ (valueW of (partW sub ver fl) false fl z).length) :
    Inv (rdArr (fun _ fl st => if fl then gCALen st else gALen st) ge) ver fl (fun x => (if fl then apCLen x.items.length else apLen x.items.length) ++ (x.items.map ga).flatten) (fieldW (.mk 11 fr to nul tag df of sub) ver fl y) := by
  have e : fieldW (.mk 11 fr to nul tag df of sub) ver fl y = (if fl then uvW ((y.l.take 32767).length + 1) else fxW (y.l.take 32767).length 4) ++ ((y.l.take 32767).map (valueW of (partW sub ver fl) false fl)).flatten := by
    rw [fieldW_eq];have h0 : nullW nul ver y = false := nullW_no hn;show fieldV 11 nul of (partW sub ver fl) ver fl y = _
    simp only [fieldV, if_true, h0, thingsW, List.flatMap]
    cases fl <;> simp [countedW]
  rw [e];have hl : (y.l.take 32767).length ≤ 32767 := by simp; omega
  refine inv_arr (la := fun n => if fl then apCLen n else apLen n) ?_ ?_ ?_ ?_
  · rw [List.length_map]
    cases fl
    · exact len_fixed hl
    exact len_uv hl
  · rw [List.length_map]; cases fl <;> rfl
  · intro o ho;obtain ⟨z, hz, rfl⟩ := List.mem_map.1 ho;exact he z (List.mem_of_mem_take hz)
  intro o ho;obtain ⟨z, hz, rfl⟩ := List.mem_map.1 ho;exact h1 z
theorem inv_el {ge : Rd} {gs : List (V → List UInt8)} {s : T → List UInt8} (h : InvL ge ver fl gs (s y)) : Inv ge ver fl (apSt gs) (valueW 10 s false fl y) := by
  have e : valueW 10 s false fl y = s y := by simp [valueW]
  rw [e]; exact inv_st h
theorem inv_el_i32 {s : T → List UInt8} : Inv (rdOne fun _ _ => gNum .i32 4) ver fl (apInt 4) (valueW 3 s false fl y) := by
  have e : valueW 3 s false fl y = fxW y.n 4 := by simp [valueW, widthW]
  rw [e]; exact inv_i32
theorem counted_pos {null : Bool} {n size : Nat} (h : 0 < size) : 1 ≤ (countedW fl null n size).length := by
  unfold countedW
  split
  · simp
  split
  · exact uvW_pos _
  split <;> simp only [fxL] <;> omega
theorem widthW_pos (k : Int) : 0 < widthW k := by unfold widthW; repeat' split <;> try omega
theorem value_pos {kind : Int} {s : T → List UInt8} {null : Bool} (h : kind ≠ 10) : 1 ≤ (valueW kind s null fl y).length := by
  unfold valueW
  split
  · simp
  split
  · rw [uuidW_len]; omega
  split
  · exact app_pos (counted_pos (by omega))
  split
  · exact app_pos (counted_pos (by omega))
  rw [fxL]; exact widthW_pos kind
theorem value_pos10 {s : T → List UInt8} {null : Bool} (h : 1 ≤ (s y).length) : 1 ≤ (valueW 10 s null fl y).length := by
  have e : valueW 10 s null fl y = s y := by simp [valueW]
  rw [e]; exact h
theorem fieldW_pos {kind : Int} (h : kind ≠ 10) : 1 ≤ (fieldW (.mk kind fr to nul tag df of sub) ver fl y).length := by
  rw [fieldW_eq];show 1 ≤ (fieldV kind nul of (partW sub ver fl) ver fl y).length
  unfold fieldV
  split
  · exact app_pos (counted_pos (by omega))
  rw [if_neg (by intro e; exact h e.1)]; exact value_pos h
theorem body_head {f : Fd} {fs : List Fd} {ts : List T} {i : Nat} (hh : f.has ver = true) (h : 1 ≤ (fieldW f ver fl (atT ts i)).length) : 1 ≤ (bodyL (f :: fs) ver fl ts i).length := by
  rw [bodyL, if_pos hh]; exact app_pos h
theorem part_pos {fs : List Fd} (hf : freeFs fs = true) (h : 1 ≤ (bodyL fs ver fl t.l 0).length) : 1 ≤ (partW fs ver fl t).length := by
  rw [partW_flat (freeFs_tag hf)]; exact app_pos h
end
end Go.Kq

namespace Go.Kq
open Go Go.Proofs Go.ChangeShapes Go.WideShapes Go.ChangeAt Go.RowKit
section
variable {H : Type} {enc : TypeId × Value → H} {P : Program} {bk : DataW H → Nat} {bks : List (DataW H) → Nat}
theorem id_of_trod {TI tB tS : TypeId} {fs : Array Field} {W : World} (hbk : Bulk bk bks) (hst : ∀ l, bk (.lit (.string l)) = l.length + 1) (ht : P.underlying TI = some (.struct fs)) (c2 : P.cellsOf TI = 2) (sz : fs.size = 2)
    (f0 : fs[0]?.map (fun f => (f.type, f.offset)) = some (tB, 0)) (f1 : fs[1]?.map (fun f => (f.type, f.offset)) = some (tS, 1)) (cB : P.cellsOf tB = 1) (cS : P.cellsOf tS = 1) (b : P.underlying tB = some .bool) (s : P.underlying tS = some .string)
    {fuel : Nat} {cs : List Value} {x : DataW H × List MemPlace} (h : DataW.trod enc P W 0 (fun _ => true) true fuel TI cs = some x) : ∃ (has : Bool) (st : ByteArray), cs = [.bool has, .string st] ∧ st.data.toList.length + 1 ≤ bk x.1 := by
  obtain ⟨xs, m, rfl, rfl, hcl, hxl, hxs⟩ := DataW.trod_struct ht h;rw [c2] at hcl
  match cs, hcl with
  | [c0, c1], _ =>
    obtain ⟨y0, hy0, q0⟩ := fld_of (P := P) f0 cB hxl hxs;obtain ⟨y1, hy1, q1⟩ := fld_of (P := P) f1 cS hxl hxs;simp only [List.drop_zero, List.take_succ_cons, List.take_zero, List.drop_succ_cons] at q0 q1;rw [sz] at hxl;have hxe : xs = [y0, y1] := by
      match xs, hxl with
      | [a0, a1], _ => simp at hy0 hy1; simp [hy0, hy1]
    subst hxe;obtain ⟨nb, hnb, _⟩ := DataW.trod_bool b q0;obtain ⟨st, hs, hx, _⟩ := DataW.trod_string s q1;simp at hnb hs
    subst hnb; subst hs; subst hx;refine ⟨nb, st, rfl, ?_⟩;simp only [List.map_cons, List.map_nil, hbk.agg, hbk.c, hbk.n, hst];omega
end
end Go.Kq

namespace Go.Kq
open Go Go.Proofs
def gNLen (b : Bool) (n : Nat) : List UInt8 := if b then fxW (-1) 4 else fxW n 4
def gCNLen (b : Bool) (n : Nat) : List UInt8 := if b then uvW 0 else uvW (n + 1)
theorem gNLen_len (b : Bool) (n : Nat) : (gNLen b n).length = 4 := by unfold gNLen; split <;> exact fxL _ _
theorem gCNLen_pos (b : Bool) (n : Nat) : 1 ≤ (gCNLen b n).length := by unfold gCNLen; split <;> exact uvW_pos _
def apNLen (x : V) : List UInt8 := gNLen x.isNil x.items.length
def apCNLen (x : V) : List UInt8 := gCNLen x.isNil x.items.length
theorem apNLen_pos (x : V) : 1 ≤ (apNLen x).length := by have := gNLen_len x.isNil x.items.length; unfold apNLen; omega
theorem apCNLen_pos (x : V) : 1 ≤ (apCNLen x).length := gCNLen_pos _ _
structure ApLN (P : Program) (f : FuncId) (g : Bool → Nat → List UInt8) : Prop where
  enters : Enters P f
  call : ∀ (w : World) (A : Nat → Prop) (dst : Value) (xs : List UInt8) (n : Nat) (b : Bool), Own w A 1 dst xs.length (octets xs) → n < 4294967295 → (xs ++ g b n).length ≤ 4294967296 → Calls P f #[dst, .int .i64 n, .bool b] w (Apd w A dst (xs ++ g b n))
section
variable {P : Program} {N : Nat} {e : AE} {c : Ctx} {id n L s : Nat} {t0 t1 t2 t3 t4 t5 t6 : TypeId} {p0 p1 p2 p3 p4 p5 p6 : String} {e0 e1 e2 e3 e4 e5 e6 : Array Edge}
theorem ak_lenN {t : Ty} {cv : Value} {x : V} {f : FuncId} {ats : Array TypeId} {T U1 U2 : TypeId} {lg : Bool → Nat → List UInt8} (hf : ApLN P f lg) (hr : Rep e.w0 e.B (.arr t) [cv] x) (hn : x.items.length < 4294967295) (hL : (L, cv) ∈ c) (hT : slTy P T = true) (hU : slTy P U1 = true)
    (hb : (c.free n [1] && decide (1 < n) && decide (n + 5 < N)) = true) :
    ApC P N e c (Code.region id ⟨[oM n 1 t0 p0 e0, oM (n + 1) L t1 p1 e1, ⟨some (n + 2), .call ⟨.builtin .len, #[.tmp (n + 1)], #[T]⟩, t2, p2, e2, none⟩,
      oM (n + 3) L t3 p3 e3, ⟨some (n + 4), .binOp .eql U1 (.tmp (n + 3)) (.const (.slice none 0 0)) U2, t4, p4, e4, none⟩,
      oC (n + 5) f #[.tmp n, .tmp (n + 2), .tmp (n + 4)] ats t5 p5 e5, oT 1 (n + 5) t6 p6 e6]⟩ false) (lg x.isNil x.items.length) := by
  obtain ⟨q, cap, rfl, hnil, _, _⟩ := arr_cell hr;intro K Q a w v xs hN hd hc hv hst hbd hK;simp only [Bool.and_eq_true, decide_eq_true_eq] at hb;obtain ⟨⟨b1, b2⟩, b3⟩ := hb;have hLn := (Ctx.lt b1 hL).1;simp only at hLn;refine wp_reg ?_;refine wC (wMv (v := v) (by rw [eTm]; exact hv) ?_);refine wC (wMv (v := .slice q x.items.length cap) (by rw [eTm, gR]; exact hc _ hL) ?_);refine wC (wp_lenS hT (q := q) (n := x.items.length) (cap := cap) (by rw [eTm, gQ]) ?_);refine wC (wMv (v := .slice q x.items.length cap) (by rw [eTm, gR, gR, gR]; exact hc _ hL) ?_);refine wC (wp_eqNil hU (q := q) (l := x.items.length) (c := cap) (by rw [eTm, gQ]) ?_);rw [show q.isNone = x.isNil from hnil, wCo];refine wCr (vs := #[v, .int .i64 x.items.length, .bool x.isNil]) hf.enters (by simp only [List.map_toArray, List.map_cons, List.map_nil, eTm]; rw [gR, gR, gR, gR, gQ, gR, gR, gQ, gQ]) (Apd.ret (hf.call w _ v xs _ _ hst.own hn (by omega))) ?_;intro v' w' hr;refine wC (wAs (v := v') (by rw [eTm, gQ]) ?_);rw [wNi];exact ApC.done (c := c) (by simp only [sPu]; exact hN) (by simp only [dPu]; exact hd) (Ctx.on_put (Ctx.on_put (Ctx.on_put (Ctx.on_put (Ctx.on_put (Ctx.on_put (Ctx.on_put hc b1 (.inl (by omega))) b1 (.inl (by omega))) b1 (.inl (by omega))) b1 (.inl (by omega))) b1 (.inl (by omega))) b1 (.inl (by omega))) b1 (.inr (by simp))) (gQ) hst hK hr
end
section
variable {ver : Int} {fl : Bool} {y : T} {fr to nul tag df of : Int} {sub : List Fd}
theorem rd_null (fl : Bool) (rest : List UInt8) (nl : Bool) : (if fl then gCALen else gALen) ⟨(if fl then [0] else fxW (-1) 4) ++ rest, nl, false⟩ = (.n (-1), ⟨rest, nl, false⟩) := by
  cases fl
  · have : IntKind.i32.wrap ((Lib.beNat (fxW (-1) 4) : Nat) : Int) = -1 := by rw [beNat_f4]; rfl
    have h0 : ¬ ((rest.length : Int) < -1) := by omega
    simp [gALen, rdArrayLen, rdNum_app, this, h0]
  have e : IntKind.i32.wrap (IntKind.i32.wrap ((0 : Nat) : Int) - 1) = -1 := by decide
  have h0 : ¬ ((rest.length : Int) < -1) := by omega
  rw [show (if true = true then [0] else fxW (-1) 4 : List UInt8) = uvW 0 from by rw [uvW_zero]; rfl];simp only [if_true, gCALen, rdCArrayLen, rdUv_app (show 0 < 4294967296 by omega), e, h0, if_false]
theorem inv_arrN {ge : Rd} {ver : Int} {fl : Bool} {a : V → List UInt8} {vn : Int} {lo : List UInt8} {os : List (List UInt8)} (hv : 0 ≤ ver) (hvn : vn ≤ 0)
    (hlo : lo = if fl then uvW (os.length + 1) else fxW os.length 4) (hl : LenI (if fl then gCALen else gALen) lo os.length) (ho : ∀ o ∈ os, Inv ge ver fl a o) (h1 : ∀ o ∈ os, 1 ≤ o.length) :
    Inv (rdArrN vn (fun _ fl st => if fl then gCALen st else gALen st) ge) ver fl (fun x => (if fl then apCNLen x else apNLen x) ++ (x.items.map a).flatten) (lo ++ os.flatten) := by
  intro rest nl hn;have hnl := nl_false hn (by simp [hl.1]);subst hnl;have h2 := hl.2 (os.flatten ++ rest) (by rw [List.length_append]; have := flatten_len h1; omega);have h2' : (if fl then gCALen ⟨lo ++ (os.flatten ++ rest), false, false⟩ else gALen ⟨lo ++ (os.flatten ++ rest), false, false⟩) = (.n os.length, ⟨os.flatten ++ rest, false, false⟩) := by
    rw [← h2]; cases fl <;> rfl
  obtain ⟨xs, h3, h4, h5⟩ := rdMany_app os rest ho;simp only [rdArrN, List.append_assoc, h2']
  by_cases h0 : os.length = 0
  · have : os = [] := List.eq_nil_of_length_eq_zero h0;subst this;refine ⟨.l [], by simp, ?_⟩;rw [hlo]; cases fl <;> simp [V.items, V.isNil, apCNLen, apNLen, gCNLen, gNLen]
  refine ⟨.l xs, ?_, ?_⟩
  · have h6 : (0 : Int) < os.length := by omega
    have h7 : os ≠ [] := by rintro rfl; exact h0 rfl
    simp [h7, h3]
  rw [hlo]; cases fl <;> simp [V.items, V.isNil, apCNLen, apNLen, gCNLen, gNLen, h4, h5]
theorem invf_arrN {ge : Rd} {ga : V → List UInt8} {vn : Int} (hv : 0 ≤ ver) (hvn : vn ≤ 0) (he : ∀ z ∈ y.l, Inv ge ver fl ga (valueW of (partW sub ver fl) false fl z)) (h1 : ∀ z, 1 ≤ (valueW of (partW sub ver fl) false fl z).length) :
    Inv (rdArrN vn (fun _ fl st => if fl then gCALen st else gALen st) ge) ver fl (fun x => (if fl then apCNLen x else apNLen x) ++ (x.items.map ga).flatten) (fieldW (.mk 11 fr to nul tag df of sub) ver fl y) := by
  rw [fieldW_eq]
  cases h0 : nullW nul ver y with
  | true =>
    have e : fieldV (Fd.mk 11 fr to nul tag df of sub).kind (Fd.mk 11 fr to nul tag df of sub).nul (Fd.mk 11 fr to nul tag df of sub).of (partW (Fd.mk 11 fr to nul tag df of sub).sub ver fl) ver fl y = if fl then [0] else fxW (-1) 4 := by
      show fieldV 11 nul of (partW sub ver fl) ver fl y = _
      simp only [fieldV, if_true, h0, thingsW]
      cases fl <;> simp [countedW]
    rw [e];intro rest nl hn;have hr := rd_null fl rest nl;have hr' : (if fl then gCALen ⟨(if fl then [0] else fxW (-1) 4) ++ rest, nl, false⟩ else gALen ⟨(if fl then [0] else fxW (-1) 4) ++ rest, nl, false⟩) = (.n (-1), ⟨rest, nl, false⟩) := by rw [← hr]; cases fl <;> rfl
    refine ⟨.nil, ?_, ?_⟩
    · simp only [rdArrN, hr'];have hq : decide (ver < vn) = false := decide_eq_false (by omega);simp [hq]
    cases fl <;> simp [V.items, V.isNil, apCNLen, apNLen, gCNLen, gNLen, uvW_zero]
  | false =>
    have e : fieldV (Fd.mk 11 fr to nul tag df of sub).kind (Fd.mk 11 fr to nul tag df of sub).nul (Fd.mk 11 fr to nul tag df of sub).of (partW (Fd.mk 11 fr to nul tag df of sub).sub ver fl) ver fl y = (if fl then uvW ((y.l.take 32767).length + 1) else fxW (y.l.take 32767).length 4) ++ ((y.l.take 32767).map (valueW of (partW sub ver fl) false fl)).flatten := by
      show fieldV 11 nul of (partW sub ver fl) ver fl y = _
      simp only [fieldV, if_true, h0, thingsW, List.flatMap]
      cases fl <;> simp [countedW]
    rw [e];have hl : (y.l.take 32767).length ≤ 32767 := by simp; omega
    refine inv_arrN hv hvn (by rw [List.length_map]) ?_ ?_ ?_
    · rw [List.length_map]
      cases fl
      · exact len_fixed hl
      exact len_uv hl
    · intro o ho;obtain ⟨z, hz, rfl⟩ := List.mem_map.1 ho;exact he z (List.mem_of_mem_take hz)
    intro o ho;obtain ⟨z, hz, rfl⟩ := List.mem_map.1 ho;exact h1 z
end
theorem ap_nlen {P : Program} {f : FuncId} {fn : Func} {T3 T21 : TypeId} {f85 : FuncId} {ct0 : Array TypeId} {ct1 : Array TypeId} {i0 i1 i2 i3 : Nat} {t0 t1 t2 t3 t4 t5 t6 t7 t8 t9 : TypeId} {p0 p1 p2 p3 p4 p5 p6 p7 p8 p9 : String} {e0 e1 e2 e3 e4 e5 e6 e7 e8 e9 : Array Edge} {te : TypeId}
    (hf : P.funcs[f]? = some fn) (hname : (fn.name == "runtime.NumGoroutine") = false) (hres : fn.results = #[.tmp 6]) (hN : fn.ntmps = 14)
    (hbody : fn.body = some (.seq (Code.region i0 ⟨[oA 6 (.const (.slice none 0 0)) t0 p0 e0]⟩ false) (.seq (.seq (Code.region i1 ⟨[oM 7 2 t1 p1 e1]⟩ false) (.cond (.tmp 7) (.seq (Code.region i2 ⟨[oM 8 0 t2 p2 e2,
    oC 9 f85 #[(.tmp 8), (.const (.int .i32 (-1)))] ct0 t3 p3 e3,
    oT 6 9 t4 p4 e4]⟩ false) .ret) .skip)) (.seq (Code.region i3 ⟨[oM 10 0 t5 p5 e5,
    oM 11 1 t6 p6 e6, ⟨some 12, .convert T3 T21 (.tmp 11), t7, p7, e7, none⟩,
    oC 13 f85 #[(.tmp 10), (.tmp 12)] ct1 t8 p8 e8,
    oT 6 13 t9 p9 e9]⟩ false) .ret))))
    (hT3_i64 : intOf P T3 .i64 = true) (hT21_i32 : intOf P T21 .i32 = true) (hC : ApI P f85 .i32 4) : ApLN P f gNLen := by
  refine ⟨enters_of hf hname hbody, ?_⟩;intro w A dst xs n b own hn hb;refine calls_of_wp hf hbody ?_;generalize ha0 : ({ tmps := #[dst, Value.int .i64 ((n : Nat) : Int), Value.bool b] ++ Array.replicate (fn.ntmps - (#[dst, Value.int .i64 ((n : Nat) : Int), Value.bool b] : Array Value).size) undef, defers := [] } : Act) = a0;have hz0 : a0.tmps.size = 14 := by subst ha0; simp [hN]
  have hd0 : a0.defers = [] := by subst ha0; rfl
  have g0_0 : get a0 0 = dst := by subst ha0; exact gAr rfl
  have g0_1 : get a0 1 = .int .i64 ((n : Nat) : Int) := by subst ha0; exact gAr rfl
  have g0_2 : get a0 2 = .bool b := by subst ha0; exact gAr rfl
  have hi0 : ∀ r ∈ spare dst 1, r.In (spare dst 1) w := fun r h => Rng.in_self h;have ho0 : Own w (fun b => A b ∨ (w.heap.size ≤ b ∧ b < w.heap.size)) 1 dst xs.length (octets xs) := own.imp_A fun _ h => .inl h;refine wT fun K1 hK1 => ?_;refine wC (wAs (v := .slice none 0 0) rfl ?_);refine wEk hz0 hd0 fun a2 ha2 hz2 hd2 => ?_;have g2_0 := kP ha2 g0_0;have g2_1 := kP ha2 g0_1;have g2_2 := kP ha2 g0_2;refine hK1 a2 w (tUp ?_);refine tId (wp_seq_k fun K3 hK3 => ?_);refine wS fun K4 hK4 => ?_;refine wC (wMv (v := .bool b) (eK g2_2) ?_);refine wEk hz2 hd2 fun a5 ha5 hz5 hd5 => ?_;have g5_0 := kP ha5 g2_0;have g5_1 := kP ha5 g2_1;have g5_7 : get a5 7 = .bool b := kG ha5 hz2;refine hK4 a5 w ?_;refine wp_cond_split (t := b) (eK g5_7) (fun hc6 => ?_) (fun hc6 => ?_)
  · have hbb : b = true := hc6;refine wS fun K7 hK7 => ?_;refine wC (wMv (v := dst) (eK g5_0) ?_);refine wC (wCr (R := fun vz wz => Fr (spare dst 1) w wz ∧ Own wz (fun b => (fun b => A b ∨ (w.heap.size ≤ b ∧ b < w.heap.size)) b ∨ (w.heap.size ≤ b ∧ b < wz.heap.size)) 1 vz (xs ++ (fxW (-1) 4)).length (octets (xs ++ (fxW (-1) 4))) ∧ ∀ r ∈ spare vz 1, r.In (spare dst 1) w) (vs := #[dst, .int .i32 (-1)]) hC.enters (by simp only [List.map_toArray, List.map_cons, List.map_nil]; rw [eTm, sZ hz5 (by decide), show (a5.put (some 8) dst).eval (.const (.int .i32 (-1))) = Value.int .i32 (-1) from rfl]) (Apd.ret (hC.call w (fun b => A b ∨ (w.heap.size ≤ b ∧ b < w.heap.size)) _ _ (-1) ho0 (by decide) (by decide) (by have : (gNLen b n).length = 4 := gNLen_len b n; rw [List.length_append] at hb; omega))) ?_);rintro v8 w8 ⟨f8, ho8, hi8⟩;have h9 : Fr (spare dst 1) w w8 := (Fr.refl (spare dst 1) w).trans f8 hi0;have o9 : Own w8 (fun b => A b ∨ (w.heap.size ≤ b ∧ b < w8.heap.size)) 1 v8 (xs ++ (fxW (-1) 4)).length (octets (xs ++ (fxW (-1) 4))) := ho8.imp_A (own_or (Fr.refl (spare dst 1) w).size f8.size);have i9 : ∀ r ∈ spare v8 1, r.In (spare dst 1) w := fun r hr => Rng.in_trans (hi8 r hr) hi0 (Fr.refl (spare dst 1) w).size;refine wC (wAs (v := v8) (eS hz5) ?_);refine wEk hz5 hd5 fun a10 ha10 hz10 hd10 => ?_;have g10_6 : get a10 6 = v8 := kG ha10 hz5;refine hK7 a10 w8 ?_;refine wp_ret ?_;refine ⟨hd10, _, rIs hres g10_6, _, rfl, h9, ?_, i9⟩;have ho := o9;subst hbb; exact ho
  have hbb : b = false := hc6;refine wp_skip ?_;refine hK3 a5 w (tUp ?_);refine wT fun K11 hK11 => ?_;refine wC (wMv (v := dst) (eK g5_0) ?_);refine wC (wMv (v := .int .i64 ((n : Nat) : Int)) (eK g5_1) ?_);refine wC (wCv (k1 := .i64) (i := ((n : Nat) : Int)) hT3_i64 hT21_i32 (eS hz5) ?_);refine wC (wCr (R := fun vz wz => Fr (spare dst 1) w wz ∧ Own wz (fun b => (fun b => A b ∨ (w.heap.size ≤ b ∧ b < w.heap.size)) b ∨ (w.heap.size ≤ b ∧ b < wz.heap.size)) 1 vz (xs ++ (fxW (IntKind.i32.wrap ((n : Nat) : Int)) 4)).length (octets (xs ++ (fxW (IntKind.i32.wrap ((n : Nat) : Int)) 4))) ∧ ∀ r ∈ spare vz 1, r.In (spare dst 1) w) (vs := #[dst, .int .i32 (IntKind.i32.wrap (((n : Nat) : Int) : Int))]) hC.enters (mX2 (eS hz5) (eS hz5)) (Apd.ret (hC.call w (fun b => A b ∨ (w.heap.size ≤ b ∧ b < w.heap.size)) _ _ _ ho0 (w32 _).1 (w32 _).2 (by have : (gNLen b n).length = 4 := gNLen_len b n; rw [List.length_append] at hb; omega))) ?_);rintro v12 w12 ⟨f12, ho12, hi12⟩;have h13 : Fr (spare dst 1) w w12 := (Fr.refl (spare dst 1) w).trans f12 hi0;have o13 : Own w12 (fun b => A b ∨ (w.heap.size ≤ b ∧ b < w12.heap.size)) 1 v12 (xs ++ (fxW (IntKind.i32.wrap ((n : Nat) : Int)) 4)).length (octets (xs ++ (fxW (IntKind.i32.wrap ((n : Nat) : Int)) 4))) := ho12.imp_A (own_or (Fr.refl (spare dst 1) w).size f12.size);have i13 : ∀ r ∈ spare v12 1, r.In (spare dst 1) w := fun r hr => Rng.in_trans (hi12 r hr) hi0 (Fr.refl (spare dst 1) w).size;refine wC (wAs (v := v12) (eS hz5) ?_);refine wEk hz5 hd5 fun a14 ha14 hz14 hd14 => ?_;have g14_6 : get a14 6 = v12 := kG ha14 hz5;refine hK11 a14 w12 (tUp ?_);refine wp_ret ?_;refine ⟨hd14, _, rIs hres g14_6, _, rfl, h13, ?_, i13⟩;have ho := o13;rw [fixedW_w32] at ho;subst hbb; exact ho
theorem ap_cnlen {P : Program} {f : FuncId} {fn : Func} {T3 T65 : TypeId} {f130 : FuncId} {ct0 : Array TypeId} {ct1 : Array TypeId} {i0 i1 i2 i3 : Nat} {t0 t1 t2 t3 t4 t5 t6 t7 t8 t9 t10 : TypeId} {p0 p1 p2 p3 p4 p5 p6 p7 p8 p9 p10 : String} {e0 e1 e2 e3 e4 e5 e6 e7 e8 e9 e10 : Array Edge} {te : TypeId}
    (hf : P.funcs[f]? = some fn) (hname : (fn.name == "runtime.NumGoroutine") = false) (hres : fn.results = #[.tmp 6]) (hN : fn.ntmps = 15)
    (hbody : fn.body = some (.seq (Code.region i0 ⟨[oA 6 (.const (.slice none 0 0)) t0 p0 e0]⟩ false) (.seq (.seq (Code.region i1 ⟨[oM 7 2 t1 p1 e1]⟩ false) (.cond (.tmp 7) (.seq (Code.region i2 ⟨[oM 8 0 t2 p2 e2,
    oC 9 f130 #[(.tmp 8), (.const (.int .u32 0))] ct0 t3 p3 e3,
    oT 6 9 t4 p4 e4]⟩ false) .ret) .skip)) (.seq (Code.region i3 ⟨[oM 10 0 t5 p5 e5,
    oM 11 1 t6 p6 e6, ⟨some 12, .convert T3 T65 (.tmp 11), t7, p7, e7, none⟩, ⟨some 13, .binOp .add T65 (.const (.int .u32 1)) (.tmp 12) T65, t8, p8, e8, none⟩,
    oC 14 f130 #[(.tmp 10), (.tmp 13)] ct1 t9 p9 e9,
    oT 6 14 t10 p10 e10]⟩ false) .ret))))
    (hT3_i64 : intOf P T3 .i64 = true) (hT65_u32 : intOf P T65 .u32 = true) (hC : ApU P f130) : ApLN P f gCNLen := by
  refine ⟨enters_of hf hname hbody, ?_⟩;intro w A dst xs n b own hn hb;refine calls_of_wp hf hbody ?_;generalize ha0 : ({ tmps := #[dst, Value.int .i64 ((n : Nat) : Int), Value.bool b] ++ Array.replicate (fn.ntmps - (#[dst, Value.int .i64 ((n : Nat) : Int), Value.bool b] : Array Value).size) undef, defers := [] } : Act) = a0;have hz0 : a0.tmps.size = 15 := by subst ha0; simp [hN]
  have hd0 : a0.defers = [] := by subst ha0; rfl
  have g0_0 : get a0 0 = dst := by subst ha0; exact gAr rfl
  have g0_1 : get a0 1 = .int .i64 ((n : Nat) : Int) := by subst ha0; exact gAr rfl
  have g0_2 : get a0 2 = .bool b := by subst ha0; exact gAr rfl
  have hi0 : ∀ r ∈ spare dst 1, r.In (spare dst 1) w := fun r h => Rng.in_self h;have ho0 : Own w (fun b => A b ∨ (w.heap.size ≤ b ∧ b < w.heap.size)) 1 dst xs.length (octets xs) := own.imp_A fun _ h => .inl h;refine wT fun K1 hK1 => ?_;refine wC (wAs (v := .slice none 0 0) rfl ?_);refine wEk hz0 hd0 fun a2 ha2 hz2 hd2 => ?_;have g2_0 := kP ha2 g0_0;have g2_1 := kP ha2 g0_1;have g2_2 := kP ha2 g0_2;refine hK1 a2 w (tUp ?_);refine tId (wp_seq_k fun K3 hK3 => ?_);refine wS fun K4 hK4 => ?_;refine wC (wMv (v := .bool b) (eK g2_2) ?_);refine wEk hz2 hd2 fun a5 ha5 hz5 hd5 => ?_;have g5_0 := kP ha5 g2_0;have g5_1 := kP ha5 g2_1;have g5_7 : get a5 7 = .bool b := kG ha5 hz2;refine hK4 a5 w ?_;refine wp_cond_split (t := b) (eK g5_7) (fun hc6 => ?_) (fun hc6 => ?_)
  · have hbb : b = true := hc6;refine wS fun K7 hK7 => ?_;refine wC (wMv (v := dst) (eK g5_0) ?_);refine wC (wCr (R := fun vz wz => Fr (spare dst 1) w wz ∧ Own wz (fun b => (fun b => A b ∨ (w.heap.size ≤ b ∧ b < w.heap.size)) b ∨ (w.heap.size ≤ b ∧ b < wz.heap.size)) 1 vz (xs ++ (uvW 0)).length (octets (xs ++ (uvW 0))) ∧ ∀ r ∈ spare vz 1, r.In (spare dst 1) w) (vs := #[dst, .int .u32 0]) hC.enters (by simp only [List.map_toArray, List.map_cons, List.map_nil]; rw [eTm, sZ hz5 (by decide), show (a5.put (some 8) dst).eval (.const (.int .u32 0)) = Value.int .u32 0 from rfl]) (Apd.ret (hC.call w (fun b => A b ∨ (w.heap.size ≤ b ∧ b < w.heap.size)) _ _ 0 ho0 (by decide) (by subst hbb; exact hb))) ?_);rintro v8 w8 ⟨f8, ho8, hi8⟩;have h9 : Fr (spare dst 1) w w8 := (Fr.refl (spare dst 1) w).trans f8 hi0;have o9 : Own w8 (fun b => A b ∨ (w.heap.size ≤ b ∧ b < w8.heap.size)) 1 v8 (xs ++ (uvW 0)).length (octets (xs ++ (uvW 0))) := ho8.imp_A (own_or (Fr.refl (spare dst 1) w).size f8.size);have i9 : ∀ r ∈ spare v8 1, r.In (spare dst 1) w := fun r hr => Rng.in_trans (hi8 r hr) hi0 (Fr.refl (spare dst 1) w).size;refine wC (wAs (v := v8) (eS hz5) ?_);refine wEk hz5 hd5 fun a10 ha10 hz10 hd10 => ?_;have g10_6 : get a10 6 = v8 := kG ha10 hz5;refine hK7 a10 w8 ?_;refine wp_ret ?_;refine ⟨hd10, _, rIs hres g10_6, _, rfl, h9, ?_, i9⟩;have ho := o9;subst hbb; exact ho
  have hbb : b = false := hc6;refine wp_skip ?_;refine hK3 a5 w (tUp ?_);refine wT fun K11 hK11 => ?_;refine wC (wMv (v := dst) (eK g5_0) ?_);refine wC (wMv (v := .int .i64 ((n : Nat) : Int)) (eK g5_1) ?_);refine wC (wCv (k1 := .i64) (i := ((n : Nat) : Int)) hT3_i64 hT65_u32 (eS hz5) ?_);rw [show (IntKind.u32.wrap (((n : Nat) : Int) : Int)) = (((n : Nat) : Int) : Int) from by simp only [IntKind.wrap, IntKind.bits, IntKind.signed]; simp; omega];refine wC (wp_add (k1 := .u32) (i := 1) (j := ((n : Nat) : Int)) rfl (eS hz5) ?_);rw [show (IntKind.u32.wrap ((1 : Int) + (((n : Nat) : Int) : Int)) : Int) = (((n + 1 : Nat) : Int) : Int) from by simp only [IntKind.wrap, IntKind.bits, IntKind.signed]; simp; omega];refine wC (wCr (R := fun vz wz => Fr (spare dst 1) w wz ∧ Own wz (fun b => (fun b => A b ∨ (w.heap.size ≤ b ∧ b < w.heap.size)) b ∨ (w.heap.size ≤ b ∧ b < wz.heap.size)) 1 vz (xs ++ (uvW (n + 1))).length (octets (xs ++ (uvW (n + 1)))) ∧ ∀ r ∈ spare vz 1, r.In (spare dst 1) w) (vs := #[dst, .int .u32 ((n + 1 : Nat) : Int)]) hC.enters (mX2 (eS hz5) (eS hz5)) (Apd.ret (hC.call w (fun b => A b ∨ (w.heap.size ≤ b ∧ b < w.heap.size)) _ _ (n + 1) ho0 (by omega) (by subst hbb; exact hb))) ?_);rintro v12 w12 ⟨f12, ho12, hi12⟩;have h13 : Fr (spare dst 1) w w12 := (Fr.refl (spare dst 1) w).trans f12 hi0;have o13 : Own w12 (fun b => A b ∨ (w.heap.size ≤ b ∧ b < w12.heap.size)) 1 v12 (xs ++ (uvW (n + 1))).length (octets (xs ++ (uvW (n + 1)))) := ho12.imp_A (own_or (Fr.refl (spare dst 1) w).size f12.size);have i13 : ∀ r ∈ spare v12 1, r.In (spare dst 1) w := fun r hr => Rng.in_trans (hi12 r hr) hi0 (Fr.refl (spare dst 1) w).size;refine wC (wAs (v := v12) (eS hz5) ?_);refine wEk hz5 hd5 fun a14 ha14 hz14 hd14 => ?_;have g14_6 : get a14 6 = v12 := kG ha14 hz5;refine hK11 a14 w12 (tUp ?_);refine wp_ret ?_;refine ⟨hd14, _, rIs hres g14_6, _, rfl, h13, ?_, i13⟩;have ho := o13;subst hbb; exact ho
end Go.Kq
