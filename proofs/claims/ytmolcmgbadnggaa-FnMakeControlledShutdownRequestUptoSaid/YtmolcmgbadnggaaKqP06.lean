/- A part of the library: rules of reasoning about the program's operations and what its shared functions do. -/
import Derived.Test.YtmolcmgbadnggaaKqP05
import Derived.Test.YtmolcmgbadnggaaKqP04
import Derived.Test.YtmolcmgbadnggaaKqP03
import Derived.Laws.IdiomCopy
import Derived.Test.YtmolcmgbadnggaaKqP01
import Derived.Test.YtmolcmgbadnggaaKqP02
import Derived.Lib.SliceRun
set_option linter.unusedVariables false
set_option linter.unusedSimpArgs false
namespace Go.Kq
open Go Go.Proofs
theorem lawm_m {P : Program} {f : FuncId} {fn : Func} {T3 T4 T26 T28 T30 : TypeId} {f8 f10 f12 f13 f15 f16 f17 f18 f19 : FuncId} {ct0 : Array TypeId} {ct1 : Array TypeId} {ct2 : Array TypeId} {ct3 : Array TypeId} {ct4 : Array TypeId} {ct5 : Array TypeId} {ct6 : Array TypeId} {ct7 : Array TypeId} {ct8 : Array TypeId} {i0 i1 i2 i3 i4 i5 i6 i7 : Nat} {t0 t1 t2 t3 t4 t5 t6 t7 t8 t9 t10 t11 t12 t13 t14 t15 t16 t17 t18 t19 t20 t21 t22 t23 t24 t25 t26 t27 t28 t29 t30 t31 : TypeId} {p0 p1 p2 p3 p4 p5 p6 p7 p8 p9 p10 p11 p12 p13 p14 p15 p16 p17 p18 p19 p20 p21 p22 p23 p24 p25 p26 p27 p28 p29 p30 p31 : String} {e0 e1 e2 e3 e4 e5 e6 e7 e8 e9 e10 e11 e12 e13 e14 e15 e16 e17 e18 e19 e20 e21 e22 e23 e24 e25 e26 e27 e28 e29 e30 e31 : Array Edge} {mx : Nat} {fx : Int} {fs : List Fd} {enc : Int → Bool → T → List UInt8} {ft : Int → T → T} {g : Int → T → List UInt8 → Prop} {small : T → Prop}
    (hf : P.funcs[f]? = some fn) (hname : (fn.name == "runtime.NumGoroutine") = false) (hres' : fn.results = #[.tmp 4]) (hN : fn.ntmps = 31)
    (hbody : fn.body = some (.seq (Code.region i0 ⟨[⟨some 3, .box T26 (.tmp 1), t0, p0, e0, none⟩,
    ⟨some 4, .assign (.const (.bool false)), t1, p1, e1, none⟩]⟩ false)
  (.seq (.seq (Code.region i1 ⟨[⟨some 8, .load T26 (.tmp 3), t2, p2, e2, none⟩,
    ⟨some 9, .call ⟨.value (.func f8), #[(.tmp 8)], ct0⟩, t3, p3, e3, none⟩,
    ⟨some 10, .unOp .not T4 (.tmp 9), t4, p4, e4, none⟩]⟩ false)
  (.cond (.tmp 10) (.seq (Code.region i2 ⟨[⟨some 4, .assign (.const (.bool true)), t5, p5, e5, none⟩]⟩ false)
  .ret)
  .skip))
  (.seq (Code.region i3 ⟨[⟨some 11, .call ⟨.value (.func f15), #[], ct1⟩, t6, p6, e6, none⟩,
    ⟨some 5, .assign (.tmp 11), t7, p7, e7, none⟩]⟩ false)
  (.seq (.seq (Code.region i4 ⟨[⟨some 12, .move (.tmp 5), t8, p8, e8, none⟩,
    ⟨some 13, .binOp .lss T3 (.tmp 12) (.const (.int .i64 0)) T3, t9, p9, e9, none⟩]⟩ false)
  (.cond (.tmp 13) (.seq (Code.region i5 ⟨[⟨some 4, .assign (.const (.bool false)), t10, p10, e10, none⟩]⟩ false)
  .ret)
  .skip))
  (.seq (Code.region i6 ⟨[⟨some 14, .call ⟨.value (.func f16), #[], ct2⟩, t11, p11, e11, none⟩,
    ⟨some 15, .move (.tmp 0), t12, p12, e12, none⟩,
    ⟨some 16, .move (.tmp 5), t13, p13, e13, none⟩,
    ⟨some 17, .call ⟨.value (.func f17), #[(.tmp 15), (.tmp 16)], ct3⟩, t14, p14, e14, none⟩,
    ⟨some 6, .alloc T30, t15, p15, e15, none⟩,
    ⟨none, .store T30 (.tmp 6) (.tmp 14), t16, p16, e16, none⟩,
    ⟨some 7, .assign (.tmp 17), t17, p17, e17, none⟩]⟩ false)
  (.seq (Code.region i7 ⟨[⟨some 18, .move (.tmp 7), t18, p18, e18, none⟩,
    ⟨some 19, .fieldAddr T30 (.tmp 6) 0, t19, p19, e19, none⟩,
    ⟨some 20, .load T28 (.tmp 19), t20, p20, e20, none⟩,
    ⟨some 21, .move (.tmp 7), t21, p21, e21, none⟩,
    ⟨some 22, .load T26 (.tmp 3), t22, p22, e22, none⟩,
    ⟨some 23, .call ⟨.value (.func f13), #[(.tmp 20), (.tmp 21), (.tmp 22)], ct4⟩, t23, p23, e23, none⟩,
    ⟨some 24, .call ⟨.value (.func f12), #[(.tmp 23)], ct5⟩, t24, p24, e24, none⟩,
    ⟨some 25, .call ⟨.value (.func f18), #[(.tmp 18), (.tmp 24)], ct6⟩, t25, p25, e25, none⟩,
    ⟨some 26, .load T30 (.tmp 6), t26, p26, e26, none⟩,
    ⟨some 27, .move (.tmp 7), t27, p27, e27, none⟩,
    ⟨some 28, .load T26 (.tmp 3), t28, p28, e28, none⟩,
    ⟨some 29, .call ⟨.value (.func f19), #[(.tmp 26), (.tmp 27), (.tmp 28)], ct7⟩, t29, p29, e29, none⟩,
    ⟨some 30, .call ⟨.value (.func f10), #[(.tmp 25), (.tmp 29)], ct8⟩, t30, p30, e30, none⟩,
    ⟨some 4, .assign (.tmp 30), t31, p31, e31, none⟩]⟩ true)
  .ret)))))))
    (hFlT26 : Flat P T26 zT) (hFlT30 : Flat P T30 zM) (hcT28 : scal P T28 = true) (he7 : edgeOk 0 [e18, e19, e20, e21, e22, e23, e24, e25, e26, e27, e28, e29, e30, e31] [[], [], [1], [], [], [2, 3, 4], [5], [0, 6], [], [], [], [8, 9, 10], [7, 11], [0, 1, 2, 3, 4, 5, 6, 7, 8, 9, 10, 11, 12]] = true) (hmx : P.follows .mixedOrders = true) (hFit : FitM P f8) (hMax : MaxM P f15 mx) (hmb : mx < 32768) (hSch : SchM P f16 fs fx) (hVer : VerM P f17) (hFt : FitTM P f13 fs ft) (hGi : Enters P f12 ∧ ∀ t, GotCall P f12 t) (hMk : MakeM P f18 g) (hWr : WriteM P f19 fs enc) (hSame : SameM P f10)
    (hplain : ∀ ver : Int, 0 ≤ ver → ver ≤ mx → ∀ t, small t → (enc ver (decide (fx ≥ 0) && decide (ver ≥ fx)) t).length ≤ 2147483648 ∧ ∀ ys, g ver (ft ver t) ys → ys = enc ver (decide (fx ≥ 0) && decide (ver ≥ fx)) t) : LawK P f small := by
  refine ⟨enters_of hf hname hbody, ?_⟩
  intro w n B ct t hn ht hB hsm
  cases t with
  | mk tn s nl l u =>
  have ht0 := ht
  obtain ⟨sv, lv, uv, rfl, hn0, hs, hl, hu⟩ := repT_iff.1 ht
  have hF0 : Fr [] w w := Fr.refl [] w
  have hv1 : n % (mx + 1) ≤ mx := by have := Nat.mod_lt n (show 0 < mx + 1 by omega); omega
  obtain ⟨hlen, hres⟩ := hplain ((n % (mx + 1) : Nat) : Int) (by omega) (by omega) _ hsm
  refine calls_of_wp hf hbody ?_
  generalize ha0 : ({ tmps := #[Value.int .u8 (n : Int), Value.agg ([.int .i64 tn, sv, .bool nl, lv, uv] : List Value).toArray] ++ Array.replicate (fn.ntmps - (#[Value.int .u8 (n : Int), Value.agg ([.int .i64 tn, sv, .bool nl, lv, uv] : List Value).toArray] : Array Value).size) undef, defers := [] } : Act) = a0
  have hz0 : a0.tmps.size = 31 := by subst ha0; simp [hN]
  have hd0 : a0.defers = [] := by subst ha0; rfl
  have g0_0 : get a0 0 = .int .u8 (n : Int) := by subst ha0; exact gAr rfl
  have g0_1 : get a0 1 = .agg ([.int .i64 tn, sv, .bool nl, lv, uv] : List Value).toArray := by subst ha0; exact gAr rfl
  refine wT fun K1 hK1 => ?_
  refine wC (wp_boxL (cs := [.int .i64 tn, sv, .bool nl, lv, uv]) (eK g0_1) ?_)
  rintro w2 f2 sz2 r2 th2
  have hF3 : Fr [] w w2 := hF0.tr f2
  refine wC (wAs (v := .bool false) rfl ?_)
  refine wEn fun a4 ha4 => ?_
  have hz4 := kS ha4 hz0
  have hd4 := kD ha4 hd0
  have g4_0 := kP ha4 g0_0
  have g4_3 : get a4 3 = .pointer (some ⟨w.heap.size, 0, none⟩) := kG ha4 hz0
  refine hK1 a4 w2 (tUp ?_)
  refine tId (wp_seq_k fun K5 hK5 => ?_)
  refine wS fun K6 hK6 => ?_
  refine wC (wp_loadFlat (cs := [.int .i64 tn, sv, .bool nl, lv, uv]) (b := w.heap.size) (o := 0) hFlT26 rfl (eK g4_3) r2 ?_)
  refine wC (wCr (R := fun vz wz => (∃ b : Bool, vz = .bool b) ∧ Fr [] w2 wz) (vs := #[.agg ([.int .i64 tn, sv, .bool nl, lv, uv] : List Value).toArray]) hFit.enters (mX1 (eS hz4)) ((hFit.call w2 B _ _ (ht0.kept hF3 (by simp) (fun _ h => h))).mono (by rintro e wz ⟨⟨b, rfl⟩, h⟩; exact ⟨_, rfl, ⟨b, rfl⟩, h⟩)) ?_)
  rintro _ w7 ⟨⟨bb, rfl⟩, fr7⟩
  have hF8 : Fr [] w w7 := hF3.tr fr7
  have hL8_w2 : Fr [] w2 w7 := (Fr.refl [] w2).tr fr7
  have rb9 := fr7.range r2 .nil
  refine wC (wp_not (b := bb) (eS hz4) ?_)
  refine wEn fun a10 ha10 => ?_
  have hz10 := kS ha10 hz4
  have hd10 := kD ha10 hd4
  have g10_0 := kP ha10 g4_0
  have g10_3 := kP ha10 g4_3
  have g10_10 : get a10 10 = .bool (!bb) := kG ha10 hz4
  refine hK6 a10 w7 ?_
  refine wp_cond_split (t := !bb) (eK g10_10) (fun hc11 => ?_) (fun hc11 => ?_)
  · refine wp_seq_k fun K12 hK12 => ?_
    refine wp_reg ?_
    refine wC (wAs (v := .bool true) rfl ?_)
    refine wEn fun a13 ha13 => ?_
    have hz13 := kS ha13 hz10
    have hd13 := kD ha13 hd10
    have g13_4 : get a13 4 = .bool true := kG ha13 hz10
    refine hK12 a13 w7 ?_
    refine wp_ret ?_
    exact ⟨hd13, _, rIs hres' g13_4, rfl, hF8⟩
  · refine wp_skip ?_
    refine hK5 a10 w7 (tUp ?_)
    refine wT fun K14 hK14 => ?_
    refine wC (wCr (R := fun vz wz => vz = .int .i64 (mx : Int) ∧ Fr [] w7 wz) (vs := #[]) hMax.1 (by simp) ((hMax.2 w7).mono (by rintro e wz ⟨rfl, h⟩; exact ⟨_, rfl, rfl, h⟩)) ?_)
    rintro _ w15 ⟨rfl, fr15⟩
    have hF16 : Fr [] w w15 := hF8.tr fr15
    have hL16_w2 : Fr [] w2 w15 := hL8_w2.tr fr15
    have rb17 := fr15.range rb9 .nil
    refine wC (wAs (v := .int .i64 (mx : Int)) (eS hz10) ?_)
    refine wEn fun a18 ha18 => ?_
    have hz18 := kS ha18 hz10
    have hd18 := kD ha18 hd10
    have g18_0 := kP ha18 g10_0
    have g18_3 := kP ha18 g10_3
    have g18_5 : get a18 5 = .int .i64 (mx : Int) := kG ha18 hz10
    refine hK14 a18 w15 (tUp ?_)
    refine tId (wp_seq_k fun K19 hK19 => ?_)
    refine wS fun K20 hK20 => ?_
    refine wC (wMv (v := .int .i64 (mx : Int)) (eK g18_5) ?_)
    refine wC (wp_lssF (k1 := .i64) (i := (mx : Int)) (j := 0) (by omega) (eS hz18) rfl ?_)
    refine wEn fun a21 ha21 => ?_
    have hz21 := kS ha21 hz18
    have hd21 := kD ha21 hd18
    have g21_0 := kP ha21 g18_0
    have g21_3 := kP ha21 g18_3
    have g21_5 := kP ha21 g18_5
    have g21_13 : get a21 13 = .bool false := kG ha21 hz18
    refine hK20 a21 w15 ?_
    refine wp_cond_split (t := false) (eK g21_13) (fun h => by cases h) (fun _ => ?_)
    refine wp_skip ?_
    refine hK19 a21 w15 (tUp ?_)
    refine wT fun K23 hK23 => ?_
    refine wC (wCr (R := fun vz wz => ∃ fsv, vz = .agg ([fsv, .int .i64 fx] : List Value).toArray ∧ Fr [] w15 wz ∧ FdsR wz (From w15.heap.size wz) fsv fs) (vs := #[]) hSch.enters (by simp) ((hSch.call w15).mono (by rintro e wz ⟨v, rfl, h⟩; exact ⟨_, rfl, v, rfl, h⟩)) ?_)
    rintro _ w24 ⟨fsv, rfl, fr24, hfs⟩
    have hfs1 := hfs.one
    have hF25 : Fr [] w w24 := hF16.tr fr24
    have hL25_w2 : Fr [] w2 w24 := hL16_w2.tr fr24
    have rb26 := fr24.range rb17 .nil
    refine wC (wMv (v := .int .u8 (n : Int)) (eK g21_0) ?_)
    refine wC (wMv (v := .int .i64 (mx : Int)) (eK g21_5) ?_)
    refine wC (wCr (R := fun vz wz => vz = .int .i64 ((n % (mx + 1) : Nat) : Int) ∧ Fr [] w24 wz) (vs := #[.int .u8 (n : Int), .int .i64 (mx : Int)]) hVer.1 (mX2 (eS hz21) (eS hz21)) ((hVer.2 w24 n mx hn hmb).mono (by rintro e wz ⟨rfl, rfl⟩; exact ⟨_, rfl, rfl, Fr.refl _ _⟩)) ?_)
    rintro _ w27 ⟨rfl, fr27⟩
    have hF28 : Fr [] w w27 := hF25.tr fr27
    have hL28_w2 : Fr [] w2 w27 := hL25_w2.tr fr27
    have hL28_w24 : Fr [] w24 w27 := (Fr.refl [] w24).tr fr27
    have rb29 := fr27.range rb26 .nil
    rw [wCo]
    have hgs30 := hL28_w2.size
    have hgs31 := hL28_w24.size
    have hgs32 := hF28.size
    refine wp_allocL hFlT30 ?_
    rintro w33 f33 sz33 r33 th33
    have hF34 : Fr [] w w33 := hF28.tr f33
    have hL34_w24 : Fr [] w24 w33 := hL28_w24.tr f33
    have rb35 := f33.range rb29 .nil
    refine wC (wp_storeL (cs := [fsv, .int .i64 fx]) (o := 0) hFlT30 rfl (eS hz21) (eS hz21) (by intro u hu; simp at hu; rcases hu with rfl | rfl; exact hfs1; rfl) th33 ?_)
    rintro w36 f36 sz36 r36 th36
    have hF36 : Fr [] w w36 := hF34.trans f36 (fun r hr => .inl (by simp at hr; subst hr; have := hF28.size; simp only; omega))
    have rb37 := f36.range rb35 (.cons (.inl (by simp only; omega)) .nil)
    have hL36_w24 : Fr [] w24 w36 := hL34_w24.trans f36 (fun r hr => .inl (by simp at hr; subst hr; have := hL28_w24.size; simp only; omega))
    refine wC (wAs (v := .int .i64 ((n % (mx + 1) : Nat) : Int)) (by rw [eTm, pNo, nZ (by decide), sZ (zZ (zZ (zZ hz21))) (by decide)]) ?_)
    refine wEn fun a38 ha38 => ?_
    have hz38 := kS ha38 hz21
    have hd38 := kD ha38 hd21
    have g38_3 := kP ha38 g21_3
    have g38_6 : get a38 6 = .pointer (some ⟨w27.heap.size, 0, none⟩) := kG ha38 hz21
    have g38_7 : get a38 7 = .int .i64 ((n % (mx + 1) : Nat) : Int) := kG ha38 hz21
    refine hK23 a38 w36 (tUp ?_)
    refine tId (wp_seq_k fun K39 hK39 => ?_)
    have hfs4 := hfs.kept hL36_w24 (by simp) (fun _ h => h)
    have ht4 := ht0.kept hF36 (by simp) (fun _ h => h)
    refine wp_drawR (os := [⟨some 18, .move (.tmp 7), t18, p18, e18, none⟩, ⟨some 19, .fieldAddr T30 (.tmp 6) 0, t19, p19, e19, none⟩, ⟨some 20, .load T28 (.tmp 19), t20, p20, e20, none⟩, ⟨some 21, .move (.tmp 7), t21, p21, e21, none⟩, ⟨some 22, .load T26 (.tmp 3), t22, p22, e22, none⟩, ⟨some 23, .call ⟨.value (.func f13), #[(.tmp 20), (.tmp 21), (.tmp 22)], ct4⟩, t23, p23, e23, none⟩, ⟨some 24, .call ⟨.value (.func f12), #[(.tmp 23)], ct5⟩, t24, p24, e24, none⟩, ⟨some 25, .call ⟨.value (.func f18), #[(.tmp 18), (.tmp 24)], ct6⟩, t25, p25, e25, none⟩, ⟨some 26, .load T30 (.tmp 6), t26, p26, e26, none⟩, ⟨some 27, .move (.tmp 7), t27, p27, e27, none⟩, ⟨some 28, .load T26 (.tmp 3), t28, p28, e28, none⟩, ⟨some 29, .call ⟨.value (.func f19), #[(.tmp 26), (.tmp 27), (.tmp 28)], ct7⟩, t29, p29, e29, none⟩, ⟨some 30, .call ⟨.value (.func f10), #[(.tmp 25), (.tmp 29)], ct8⟩, t30, p30, e30, none⟩]) (rest := [⟨some 4, .assign (.tmp 30), t31, p31, e31, none⟩]) [spC [] (.int .i64 ((n % (mx + 1) : Nat) : Int)), spC [] (.pointer (some ⟨w27.heap.size, 0, none⟩)), spC [1] (fsv), spC [] (.int .i64 ((n % (mx + 1) : Nat) : Int)), spC [] (.agg ([.int .i64 tn, sv, .bool nl, lv, uv] : List Value).toArray), spR [2, 3, 4] (fun x w' => ∃ gc : List Value, x = .agg gc.toArray ∧ RepT w' (fun b => B b ∨ From w36.heap.size w' b) gc (ft ((n % (mx + 1) : Nat) : Int) (.mk tn s nl l u))), spR [5] (fun x w' => ∃ gc : List Value, x = .agg gc.toArray ∧ RepT w' (fun b => B b ∨ From w36.heap.size w' b) gc (ft ((n % (mx + 1) : Nat) : Int) (.mk tn s nl l u))), spR [0, 6] (fun x w' => ∃ ys, g ((n % (mx + 1) : Nat) : Int) (ft ((n % (mx + 1) : Nat) : Int) (.mk tn s nl l u)) ys ∧ OctE w' (From w36.heap.size w') x ys), spC [] (.agg ([fsv, .int .i64 fx] : List Value).toArray), spC [] (.int .i64 ((n % (mx + 1) : Nat) : Int)), spC [] (.agg ([.int .i64 tn, sv, .bool nl, lv, uv] : List Value).toArray), spR [8, 9, 10] (fun x w' => OctE w' (From w36.heap.size w') x (enc ((n % (mx + 1) : Nat) : Int) (decide (fx ≥ 0) && decide (((n % (mx + 1) : Nat) : Int) ≥ fx)) (.mk tn s nl l u))), spR [7, 11] (fun x w' => x = .bool true)] 18 [] hmx he7 (by simp [shape]) (by simp [plainO]) (by simp [spC, spR]) (by simp; omega) ⟨lCc _ _ _, lCc _ _ _, lCc _ _ _, lCc _ _ _, lCc _ _ _, (fun v w1 w2 f h => by obtain ⟨gc, h1, h2⟩ := h; exact ⟨gc, h1, h2.kept f (by simp) (fun b hb => hb.imp id fun hb => ⟨hb.1, Nat.lt_of_lt_of_le hb.2 f.size⟩)⟩), (fun v w1 w2 f h => by obtain ⟨gc, h1, h2⟩ := h; exact ⟨gc, h1, h2.kept f (by simp) (fun b hb => hb.imp id fun hb => ⟨hb.1, Nat.lt_of_lt_of_le hb.2 f.size⟩)⟩), (fun v w1 w2 f h => by obtain ⟨ys, h1, h2⟩ := h; exact ⟨ys, h1, h2.kept f (by simp) (fun _ hb => ⟨hb.1, Nat.lt_of_lt_of_le hb.2 f.size⟩)⟩), lCc _ _ _, lCc _ _ _, lCc _ _ _, (fun v w1 w2 f h => OctE.kept h f (by simp) (fun _ hb => ⟨hb.1, Nat.lt_of_lt_of_le hb.2 f.size⟩)), (fun v w1 w2 f h => h), trivial⟩ ?_ ?_
    · refine oCs ?_ ?_
      · refine op_c fun a' w' hk' hf' hd' K' hK' => ?_
        refine wMv (v := .int .i64 ((n % (mx + 1) : Nat) : Int)) (by rw [eTm, hk'.get 7 (by omega), g38_7]) ?_
        exact hK'
      refine oCs ?_ ?_
      · refine op_c fun a' w' hk' hf' hd' K' hK' => ?_
        refine wFa (b := w27.heap.size) (i := 0) (hFlT30.fld (by decide)) (by rw [eTm, hk'.get 6 (by omega), g38_6]) ?_
        rw [show (0 + 0 : Nat) = 0 from rfl]
        exact hK'
      refine oCs ?_ ?_
      · refine op_c fun a' w' hk' hf' hd' K' hK' => ?_
        refine wL0 (j := 0) (v := fsv) hcT28 (by rw [eTm]; exact hd'.c (nd' := []) 1 (by simp) rfl) (hf'.range r36 .nil) rfl ?_
        exact hK'
      refine oCs ?_ ?_
      · refine op_c fun a' w' hk' hf' hd' K' hK' => ?_
        refine wMv (v := .int .i64 ((n % (mx + 1) : Nat) : Int)) (by rw [eTm, hk'.get 7 (by omega), g38_7]) ?_
        exact hK'
      refine oCs ?_ ?_
      · refine op_c fun a' w' hk' hf' hd' K' hK' => ?_
        refine wp_loadFlat (cs := [.int .i64 tn, sv, .bool nl, lv, uv]) (b := w.heap.size) (o := 0) hFlT26 rfl (by rw [eTm, hk'.get 3 (by omega), g38_3]) (hf'.range rb37 .nil) ?_
        exact hK'
      refine oCs ?_ ?_
      · refine op_r fun a' w' hk' hf' hd' K' hK' => ?_
        refine wCr (R := fun vz wz => ∃ gc : List Value, vz = .agg gc.toArray ∧ Fr [] w' wz ∧ RepT wz (fun b => B b ∨ From w'.heap.size wz b) gc (ft ((n % (mx + 1) : Nat) : Int) (.mk tn s nl l u))) (vs := #[fsv, .int .i64 ((n % (mx + 1) : Nat) : Int), .agg ([.int .i64 tn, sv, .bool nl, lv, uv] : List Value).toArray]) hFt.enters (by simp only [List.map_toArray, List.map_cons, List.map_nil]; rw [show a'.eval (.tmp 20) = fsv from (by rw [eTm]; exact hd'.c (nd' := [1]) 2 (by simp) rfl), show a'.eval (.tmp 21) = Value.int .i64 ((n % (mx + 1) : Nat) : Int) from (by rw [eTm]; exact hd'.c (nd' := []) 3 (by simp) rfl), show a'.eval (.tmp 22) = Value.agg ([.int .i64 tn, sv, .bool nl, lv, uv] : List Value).toArray from (by rw [eTm]; exact hd'.c (nd' := []) 4 (by simp) rfl)]) ((hFt.call w' _ B ((n % (mx + 1) : Nat) : Int) fsv _ _ (hfs4.kept hf' (by simp) (fun _ h => h)) (ht4.kept hf' (by simp) (fun _ h => h)) (fun b hb => Nat.lt_of_lt_of_le hb.2 (Nat.le_trans hL36_w24.size hf'.size)) (fun b hb => Nat.lt_of_lt_of_le (hB b hb) (Nat.le_trans hF36.size hf'.size))).mono (by rintro e wz ⟨cs, rfl, h1, h2⟩; exact ⟨_, rfl, cs, rfl, h1, h2⟩)) ?_
        rintro _ w40 ⟨gc, rfl, fr40, hg40⟩
        exact hK' _ w40 ⟨gc, rfl, hg40.kept (Fr.refl [] _) (by simp) (fun b hb => hb.imp id fun hb => (⟨Nat.le_trans hf'.size hb.1, hb.2⟩ : From w36.heap.size w40 b))⟩ fr40
      refine oCs ?_ ?_
      · refine op_r fun a' w' hk' hf' hd' K' hK' => ?_
        obtain ⟨gc, hgc, hgt⟩ : ∃ gc : List Value, get a' 23 = .agg gc.toArray ∧ RepT w' (fun b => B b ∨ From w36.heap.size w' b) gc (ft ((n % (mx + 1) : Nat) : Int) (.mk tn s nl l u)) := hd'.at (d := 5) (by simp) rfl
        refine wCr (R := fun vz wz => ∃ gc : List Value, vz = .agg gc.toArray ∧ Fr [] w' wz ∧ RepT wz (fun b => (B b ∨ From w36.heap.size w' b) ∨ From w'.heap.size wz b) gc (ft ((n % (mx + 1) : Nat) : Int) (.mk tn s nl l u))) (vs := #[.agg gc.toArray]) hGi.1 (by simp only [List.map_toArray, List.map_cons, List.map_nil]; rw [show a'.eval (.tmp 23) = Value.agg gc.toArray from (by rw [eTm]; exact hgc)]) ((hGi.2 _ w' _ gc hgt (fun b hb => by rcases hb with hb | hb; exact Nat.lt_of_lt_of_le (hB b hb) (Nat.le_trans hF36.size hf'.size); exact hb.2)).mono (by rintro e wz ⟨cs, rfl, h1, h2⟩; exact ⟨_, rfl, cs, rfl, h1, h2⟩)) ?_
        rintro _ w41 ⟨gc', rfl, fr41, hg41⟩
        exact hK' _ w41 ⟨gc', rfl, hg41.kept (Fr.refl [] _) (by simp) (fun b hb => by rcases hb with (hb | hb) | hb; exact .inl hb; exact .inr ⟨hb.1, Nat.lt_of_lt_of_le hb.2 fr41.size⟩; exact .inr ⟨Nat.le_trans hf'.size hb.1, hb.2⟩)⟩ fr41
      refine oCs ?_ ?_
      · refine op_r fun a' w' hk' hf' hd' K' hK' => ?_
        obtain ⟨gc, hgc, hgt⟩ : ∃ gc : List Value, get a' 24 = .agg gc.toArray ∧ RepT w' (fun b => B b ∨ From w36.heap.size w' b) gc (ft ((n % (mx + 1) : Nat) : Int) (.mk tn s nl l u)) := hd'.at (d := 6) (by simp) rfl
        refine wCr (R := fun vz wz => Fr [] w' wz ∧ ∃ ys, g ((n % (mx + 1) : Nat) : Int) (ft ((n % (mx + 1) : Nat) : Int) (.mk tn s nl l u)) ys ∧ OctE wz (From w'.heap.size wz) vz ys) (vs := #[.int .i64 ((n % (mx + 1) : Nat) : Int), .agg gc.toArray]) hMk.enters (by simp only [List.map_toArray, List.map_cons, List.map_nil]; rw [show a'.eval (.tmp 18) = Value.int .i64 ((n % (mx + 1) : Nat) : Int) from (by rw [eTm]; exact hd'.c (nd' := []) 0 (by simp) rfl), show a'.eval (.tmp 24) = Value.agg gc.toArray from (by rw [eTm]; exact hgc)]) ((hMk.call w' _ ((n % (mx + 1) : Nat) : Int) gc _ (by omega) (by omega) hgt (fun b hb => by rcases hb with hb | hb; exact Nat.lt_of_lt_of_le (hB b hb) (Nat.le_trans hF36.size hf'.size); exact hb.2) (fun ys hy => by rw [hres ys hy]; omega)).mono (by rintro e wz ⟨v, ys, rfl, h1, h2, h3⟩; exact ⟨_, rfl, h2, ys, h1, h3⟩)) ?_
        rintro x42 w42 ⟨fr42, ys, hy42, ho42⟩
        exact hK' x42 w42 ⟨ys, hy42, ho42.kept (Fr.refl [] _) (by simp) (fun b hb => (⟨Nat.le_trans hf'.size hb.1, hb.2⟩ : From w36.heap.size w42 b))⟩ fr42
      refine oCs ?_ ?_
      · refine op_c fun a' w' hk' hf' hd' K' hK' => ?_
        refine wp_loadFlat (cs := [fsv, .int .i64 fx]) (b := w27.heap.size) (o := 0) hFlT30 rfl (by rw [eTm, hk'.get 6 (by omega), g38_6]) (hf'.range r36 .nil) ?_
        exact hK'
      refine oCs ?_ ?_
      · refine op_c fun a' w' hk' hf' hd' K' hK' => ?_
        refine wMv (v := .int .i64 ((n % (mx + 1) : Nat) : Int)) (by rw [eTm, hk'.get 7 (by omega), g38_7]) ?_
        exact hK'
      refine oCs ?_ ?_
      · refine op_c fun a' w' hk' hf' hd' K' hK' => ?_
        refine wp_loadFlat (cs := [.int .i64 tn, sv, .bool nl, lv, uv]) (b := w.heap.size) (o := 0) hFlT26 rfl (by rw [eTm, hk'.get 3 (by omega), g38_3]) (hf'.range rb37 .nil) ?_
        exact hK'
      refine oCs ?_ ?_
      · refine op_r fun a' w' hk' hf' hd' K' hK' => ?_
        refine wCr (R := fun vz wz => Fr [] w' wz ∧ OctE wz (From w'.heap.size wz) vz (enc ((n % (mx + 1) : Nat) : Int) (decide (fx ≥ 0) && decide (((n % (mx + 1) : Nat) : Int) ≥ fx)) (.mk tn s nl l u))) (vs := #[.agg ([fsv, .int .i64 fx] : List Value).toArray, .int .i64 ((n % (mx + 1) : Nat) : Int), .agg ([.int .i64 tn, sv, .bool nl, lv, uv] : List Value).toArray]) hWr.enters (by simp only [List.map_toArray, List.map_cons, List.map_nil]; rw [show a'.eval (.tmp 26) = Value.agg ([fsv, .int .i64 fx] : List Value).toArray from (by rw [eTm]; exact hd'.c (nd' := []) 8 (by simp) rfl), show a'.eval (.tmp 27) = Value.int .i64 ((n % (mx + 1) : Nat) : Int) from (by rw [eTm]; exact hd'.c (nd' := []) 9 (by simp) rfl), show a'.eval (.tmp 28) = Value.agg ([.int .i64 tn, sv, .bool nl, lv, uv] : List Value).toArray from (by rw [eTm]; exact hd'.c (nd' := []) 10 (by simp) rfl)]) ((calls_fresh (hWr.call w' _ B ((n % (mx + 1) : Nat) : Int) fx fsv _ _ (hfs4.kept hf' (by simp) (fun _ h => h)) (ht4.kept hf' (by simp) (fun _ h => h)) (fun b hb => Nat.lt_of_lt_of_le hb.2 (Nat.le_trans hL36_w24.size hf'.size)) (fun b hb => Nat.lt_of_lt_of_le (hB b hb) (Nat.le_trans hF36.size hf'.size)) (by omega))).mono (by rintro e wz ⟨v, rfl, h1, h2⟩; exact ⟨_, rfl, h1, h2.octE (by omega)⟩)) ?_
        rintro x43 w43 ⟨fr43, ho43⟩
        exact hK' x43 w43 (ho43.kept (Fr.refl [] _) (by simp) (fun b hb => (⟨Nat.le_trans hf'.size hb.1, hb.2⟩ : From w36.heap.size w43 b))) fr43
      refine oCs ?_ ?_
      · refine op_r fun a' w' hk' hf' hd' K' hK' => ?_
        obtain ⟨iv, hiv, ys, hy, hio⟩ : ∃ iv, get a' 25 = iv ∧ ∃ ys, g ((n % (mx + 1) : Nat) : Int) (ft ((n % (mx + 1) : Nat) : Int) (.mk tn s nl l u)) ys ∧ OctE w' (From w36.heap.size w') iv ys := ⟨_, rfl, hd'.at (d := 7) (by simp) rfl⟩
        obtain ⟨fv, hfv, hfo⟩ : ∃ fv, get a' 29 = fv ∧ OctE w' (From w36.heap.size w') fv (enc ((n % (mx + 1) : Nat) : Int) (decide (fx ≥ 0) && decide (((n % (mx + 1) : Nat) : Int) ≥ fx)) (.mk tn s nl l u)) := ⟨_, rfl, hd'.at (d := 11) (by simp) rfl⟩
        rw [hres ys hy] at hio
        refine wCr (R := fun vz wz => vz = .bool true ∧ Fr [] w' wz) (vs := #[iv, fv]) hSame.enters (by simp only [List.map_toArray, List.map_cons, List.map_nil]; rw [show a'.eval (.tmp 25) = iv from (by rw [eTm]; exact hiv), show a'.eval (.tmp 29) = fv from (by rw [eTm]; exact hfv)]) ((hSame.call w' _ _ _ _ _ hio hfo).mono (by rintro e wz ⟨rfl, h⟩; exact ⟨_, rfl, rfl, h⟩)) ?_
        rintro _ w44 ⟨rfl, fr44⟩
        exact hK' _ w44 rfl fr44
      exact opsOk_nil
    intro a45 w45 k45 f45 hd_45
    have hz45 : a45.tmps.size = 31 := k45.size.trans hz38
    have hd45 : a45.defers = [] := k45.defers.trans hd38
    have hF46 : Fr [] w w45 := hF36.tr f45
    have rb47 := f45.range rb37 .nil
    have rb48 := f45.range r36 .nil
    have g45_30 : get a45 30 = .bool true := hd_45.at (d := 12) (by simp) rfl
    refine wC (wAs (v := .bool true) (eK g45_30) ?_)
    refine wEn fun a49 ha49 => ?_
    have hz49 := kS ha49 hz45
    have hd49 := kD ha49 hd45
    have g49_4 : get a49 4 = .bool true := kG ha49 hz45
    refine hK39 a49 w45 (tUp ?_)
    refine wp_ret ?_
    exact ⟨hd49, _, rIs hres' g49_4, rfl, hF46⟩
end Go.Kq

namespace Go.Kq
open Go Go.Proofs
inductive TgR : List (Nat × List UInt8) → V → Prop where
  | nil : TgR [] .nil
  | step {us : List (Nat × List UInt8)} {x : V} {k : Nat} {s : List UInt8} {y : Option (List UInt8)} (h : TgR us x) (hy : y.getD [] = s) : TgR (us ++ [(k, s)]) (.t (kvSet (tagKv x) k (.oct y)))
theorem octE_v {w : World} {A : Nat → Prop} {v : Value} {s : List UInt8} (h : OctE w A v s) : ∃ y, OctsV w A v y ∧ y.getD [] = s := by
  rcases h with ⟨y, h1, h2⟩ | ⟨h1, rfl⟩
  · exact ⟨y, .inl h1, h2⟩
  · exact ⟨some [], .inr ⟨h1, rfl⟩, rfl⟩
def T.us : T → List (Nat × List UInt8) | .mk _ _ _ _ u => u
theorem repT_u {w : World} {A : Nat → Prop} {cs : List Value} {t : T} (h : RepT w A cs t) : ∃ uv, cs[4]? = some uv ∧ TagsR w A uv t.us := by
  cases t with
  | mk n s nl l u => obtain ⟨_, _, uv, rfl, _, _, _, h⟩ := repT_iff.1 h; exact ⟨uv, rfl, h⟩
theorem TagsR.slice3 {w : World} {A : Nat → Prop} {v : Value} {u : List (Nat × List UInt8)} (h : TagsR w A v u) : ∃ q cap, v = .slice q u.length cap ∧ u.length ≤ 4294967296 := by
  rcases h with ⟨rfl | ⟨a, rfl⟩, rfl⟩ | ⟨b, o, cap, _, rfl, h, _⟩
  · exact ⟨_, _, rfl, by simp⟩
  · exact ⟨_, _, rfl, by simp⟩
  · exact ⟨_, _, rfl, h.2⟩
theorem range_put {w w' : World} {b o r : Nat} {z : List Value} {v : Value} (hr : w.rangeAt b 0 z) (f : Fr [⟨b, o, o + 1⟩, ⟨r, 0, 0⟩] w w') (hc : w'.cell? ⟨b, o, none⟩ = some v) (ho : o < z.length) : w'.rangeAt b 0 (z.set o v) := by
  intro j u hj
  by_cases hij : o = j
  · subst hij
    rw [List.getElem?_set_self ho] at hj
    simp at hj; subst hj
    simpa using hc
  · rw [List.getElem?_set_ne hij] at hj
    exact f.cell (hr j u hj) (.cons (.inr (by simp only; omega)) (.cons (.inr (by simp)) .nil))
def FRunP (P : Program) (N sv sb : Nat) (c : Code) (tys : List Ty) (pre : List V → Prop) (R : T → List V → List V → Prop) : Prop :=
  ∀ (pb tb : Nat) (ct : List Value) (t : T) (K : Act → World → Prop) (Q : Exit → Act → World → Prop) (a : Act) (w : World) (xs : List V), pre xs → FSt N sv sb pb tb ct t tys a w xs →
    (∀ a' w' xs', R t xs xs' → FSt N sv sb pb tb ct t tys a' w' xs' → Fr [⟨pb, 0, Ty.sizes tys⟩] w w' → K a' w') → c.wp P (Exit.then K Q) a w
theorem FRun.seqP {P : Program} {N sv sb : Nat} {c c' : Code} {tys : List Ty} {pre : List V → Prop} {R R' : T → List V → List V → Prop} (h : FRun P N sv sb c tys R) (h' : FRunP P N sv sb c' tys pre R') (hp : ∀ t xs ys, pre xs → R t xs ys → pre ys) : FRunP P N sv sb (.seq c c') tys pre (fun t xs ys => ∃ zs, R t xs zs ∧ R' t zs ys) := by
  intro pb tb ct t K Q a w xs hx hs hK
  refine wp_seq_k fun K1 hK1 => ?_
  refine h pb tb ct t K1 _ a w xs hs fun a1 w1 zs r1 s1 f1 => hK1 a1 w1 ?_
  exact h' pb tb ct t K Q a1 w1 _ (hp _ _ _ hx r1) s1 fun a2 w2 ys r2 s2 f2 => hK a2 w2 ys ⟨zs, r1, r2⟩ s2 (f1.tr f2)
theorem set_self {α : Type} {l : List α} {i : Nat} {x : α} (h : l[i]? = some x) : l.set i x = l := by
  apply List.ext_getElem?
  intro j
  by_cases hij : i = j
  · subst hij; rw [List.getElem?_set_self (List.getElem?_eq_some_iff.1 h).1, h]
  · rw [List.getElem?_set_ne hij]
theorem reps_tag {w : World} {A : Nat → Prop} : ∀ {tys : List Ty} {z : List Value} {xs : List V} {j : Nat}, Reps w A tys z xs → tys[j]? = some .tags → xs[j]? = some .nil → z[Ty.sizes (tys.take j)]? = some (.map none)
  | [], z, xs, j, _, hj, _ => by simp at hj
  | t :: ts, z, xs, j, h, hj, hx => by
    obtain ⟨c1, c2, y, r, rfl, rfl, h2, h3⟩ := h
    have hl := h2.length
    cases j with
    | zero =>
      simp at hj hx; subst hj; subst hx
      rcases h2 with ⟨rfl, _⟩ | ⟨_, _, _, _, _, _, _, _, hn, _⟩
      · simp [Ty.sizes]
      · simp at hn
    | succ j =>
      have := reps_tag h3 (by simpa using hj) (by simpa using hx)
      rw [List.take_succ_cons, show Ty.sizes (t :: ts.take j) = t.size + Ty.sizes (ts.take j) from rfl, ← hl, List.getElem?_append_right (by omega)]
      simpa using this
theorem fr_tags {P : Program} {N sv sb n m1 n1 tv n2 q b0 b1 i0 i1 i2 i3 i4 jt o k bs : Nat} {TT TG TE TU TB TI TI2 TI3 TI4 S : TypeId} {fset : FuncId} {ats : Array TypeId} {tys : List Ty}
    {t0 t1 t2 t3 t4 t5 t6 t7 t8 t9 t10 t11 t12 t13 t14 t15 t16 t17 t18 : TypeId} {p0 p1 p2 p3 p4 p5 p6 p7 p8 p9 p10 p11 p12 p13 p14 p15 p16 p17 p18 : String} {e0 e1 e2 e3 e4 e5 e6 e7 e8 e9 e10 e11 e12 e13 e14 e15 e16 e17 e18 : Array Edge}
    (hset : SetTagM P fset) (hT : Flat P TT zT) (hcG : scal P TG = true) (hsG : slTy P TG = true) (hTG : sliceOf P TG TE 2 bs = true) (hE : Flat P TE zTag) (hcU : scal P TU = true) (hcB : scal P TB = true) (hF : fieldOf P S k o = true)
    (ho : o = Ty.sizes (tys.take jt)) (hj : tys[jt]? = some .tags) (hmx : P.follows .mixedOrders = true) (he : edgeOk 0 [e9, e10, e11, e12, e13, e14, e15, e16] [[], [0], [1], [], [3], [], [5], [0, 1, 2, 3, 4, 5, 6]] = true)
    (hb : (decide (sv < n) && decide (sb < n) && decide (tv < n) && decide (n + 3 < m1) && decide (m1 < n1) && decide (n1 + 1 < n2) && decide (n2 + 7 < q) && decide (q < N) && decide (sv ≠ tv) && decide (sb ≠ tv)) = true) :
    FRunP P N sv sb (.seq (Code.region i0 ⟨[⟨some n, .fieldAddr TT (.tmp sb) 4, t0, p0, e0, none⟩, ⟨some (n + 1), .load TG (.tmp n), t1, p1, e1, none⟩, ⟨some (n + 2), .call ⟨.builtin .len, #[.tmp (n + 1)], #[TG]⟩, t2, p2, e2, none⟩, ⟨some (n + 3), .move (.const (.int .i64 0)), t3, p3, e3, none⟩]⟩ false)
      (.block b0 (.loop (.seq (Code.region i1 ⟨[⟨some m1, .binOp .lss TI (.tmp (n + 3)) (.tmp (n + 2)) TI2, t4, p4, e4, none⟩]⟩ false) (.seq (.cond (.tmp m1) .skip (.exit b0)) (.seq (.block b1
        (.seq (Code.region i2 ⟨[⟨some n1, .indexAddr TG (.tmp (n + 1)) (.tmp (n + 3)), t5, p5, e5, none⟩, ⟨some (n1 + 1), .load TE (.tmp n1), t6, p6, e6, none⟩, ⟨some tv, .alloc TE, t7, p7, e7, none⟩, ⟨none, .store TE (.tmp tv) (.tmp (n1 + 1)), t8, p8, e8, none⟩]⟩ false)
        (Code.region i3 ⟨[⟨some n2, .move (.tmp sv), t9, p9, e9, none⟩, ⟨some (n2 + 1), .nilCheck (.tmp n2), t10, p10, e10, none⟩, ⟨some (n2 + 2), .fieldAddr S (.tmp (n2 + 1)) k, t11, p11, e11, none⟩, ⟨some (n2 + 3), .fieldAddr TE (.tmp tv) 0, t12, p12, e12, none⟩, ⟨some (n2 + 4), .load TU (.tmp (n2 + 3)), t13, p13, e13, none⟩,
          ⟨some (n2 + 5), .fieldAddr TE (.tmp tv) 1, t14, p14, e14, none⟩, ⟨some (n2 + 6), .load TB (.tmp (n2 + 5)), t15, p15, e15, none⟩, ⟨some (n2 + 7), .call ⟨.value (.func fset), #[.tmp (n2 + 2), .tmp (n2 + 4), .tmp (n2 + 6)], ats⟩, t16, p16, e16, none⟩]⟩ true)))
        (Code.region i4 ⟨[⟨some q, .binOp .add TI3 (.tmp (n + 3)) (.const (.int .i64 1)) TI4, t17, p17, e17, none⟩, ⟨some (n + 3), .move (.tmp q), t18, p18, e18, none⟩]⟩ false))))))) tys (fun xs => xs[jt]? = some .nil) (fun t xs ys => ∃ x, TgR t.us x ∧ ys = xs.set jt x) := by
  intro pb tb ct t K Q a w xs hpre st hK
  simp only [Bool.and_eq_true, decide_eq_true_eq] at hb
  obtain ⟨⟨⟨⟨⟨⟨⟨⟨⟨c1, c2⟩, c3⟩, c4⟩, c5⟩, c6⟩, c7⟩, c8⟩, c9⟩, c10⟩ := hb
  have hN := st.sz
  obtain ⟨z, hz, hth, hrep⟩ := st.cs
  have hlt := hrep.setLt hj rfl
  have hzl : z.length = Ty.sizes tys := hrep.length
  have hpw : pb < w.heap.size := there_lt hth (by omega)
  have hptb := st.pt
  subst ho
  obtain ⟨uv, huv, htg⟩ := repT_u st.rt
  obtain ⟨uq, ucap, rfl, hul⟩ := htg.slice3
  -- the tags' cell holds no map
  have hcell0 : w.cell? ⟨pb, Ty.sizes (tys.take jt), none⟩ = some (.map none) := by
    have := reps_tag hrep hj hpre
    have := hz _ _ this
    simpa using this
  refine wS fun K1 hK1 => ?_
  refine wC (wFa (b := tb) (i := 0) (hT.field (by decide)) (by rw [eTm, st.gb]) ?_)
  refine wC (wp_load hcG (b := tb) (o := 0 + 4) (by rw [eTm, gQ]) (st.tr 4 _ huv) ?_)
  refine wC (wp_lenS hsG (q := uq) (n := t.us.length) (cap := ucap) (by rw [eTm, gQ]) ?_)
  refine wC (wMv (v := .int .i64 0) (eCo _ _) ?_)
  rw [wNi]
  have kk1 : Kept n a (((((a.put (some n) (.pointer (some ⟨tb, 0 + 4, none⟩))).put (some (n + 1)) (.slice uq t.us.length ucap)).put (some (n + 2)) (.int .i64 t.us.length)).put (some (n + 3)) (.int .i64 0))) := (((Kept.put0 (Nat.le_refl _) _).put (by omega) _).put (by omega) _).put (by omega) _
  have gu1 : get (((((a.put (some n) (.pointer (some ⟨tb, 0 + 4, none⟩))).put (some (n + 1)) (.slice uq t.us.length ucap)).put (some (n + 2)) (.int .i64 t.us.length)).put (some (n + 3)) (.int .i64 0))) (n + 1) = .slice uq t.us.length ucap := by
    rw [gR, gR, gQ]
  have gl1 : get (((((a.put (some n) (.pointer (some ⟨tb, 0 + 4, none⟩))).put (some (n + 1)) (.slice uq t.us.length ucap)).put (some (n + 2)) (.int .i64 t.us.length)).put (some (n + 3)) (.int .i64 0))) (n + 2) = .int .i64 t.us.length := by
    rw [gR, gQ]
  have gi1 : get (((((a.put (some n) (.pointer (some ⟨tb, 0 + 4, none⟩))).put (some (n + 1)) (.slice uq t.us.length ucap)).put (some (n + 2)) (.int .i64 t.us.length)).put (some (n + 3)) (.int .i64 0))) (n + 3) = .int .i64 0 := gQ
  generalize (((((a.put (some n) (.pointer (some ⟨tb, 0 + 4, none⟩))).put (some (n + 1)) (.slice uq t.us.length ucap)).put (some (n + 2)) (.int .i64 t.us.length)).put (some (n + 3)) (.int .i64 0))) = a1 at kk1 gu1 gl1 gi1 ⊢
  refine hK1 a1 w ?_
  refine wp_block (wp_loop_ghost (fun r a' w' => ∃ (j : Nat) (x : V) (v : Value), j + r = t.us.length ∧ a'.tmps.size = N ∧ a'.defers = [] ∧ get a' sv = .pointer (some ⟨pb, 0, none⟩) ∧ get a' sb = .pointer (some ⟨tb, 0, none⟩) ∧
      get a' (n + 1) = .slice uq t.us.length ucap ∧ get a' (n + 2) = .int .i64 t.us.length ∧ get a' (n + 3) = .int .i64 j ∧ TgR (t.us.take j) x ∧ TagV w' (fun b => b < pb) w.heap.size v x ∧ w'.rangeAt pb 0 (z.set (Ty.sizes (tys.take jt)) v) ∧ Fr [⟨pb, 0, Ty.sizes tys⟩] w w') t.us.length ?_ ?_)
  · refine ⟨0, .nil, .map none, by omega, kk1.size.trans hN, kk1.defers.trans st.df, (kk1.get sv c1).trans st.gv, (kk1.get sb c2).trans st.gb, gu1, gl1, gi1, .nil, .inl ⟨rfl, rfl⟩, ?_, Fr.refl _ _⟩
    rw [set_self (reps_tag hrep hj hpre)]; exact hz
  · rintro r a2 w2 ⟨j, x, v, hjr, hN2, hd2, gv2, gb2, gu2, gl2, gi2, htgr, htv, hrg, f02⟩
    have sz02 := f02.size
    refine wS fun K2 hK2 => ?_
    refine wC (wp_lss (k1 := .i64) (i := j) (j := t.us.length) (by rw [eTm, gi2]) (by rw [eTm, gl2]) ?_)
    rw [wNi]
    have kk3 : Kept m1 a2 (a2.put (some m1) (.bool (decide ((j : Int) < t.us.length)))) := Kept.put0 (Nat.le_refl _) _
    have gm3 : get (a2.put (some m1) (.bool (decide ((j : Int) < t.us.length)))) m1 = .bool (decide ((j : Int) < t.us.length)) := gQ
    generalize a2.put (some m1) (.bool (decide ((j : Int) < t.us.length))) = a3 at kk3 gm3 ⊢
    have hN3 : a3.tmps.size = N := kk3.size.trans hN2
    refine hK2 a3 w2 ?_
    refine wp_seq_k fun K3 hK3 => ?_
    refine wp_cond_split (t := decide ((j : Int) < t.us.length)) (by rw [eTm, gm3]) ?_ ?_
    · intro hlt0
      have hjl : j < t.us.length := by simpa using hlt0
      refine wp_skip (hK3 a3 w2 ?_)
      refine wp_seq_k fun K4 hK4 => ?_
      refine wp_blockT ?_
      have hrt2 : RepT w2 (fun b => b < pb) ct t := st.rt.kept f02 (by intro r hr hA; simp at hr; subst hr; simp only at hA; omega) (fun _ h => h)
      obtain ⟨uv2, huv2, htg2⟩ := repT_u hrt2
      rw [huv] at huv2
      simp only [Option.some.injEq] at huv2
      subst huv2
      have hne : t.us ≠ [] := fun h0 => by rw [h0] at hjl; simp at hjl
      obtain ⟨⟨kk, ss⟩, hks⟩ : ∃ p, t.us[j]? = some p := ⟨_, List.getElem?_eq_getElem hjl⟩
      rcases htg2 with ⟨_, h0⟩ | ⟨b, bo, cap, hbA, hbv, _, hel⟩
      · exact absurd h0 hne
      · simp only [Value.slice.injEq] at hbv
        obtain ⟨rfl, _, rfl⟩ := hbv
        obtain ⟨xv, hk32, hxr, hxo⟩ := hel j kk ss hks
        obtain ⟨y, hyv, hys⟩ := octE_v hxo
        refine wS fun K5 hK5 => ?_
        refine wC (wp_ixN hTG (i := j) (by rw [eTm, kk3.get _ (by omega), gu2]) (by rw [eTm, kk3.get _ (by omega), gi2]) hjl ?_)
        refine wC (wp_loadFlat hE (b := b) (o := bo + j * 2) (cs := [.int .u32 kk, xv]) rfl (by rw [eTm, gQ]) hxr ?_)
        refine wC (wp_alloc hE.zero ?_)
        have fa := Fr.alloc [] w2 (.cells (Value.agg zTag.toArray).cells TE)
        have tha : (w2.alloc (.cells (Value.agg zTag.toArray).cells TE)).there w2.heap.size 0 2 := there_new w2 zTag.toArray TE
        have sza := size_alloc w2 (.cells (Value.agg zTag.toArray).cells TE)
        generalize w2.alloc (.cells (Value.agg zTag.toArray).cells TE) = w3 at fa tha sza ⊢
        refine wC (wp_storeFlat hE (cs := [.int .u32 kk, xv]) (b := w2.heap.size) (o := 0) rfl (by rw [eTm, gQ]) (by rw [eTm, gR, gQ]) (by intro u hu; simp at hu; rcases hu with rfl | rfl; rfl; exact hxo.one) tha ?_)
        rw [pNo, wNi]
        have fs := Fr.sets w2.heap.size [.int .u32 kk, xv] w3 0
        have rbx := World.rangeAt_setCells_same w3 w2.heap.size 0 [.int .u32 kk, xv] tha
        generalize w3.setCells w2.heap.size 0 [.int .u32 kk, xv] = w4 at fs rbx ⊢
        have f24 : Fr [] w2 w4 := fa.trans fs (by intro r hr; simp at hr; subst hr; exact .inl (Nat.le_refl _))
        have sz4 := f24.size
        have szs := fs.size
        have kq4 : ∀ s, s < m1 → s ≠ tv → get ((((a3.put (some n1) (.pointer (some ⟨b, bo + j * 2, none⟩))).put (some (n1 + 1)) (.agg ([.int .u32 kk, xv] : List Value).toArray)).put (some tv) (.pointer (some ⟨w2.heap.size, 0, none⟩)))) s = get a2 s := by
          intro s h1 h2
          rw [gPn h2.symm, gR, gR, kk3.get s h1]
        have gt4 : get ((((a3.put (some n1) (.pointer (some ⟨b, bo + j * 2, none⟩))).put (some (n1 + 1)) (.agg ([.int .u32 kk, xv] : List Value).toArray)).put (some tv) (.pointer (some ⟨w2.heap.size, 0, none⟩)))) tv = .pointer (some ⟨w2.heap.size, 0, none⟩) := gQ
        have hN4 : ((((a3.put (some n1) (.pointer (some ⟨b, bo + j * 2, none⟩))).put (some (n1 + 1)) (.agg ([.int .u32 kk, xv] : List Value).toArray)).put (some tv) (.pointer (some ⟨w2.heap.size, 0, none⟩)))).tmps.size = N := by simp only [sPu]; exact hN3
        have hd4 : ((((a3.put (some n1) (.pointer (some ⟨b, bo + j * 2, none⟩))).put (some (n1 + 1)) (.agg ([.int .u32 kk, xv] : List Value).toArray)).put (some tv) (.pointer (some ⟨w2.heap.size, 0, none⟩)))).defers = [] := by simp only [dPu]; exact kk3.defers.trans hd2
        generalize ((((a3.put (some n1) (.pointer (some ⟨b, bo + j * 2, none⟩))).put (some (n1 + 1)) (.agg ([.int .u32 kk, xv] : List Value).toArray)).put (some tv) (.pointer (some ⟨w2.heap.size, 0, none⟩)))) = a4 at kq4 gt4 hN4 hd4 ⊢
        refine hK5 a4 w4 ?_
        have gv4 : get a4 sv = .pointer (some ⟨pb, 0, none⟩) := by rw [kq4 sv (by omega) c9, gv2]
        have f04 : Fr [⟨pb, 0, Ty.sizes tys⟩] w w4 := f02.tr f24.nil
        have hrg4 := f24.range hrg .nil
        have hcv4 : w4.cell? ⟨pb, Ty.sizes (tys.take jt), none⟩ = some v := by have := hrg4 (Ty.sizes (tys.take jt)) v (by rw [List.getElem?_set_self hlt]); simpa using this
        have htv4 : TagV w4 (fun b => b < pb) w.heap.size v x := by
          rcases htv with h | ⟨rr, kv, h1, h2, h3, h4⟩
          · exact .inl h
          · exact .inr ⟨rr, kv, h1, h2, h3.kept f24 (by simp) (by simp) (fun _ h => h), h4⟩
        have hth4 : w4.there pb (Ty.sizes (tys.take jt)) 1 := there_part (f04.there hth) (by omega) (by omega)
        have hyv4 := hyv.kept f24 (by simp) (fun _ h => h)
        refine wp_drawR (os := [⟨some n2, .move (.tmp sv), t9, p9, e9, none⟩, ⟨some (n2 + 1), .nilCheck (.tmp n2), t10, p10, e10, none⟩, ⟨some (n2 + 2), .fieldAddr S (.tmp (n2 + 1)) k, t11, p11, e11, none⟩, ⟨some (n2 + 3), .fieldAddr TE (.tmp tv) 0, t12, p12, e12, none⟩, ⟨some (n2 + 4), .load TU (.tmp (n2 + 3)), t13, p13, e13, none⟩,
          ⟨some (n2 + 5), .fieldAddr TE (.tmp tv) 1, t14, p14, e14, none⟩, ⟨some (n2 + 6), .load TB (.tmp (n2 + 5)), t15, p15, e15, none⟩]) (rest := [⟨some (n2 + 7), .call ⟨.value (.func fset), #[.tmp (n2 + 2), .tmp (n2 + 4), .tmp (n2 + 6)], ats⟩, t16, p16, e16, none⟩])
          [spC [] (.pointer (some ⟨pb, 0, none⟩)), spC [0] (.pointer (some ⟨pb, 0, none⟩)), spC [1] (.pointer (some ⟨pb, 0 + Ty.sizes (tys.take jt), none⟩)), spC [] (.pointer (some ⟨w2.heap.size, 0 + 0, none⟩)), spC [3] (.int .u32 kk), spC [] (.pointer (some ⟨w2.heap.size, 0 + 1, none⟩)), spC [5] xv] n2 [] hmx he (by simp [shape]) (by simp [plainO]) (by simp [spC]) (by simp; omega)
          ⟨lCc _ _ _, lCc _ _ _, lCc _ _ _, lCc _ _ _, lCc _ _ _, lCc _ _ _, lCc _ _ _, trivial⟩
          ⟨op_c fun a' w' hk' hf' hd' K' hK' => ?_, op_c fun a' w' hk' hf' hd' K' hK' => ?_, op_c fun a' w' hk' hf' hd' K' hK' => ?_, op_c fun a' w' hk' hf' hd' K' hK' => ?_, op_c fun a' w' hk' hf' hd' K' hK' => ?_, op_c fun a' w' hk' hf' hd' K' hK' => ?_, op_c fun a' w' hk' hf' hd' K' hK' => ?_, trivial⟩ ?_
        · rw [wMw, eTm, hk'.get sv (by omega), gv4]; exact hK'
        · exact wNc (by rw [eTm]; exact hd'.c (nd' := []) 0 (by simp) rfl) hK'
        · exact wFa hF (by rw [eTm]; exact hd'.c (nd' := [0]) 1 (by simp) rfl) hK'
        · exact wFa (hE.field (by decide)) (by rw [eTm, hk'.get tv (by omega), gt4]) hK'
        · exact wp_load hcU (by rw [eTm]; exact hd'.c (nd' := []) 3 (by simp) rfl) ((hf'.range rbx .nil) 0 _ rfl) hK'
        · exact wFa (hE.field (by decide)) (by rw [eTm, hk'.get tv (by omega), gt4]) hK'
        · exact wp_load hcB (by rw [eTm]; exact hd'.c (nd' := []) 5 (by simp) rfl) ((hf'.range rbx .nil) 1 _ rfl) hK'
        · intro a5 w5 k5 f5 hd5
          have sz5 := f5.size
          have hN5 : a5.tmps.size = N := k5.size.trans hN4
          rw [wCo]
          refine wp_calls (R := fun _ w' => ∃ r, w'.cell? ⟨pb, Ty.sizes (tys.take jt), none⟩ = some (.map (some r)) ∧ w.heap.size ≤ r ∧ TagM w' (fun b => b < pb) r (kvSet (tagKv x) kk (.oct y)) ∧ Fr [⟨pb, Ty.sizes (tys.take jt), Ty.sizes (tys.take jt) + 1⟩, ⟨r, 0, 0⟩] w5 w') hset.enters (vs := #[.pointer (some ⟨pb, Ty.sizes (tys.take jt), none⟩), .int .u32 kk, xv])
            (by simp only [List.map_toArray, List.map_nil, List.map_cons, eTm]; rw [hd5.c (nd' := [1]) (x := .pointer (some ⟨pb, 0 + Ty.sizes (tys.take jt), none⟩)) 2 (by simp) rfl, hd5.c (nd' := [3]) (x := .int .u32 kk) 4 (by simp) rfl, hd5.c (nd' := [5]) (x := xv) 6 (by simp) rfl, Nat.zero_add])
            ((hset.call w5 (fun b => b < pb) w.heap.size pb (Ty.sizes (tys.take jt)) v x kk xv y (f5.cell hcv4 .nil) (f5.there hth4) (by
                rcases htv4 with h | ⟨rr, kv, h1, h2, h3, h4⟩
                · exact .inl h
                · exact .inr ⟨rr, kv, h1, h2, h3.kept f5 (by simp) (by simp) (fun _ h => h), h4⟩)
              (fun b hb => by omega) (by omega) hk32 (hyv4.kept f5 (by simp) (fun _ h => h)) (by simp)).mono (by rintro e' w' ⟨⟨zz, rfl⟩, h⟩; exact ⟨_, rfl, h⟩)) ?_
          rintro zz w6 ⟨r6, hc6, hlo6, hm6, f6⟩
          rw [wNi]
          have sz6 := f6.size
          have k6 : Kept n2 a4 (a5.put (some (n2 + 7)) zz) := k5.put (by omega) _
          generalize a5.put (some (n2 + 7)) zz = a6 at k6 ⊢
          refine hK4 a6 w6 ?_
          have hN6 : a6.tmps.size = N := k6.size.trans hN4
          refine wp_reg ?_
          refine wC (wp_add (k1 := .i64) (i := j) (j := 1) (by rw [eTm, k6.get _ (by omega), kq4 _ (by omega) (by omega), gi2]) rfl ?_)
          rw [wCo, wMw, eTm, gQ, wNi]
          have hwr : IntKind.i64.wrap ((j : Int) + 1) = ((j + 1 : Nat) : Int) := by
            simp [IntKind.wrap, IntKind.bits, IntKind.signed]; omega
          rw [hwr]
          have kf : ∀ s, s < m1 → s ≠ tv → s ≠ n + 3 → get ((a6.put (some q) (.int .i64 ((j + 1 : Nat) : Int))).put (some (n + 3)) (.int .i64 ((j + 1 : Nat) : Int))) s = get a2 s := by
            intro s h1 h2 h3
            rw [gPn h3.symm, gR, k6.get s (by omega), kq4 s h1 h2]
          refine ⟨r - 1, by omega, j + 1, .t (kvSet (tagKv x) kk (.oct y)), .map (some r6), by omega, by simp only [sPu]; exact hN6, by simp only [dPu]; exact k6.defers.trans hd4, by rw [kf sv (by omega) c9 (by omega)]; exact gv2, by rw [kf sb (by omega) c10 (by omega)]; exact gb2, by rw [kf _ (by omega) (by omega) (by omega)]; exact gu2, by rw [kf _ (by omega) (by omega) (by omega)]; exact gl2, gQ, ?_, ?_, ?_, ?_⟩
          · rw [List.take_add_one, hks]
            exact .step htgr hys
          · exact .inr ⟨r6, _, rfl, hlo6, hm6, rfl⟩
          · have := range_put (f5.range hrg4 .nil) f6 hc6 (by rw [List.length_set]; exact hlt)
            rwa [List.set_set] at this
          · refine (f04.tr f5.nil).trans f6 ?_
            intro r hr; simp at hr
            rcases hr with rfl | rfl
            · exact .inr ⟨_, List.mem_singleton.2 rfl, rfl, by simp, by simp only; omega⟩
            · exact .inl (by simp only; omega)
    · intro hge
      have hjl : j = t.us.length := by
        have : ¬ ((j : Int) < t.us.length) := by simpa using hge
        omega
      refine wp_exit ?_
      show Exit.inBlock b0 (Exit.then K Q) (.exit b0) a3 w2
      simp only [Exit.inBlock, if_true]
      have htk : t.us.take j = t.us := by rw [hjl, List.take_length]
      rw [htk] at htgr
      have hcv : w2.cell? ⟨pb, Ty.sizes (tys.take jt), none⟩ = some v := by have := hrg (Ty.sizes (tys.take jt)) v (by rw [List.getElem?_set_self hlt]); simpa using this
      have hr1 : Reps w2 (fun b => b ≠ pb ∧ b < w2.heap.size) tys z xs := hrep.kept f02 (by intro r hr hA; simp at hr; subst hr; exact hA.1 rfl) (fun b hb => ⟨hb.1, by omega⟩)
      have hvr : Rep w2 (fun b => b ≠ pb ∧ b < w2.heap.size) .tags [v] x := by
        rcases htv with ⟨rfl, rfl⟩ | ⟨rr, kv, rfl, hlo, hm, rfl⟩
        · exact .inl ⟨rfl, rfl⟩
        · have hnr := hm.notCell hcv
          have hrl := hm.lt
          obtain ⟨es, clock, h1, h2, h3⟩ := hm
          exact .inr ⟨rr, es, clock, kv, ⟨fun h => hnr h.symm, hrl⟩, rfl, h1, Entries.kept (Fr.refl [] w2) (by simp) (fun b hb => ⟨by omega, by omega⟩) h2, rfl, h3⟩
      refine hK a3 w2 _ ⟨x, htgr, rfl⟩ ⟨hN3, kk3.defers.trans hd2, (kk3.get sv (by omega)).trans gv2, (kk3.get sb (by omega)).trans gb2, f02.range st.tr (.cons (.inl (by simp only; omega)) .nil), st.rt.kept f02 (by intro r hr hA; simp at hr; subst hr; simp only at hA; omega) (fun _ h => h), hptb, _, hrg, by rw [List.length_set]; exact f02.there hth, hr1.set hj rfl hvr⟩ f02
end Go.Kq

namespace Go.Kq
open Go Go.Proofs
structure FillP (P : Program) (f : FuncId) (tys : List Ty) (pre : List V → Prop) (R : T → List V → List V → Prop) : Prop where
  enters : Enters P f
  call : ∀ (w : World) (pb : Nat) (ct : List Value) (t : T) (xs : List V) (z : List Value), pre xs → RepT w (fun b => b < pb) ct t → w.rangeAt pb 0 z → w.there pb 0 z.length → pb < w.heap.size → Reps w (fun b => b ≠ pb ∧ b < w.heap.size) tys z xs →
    Calls P f #[.pointer (some ⟨pb, 0, none⟩), .agg ct.toArray] w fun e w' => ∃ x ys z', e = .returned x ∧ R t xs ys ∧ w'.rangeAt pb 0 z' ∧ Reps w' (fun b => b ≠ pb ∧ b < w'.heap.size) tys z' ys ∧ Fr [⟨pb, 0, Ty.sizes tys⟩] w w'
theorem fill_p {P : Program} {f : FuncId} {fn : Func} {N sb i0 : Nat} {TT t0 : TypeId} {p0 : String} {e0 : Array Edge} {c : Code} {tys : List Ty} {pre : List V → Prop} {R : T → List V → List V → Prop}
    (hf : P.funcs[f]? = some fn) (hname : (fn.name == "runtime.NumGoroutine") = false) (hres : fn.results = #[]) (hN : fn.ntmps = N)
    (hbody : fn.body = some (.seq (Code.region i0 ⟨[⟨some sb, .box TT (.tmp 1), t0, p0, e0, none⟩]⟩ false) c)) (hb : (decide (1 < sb) && decide (sb < N)) = true)
    (h : FRunP P N 0 sb c tys pre R) : FillP P f tys pre R := by
  refine ⟨enters_of hf hname hbody, ?_⟩
  intro w pb ct t xs z hpre hrt hz hth hpb hr
  simp only [Bool.and_eq_true, decide_eq_true_eq] at hb
  refine calls_of_wp hf hbody ?_
  generalize ha0 : ({ tmps := #[Value.pointer (some ⟨pb, 0, none⟩), Value.agg ct.toArray] ++ Array.replicate (fn.ntmps - #[Value.pointer (some ⟨pb, 0, none⟩), Value.agg ct.toArray].size) undef, defers := [] } : Act) = a0
  have hsz : a0.tmps.size = N := by subst ha0; simp [hN]; omega
  have hd0 : a0.defers = [] := by subst ha0; rfl
  have g0 : get a0 0 = .pointer (some ⟨pb, 0, none⟩) := by subst ha0; exact gAr rfl
  have g1 : get a0 1 = .agg ct.toArray := by subst ha0; exact gAr rfl
  refine wT fun K1 hK1 => ?_
  refine wC (wp_boxL (cs := ct) (by rw [eTm, g1]) ?_)
  intro w1 f1 sz1 r1 th1
  rw [wNi]
  refine hK1 _ w1 (tUp ?_)
  refine tId ?_
  refine h pb w.heap.size ct t _ _ _ w1 xs hpre ⟨by simp only [sPu]; exact hsz, by simp only [dPu]; exact hd0, by rw [gR, g0], gQ, r1, hrt.kept f1 (by simp) (fun _ h => h), hpb, z, f1.range hz .nil, f1.there hth, hr.kept f1 (by simp) (fun b hb => ⟨hb.1, by omega⟩)⟩ ?_
  rintro a' w' ys hR s' f'
  obtain ⟨z', hz', _, hr'⟩ := s'.cs
  exact ⟨s'.df, .tuple #[], by simp [results, hres], _, ys, z', rfl, hR, hz', hr', f1.nil.tr f'⟩
theorem make_s {P : Program} {f ffl fap fsv : FuncId} {fn : Func} {TT TI T16 TX : TypeId} {i0 i1 i2 i3 i4 : Nat} {at0 at1 at2 : Array TypeId} {pre : List V → Prop} {tys : List Ty} {zs : List Value} {ds : List V} {R : T → List V → List V → Prop} {ga : Int → V → List UInt8}
    {t0 t1 t2 t3 t4 t5 t6 t7 t8 t9 t10 t11 t12 t13 t14 : TypeId} {p0 p1 p2 p3 p4 p5 p6 p7 p8 p9 p10 p11 p12 p13 p14 : String} {e0 e1 e2 e3 e4 e5 e6 e7 e8 e9 e10 e11 e12 e13 e14 : Array Edge}
    (hf : P.funcs[f]? = some fn) (hname : (fn.name == "runtime.NumGoroutine") = false) (hres : fn.results = #[.tmp 4]) (hN : fn.ntmps = 17)
    (hbody : fn.body = some (.seq (Code.region i0 ⟨[⟨some 3, .box TT (.tmp 1), t0, p0, e0, none⟩, ⟨some 4, .assign (.const (.slice none 0 0)), t1, p1, e1, none⟩]⟩ false)
      (.seq (Code.region i1 ⟨[⟨some 6, .build TX #[], t2, p2, e2, none⟩, ⟨some 7, .box TX (.tmp 6), t3, p3, e3, none⟩, ⟨some 5, .assign (.tmp 7), t4, p4, e4, none⟩]⟩ false)
      (.seq (Code.region i4 ⟨[⟨some 8, .move (.tmp 5), t5, p5, e5, none⟩, ⟨some 9, .move (.tmp 0), t6, p6, e6, none⟩, ⟨some 10, .convert TI T16 (.tmp 9), t7, p7, e7, none⟩, ⟨some 11, .call ⟨.value (.func fsv), #[.tmp 8, .tmp 10], at2⟩, t8, p8, e8, none⟩]⟩ false)
      (.seq (Code.region i2 ⟨[⟨some 12, .move (.tmp 5), t9, p9, e9, none⟩, ⟨some 13, .load TT (.tmp 3), t10, p10, e10, none⟩, ⟨some 14, .call ⟨.value (.func ffl), #[.tmp 12, .tmp 13], at0⟩, t11, p11, e11, none⟩]⟩ false)
      (.seq (Code.region i3 ⟨[⟨some 15, .move (.tmp 5), t12, p12, e12, none⟩, ⟨some 16, .call ⟨.value (.func fap), #[.tmp 15, .const (.slice none 0 0)], at1⟩, t13, p13, e13, none⟩, ⟨some 4, .assign (.tmp 16), t14, p14, e14, none⟩]⟩ false) .ret))))))
    (hT : Flat P TT zT) (hX : Flat P TX (.int .i16 0 :: zs)) (h1 : intOf P TI .i64 = true) (h2 : intOf P T16 .i16 = true) (hzr : ∀ w, Reps w NoFoot tys zs ds) (hsv : SetM P fsv)
    (hfill : FillP P ffl (.int .i16 :: tys) pre R) (happ : ∀ ver, AppM P fap (.st (.int .i16 :: tys)) (ga ver) ver) (hpre : ∀ ver, pre (.n ver :: ds)) (hR : ∀ t ver ys, R t (.n ver :: ds) ys → ∃ ys', ys = .n ver :: ys') :
    MakeM P f (fun ver t out => ∃ ys, R t (.n ver :: ds) (.n ver :: ys) ∧ out = ga ver (.l (.n ver :: ys))) := by
  refine ⟨enters_of hf hname hbody, ?_⟩
  intro w B ver ct t hv0 hv1 hrt hB hbig
  refine calls_of_wp hf hbody ?_
  generalize ha0 : ({ tmps := #[Value.int .i64 ver, Value.agg ct.toArray] ++ Array.replicate (fn.ntmps - #[Value.int .i64 ver, Value.agg ct.toArray].size) undef, defers := [] } : Act) = a0
  have hsz : a0.tmps.size = 17 := by subst ha0; simp [hN]
  have hd0 : a0.defers = [] := by subst ha0; rfl
  have g0 : get a0 0 = .int .i64 ver := by subst ha0; exact gAr rfl
  have g1 : get a0 1 = .agg ct.toArray := by subst ha0; exact gAr rfl
  refine wT fun K1 hK1 => ?_
  refine wC (wp_boxL (cs := ct) (by rw [eTm, g1]) ?_)
  intro w1 f1 sz1 r1 th1
  rw [wCo, wAg, eCo, wNi]
  have k1 : Kept 2 a0 ((a0.put (some 3) (.pointer (some ⟨w.heap.size, 0, none⟩))).put (some 4) (.slice none 0 0)) := (Kept.put0 (by omega) _).put (by omega) _
  have q3 : get ((a0.put (some 3) (.pointer (some ⟨w.heap.size, 0, none⟩))).put (some 4) (.slice none 0 0)) 3 = .pointer (some ⟨w.heap.size, 0, none⟩) := by rw [gR, gQ]
  generalize ((a0.put (some 3) (.pointer (some ⟨w.heap.size, 0, none⟩))).put (some 4) (.slice none 0 0)) = a1 at k1 q3 ⊢
  have hz1 := k1.size
  refine hK1 a1 w1 (tUp ?_)
  -- v := &X{}
  refine wT fun K2 hK2 => ?_
  refine wC (wp_build0 hX ?_)
  refine wC (wp_boxL (cs := .int .i16 0 :: zs) (by rw [eTm, gQ]) ?_)
  intro w2' f2' sz2' r2' th2'
  rw [wCo, wAg, eTm, gQ, wNi]
  have k2 : Kept 5 a1 (((a1.put (some 6) (.agg (Value.int .i16 0 :: zs).toArray)).put (some 7) (.pointer (some ⟨w1.heap.size, 0, none⟩))).put (some 5) (.pointer (some ⟨w1.heap.size, 0, none⟩))) :=
    ((Kept.put0 (by omega) _).put (by omega) _).put (by omega) _
  have q5 : get (((a1.put (some 6) (.agg (Value.int .i16 0 :: zs).toArray)).put (some 7) (.pointer (some ⟨w1.heap.size, 0, none⟩))).put (some 5) (.pointer (some ⟨w1.heap.size, 0, none⟩))) 5 = .pointer (some ⟨w1.heap.size, 0, none⟩) := gQ
  generalize (((a1.put (some 6) (.agg (Value.int .i16 0 :: zs).toArray)).put (some 7) (.pointer (some ⟨w1.heap.size, 0, none⟩))).put (some 5) (.pointer (some ⟨w1.heap.size, 0, none⟩))) = a2' at k2 q5 ⊢
  have hz2' := k2.size
  refine hK2 a2' w2' (tUp ?_)
  generalize hpbv : w1.heap.size = pb at *
  -- v.SetVersion(int16(version))
  refine wT fun K9 hK9 => ?_
  rw [wCo, wMw, eTm, q5, wCo, wMw, eTm, gR, k2.get 0 (by omega), k1.get 0 (by omega), g0, wCo]
  refine wCv h1 h2 (by rw [eTm, gQ]) ?_
  have hwr : IntKind.i16.wrap ver = ver := by simp [IntKind.wrap, IntKind.signed, IntKind.bits]; omega
  rw [hwr, wCo]
  have hth2 : w2'.there pb 0 1 := there_part th2' (by omega) (by simp)
  refine wp_calls (R := fun _ w' => w' = w2'.setCell ⟨pb, 0, none⟩ (.int .i16 ver)) hsv.enters (vs := #[.pointer (some ⟨pb, 0, none⟩), .int .i16 ver])
    (by simp only [List.map_toArray, List.map_nil, List.map_cons, eTm]; rw [gR, gR, gQ, gQ])
    ((hsv.call w2' pb ver hth2).mono (by rintro e' w' ⟨⟨x, rfl⟩, h⟩; exact ⟨_, rfl, h⟩)) ?_
  rintro xz w2 rfl
  rw [wNi]
  have fsv := Fr.set w2' pb 0 (.int .i16 ver)
  have rsv : (w2'.setCell ⟨pb, 0, none⟩ (.int .i16 ver)).rangeAt pb 0 (.int .i16 ver :: zs) := by
    have := range_setAt (o := 0) (i := 0) (v := .int .i16 ver) r2' th2' (by simp)
    simpa using this
  generalize w2'.setCell ⟨pb, 0, none⟩ (.int .i16 ver) = w2 at fsv rsv ⊢
  have szv := fsv.size
  have k9 : Kept 6 a2' ((((a2'.put (some 8) (.pointer (some ⟨pb, 0, none⟩))).put (some 9) (.int .i64 ver)).put (some 10) (.int .i16 ver)).put (some 11) xz) := (((Kept.put0 (by omega) _).put (by omega) _).put (by omega) _).put (by omega) _
  generalize ((((a2'.put (some 8) (.pointer (some ⟨pb, 0, none⟩))).put (some 9) (.int .i64 ver)).put (some 10) (.int .i16 ver)).put (some 11) xz) = a2 at k9 ⊢
  have hz2 := k9.size
  refine hK9 a2 w2 (tUp ?_)
  -- fillX(v, t)
  have hrt2 : RepT w2 (fun b => b < pb) ct t := (((hrt.kept f1 (by simp) (A' := fun b => b < pb) (fun b hb => by have := hB b hb; omega))).kept f2' (by simp) (fun _ h => h)).kept fsv (by intro r hr hA; simp at hr; subst hr; simp only at hA; omega) (fun _ h => h)
  have f02 : Fr [] w w2 := (f1.tr f2').trans fsv (by intro r hr; simp at hr; subst hr; exact .inl (by simp only; omega))
  have sz02 := f2'.size
  refine wT fun K3 hK3 => ?_
  rw [wCo, wMw, eTm, k9.get 5 (by omega), q5, wCo]
  refine wp_loadFlat hT (b := w.heap.size) (o := 0) (cs := ct) (by rw [hrt.length]; rfl) (by rw [eTm, gR, k9.get 3 (by omega), k2.get 3 (by omega), q3]) (fsv.range (f2'.range r1 .nil) (.cons (.inl (by simp only; omega)) .nil)) ?_
  rw [wCo]
  refine wp_calls (R := fun _ w' => ∃ ys z', R t (.n ver :: ds) ys ∧ w'.rangeAt pb 0 z' ∧ Reps w' (fun b => b ≠ pb ∧ b < w'.heap.size) (.int .i16 :: tys) z' ys ∧ Fr [⟨pb, 0, Ty.sizes (.int .i16 :: tys)⟩] w2 w') hfill.enters (vs := #[.pointer (some ⟨pb, 0, none⟩), .agg ct.toArray])
    (by simp only [List.map_toArray, List.map_nil, List.map_cons, eTm]; rw [gR, gQ, gQ])
    ((hfill.call w2 pb ct t (.n ver :: ds) (.int .i16 ver :: zs) (hpre ver) hrt2 rsv (fsv.there th2') (by omega) ⟨[.int .i16 ver], zs, .n ver, ds, rfl, rfl, ⟨ver, rfl, rfl, by simp [IntKind.min, IntKind.signed, IntKind.bits]; omega, by simp [IntKind.max, IntKind.signed, IntKind.bits]; omega⟩, (hzr w2).kept (Fr.refl [] w2) (by simp) (fun b h => h.elim)⟩).mono (by
      rintro e' w' ⟨x, ys, z', rfl, h1, h2, h3, h4⟩; exact ⟨_, rfl, ys, z', h1, h2, h3, h4⟩)) ?_
  rintro x w3 ⟨ys, z', hRy, hz', hr', f3⟩
  obtain ⟨ys, rfl⟩ := hR _ _ _ hRy
  rw [wNi]
  have sz3 := f3.size
  have f03 : Fr [] w w3 := f02.trans f3 (by intro r hr; simp at hr; subst hr; exact .inl (by simp only; omega))
  have k3 : Kept 6 a2 (((a2.put (some 12) (.pointer (some ⟨pb, 0, none⟩))).put (some 13) (.agg ct.toArray)).put (some 14) x) := ((Kept.put0 (by omega) _).put (by omega) _).put (by omega) _
  generalize (((a2.put (some 12) (.pointer (some ⟨pb, 0, none⟩))).put (some 13) (.agg ct.toArray)).put (some 14) x) = a3 at k3 ⊢
  have hz3 := k3.size
  refine hK3 a3 w3 (tUp ?_)
  -- return v.AppendTo(nil)
  have hbg := hbig _ ⟨ys, hRy, rfl⟩
  refine wT fun K4 hK4 => ?_
  rw [wCo, wMw, eTm, k3.get 5 (by omega), k9.get 5 (by omega), q5, wCo]
  refine wCr (vs := #[.pointer (some ⟨pb, 0, none⟩), .slice none 0 0]) (happ ver).enters (by simp only [List.map_toArray, List.map_nil, List.map_cons, eTm, eCo]; rw [gQ])
    (Apd.ret ((happ ver).call w3 (fun _ => False) (fun b => b < w3.heap.size) pb 0 z' ys (.slice none 0 0) [] hz' ⟨.n ver :: ys, rfl, hr'.kept (Fr.refl [] w3) (by simp) (fun b hb => hb.2)⟩ (by omega) Own.nil (fun _ h => h.elim) (fun _ h => h) (fun _ h => h.elim) (by rw [List.nil_append]; exact hbg))) ?_
  rintro ov w4 ⟨f4, ho, _⟩
  rw [wCo, wAg, eTm, gQ, wNi]
  refine hK4 _ w4 (wp_ret ?_)
  refine ⟨by simp only [dPu]; rw [k3.defers, k9.defers, k2.defers, k1.defers, hd0], _, rIs hres (gQ), ov, _, rfl, ⟨ys, hRy, rfl⟩, ?_, ?_⟩
  · exact f03.tr (f4.mono (by simp [spare]))
  · rw [List.nil_append] at ho
    exact (ho.imp_A (A' := From w.heap.size w4) (by rintro b' (h | h); exact h.elim; exact ⟨by omega, h.2⟩)).octE (by omega)
end Go.Kq

namespace Go.Kq
open Go
theorem fitN_num {k : Nat} {kind fr to nul tag df of : Int} {sub : List Fd} {ver : Int} {t : T} (h : kind ≠ 8 ∧ kind ≠ 9 ∧ kind ≠ 10 ∧ kind ≠ 11) : (fitN k (.mk kind fr to nul tag df of sub) ver t).n = t.n := by
  obtain ⟨h1, h2, h3, h4⟩ := h
  cases k <;> simp [fitN, fitK, Fd.kind, T.n, h1, h2, h3, h4]
theorem fw_i32 {fr to nul tag df of : Int} {sub : List Fd} {ver : Int} {t : T} {fl : Bool} : fieldW (.mk 3 fr to nul tag df of sub) ver fl t = apInt 4 (.n (IntKind.i32.wrap t.n)) := by
  rw [fieldW_eq, show Fd.kind (.mk 3 fr to nul tag df of sub) = 3 from rfl, fieldV_i32]; simp only [apInt, fixedW_w32]
theorem fw_i64 {fr to nul tag df of : Int} {sub : List Fd} {ver : Int} {t : T} {fl : Bool} : fieldW (.mk 4 fr to nul tag df of sub) ver fl t = apInt 8 (.n t.n) := by
  rw [fieldW_eq, show Fd.kind (.mk 4 fr to nul tag df of sub) = 4 from rfl, fieldV_i64]; rfl
theorem tgr_kv {u : List (Nat × List UInt8)} {x : V} (h : TgR u x) (hp : u.Pairwise fun a b => a.1 < b.1) : (tagKv x).map (fun p => (p.1, p.2.octs)) = u := by
  induction h with
  | nil => rfl
  | @step us x k s y _ hy ih =>
    obtain ⟨h1, _, h3⟩ := List.pairwise_append.1 hp
    have ih := ih h1
    have hne : ∀ p ∈ tagKv x, p.1 ≠ k := by
      intro p hp' he
      have hm : (p.1, p.2.octs) ∈ us := by rw [← ih]; exact List.mem_map.2 ⟨p, hp', rfl⟩
      have := h3 _ hm (k, s) (by simp)
      simp only at this; omega
    show (kvSet (tagKv x) k (.oct y)).map (fun p => (p.1, p.2.octs)) = _
    rw [kvSet_push hne, List.map_append, ih]
    simp only [List.map_cons, List.map_nil]
    congr 3
    rw [← hy]; cases y <;> rfl
theorem tagsT_tgr {u : List (Nat × List UInt8)} {x : V} (h : TgR u x) (hp : u.Pairwise fun a b => a.1 < b.1) : tagsT x = u := by
  have h1 := tgr_kv h hp
  unfold tagsT
  rw [sortKv_id, h1]
  rw [← h1] at hp
  exact (List.pairwise_map.1 hp).imp fun h => h
end Go.Kq
