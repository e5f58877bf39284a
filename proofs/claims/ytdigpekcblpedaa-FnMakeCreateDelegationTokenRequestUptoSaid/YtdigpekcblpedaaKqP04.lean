/- A part of the library: rules of reasoning about the program's operations and what its shared functions do. -/
import Derived.Test.YtdigpekcblpedaaKqP01
import Derived.Test.YtdigpekcblpedaaKqP03
import Derived.Deep.Upon
import Derived.Below
import Derived.ChangeSame
import Derived.ChangeSlices
import Derived.ChangeArms
import Derived.LaidLaws
import Derived.OpenShut
import Derived.WideKeyArgs
import Derived.WalkKit
import Derived.ProofKit
import Derived.Test.YtdigpekcblpedaaKqP02
import Derived.Lib.AppendStr
set_option linter.unusedVariables false
set_option linter.unusedSimpArgs false
namespace Go.Kq
open Go Go.Proofs
def fitL (g : Fd → Int → T → T) : List Fd → Int → List T → Nat → List T
  | [], _, _, _ => []
  | f :: fs, ver, ts, i => g f ver (atT ts i) :: fitL g fs ver ts (i + 1)
theorem fitL_len {g : Fd → Int → T → T} : ∀ {fs : List Fd} {ver : Int} {ts : List T} {i : Nat}, (fitL g fs ver ts i).length = fs.length
  | [], _, _, _ => rfl
  | f :: fs, ver, ts, i => by rw [fitL, List.length_cons, List.length_cons, fitL_len]
theorem fitL_at {g : Fd → Int → T → T} : ∀ {fs : List Fd} {ver : Int} {ts : List T} {i j : Nat} {f : Fd}, fs[j]? = some f → (fitL g fs ver ts i)[j]? = some (g f ver (atT ts (i + j)))
  | [], _, _, _, _, _, h => by simp at h
  | f :: fs, ver, ts, i, 0, _, h => by simp at h; subst h; rfl
  | f :: fs, ver, ts, i, j + 1, _, h => by
    rw [fitL, List.getElem?_cons_succ, fitL_at (by simpa using h), show i + 1 + j = i + (j + 1) from by omega]
theorem take_at {α : Type} {l : List α} {j : Nat} {x : α} (h : l[j]? = some x) : l.take (j + 1) = l.take j ++ [x] := by
  rw [List.take_add_one, h]; rfl
def fitK (gS gO : Int → T → T) (fd : Fd) (ver : Int) (t : T) : T :=
  if fd.kind = 8 ∨ fd.kind = 9 then .mk 0 (wholeS t.s) (nullW fd.nul ver t) [] []
  else if fd.kind = 10 then .mk (gS ver t).n (gS ver t).s (nullW fd.nul ver t) (gS ver t).l (gS ver t).u
  else if fd.kind = 11 then .mk 0 [] (nullW fd.nul ver t || (decide (fd.tag ≥ 0) && (t.l.length == 0))) ((t.l.take 32767).map (gO ver)) []
  else .mk t.n t.s false [] []
structure FitTM (P : Program) (f : FuncId) (fs : List Fd) (g : Int → T → T) : Prop where
  enters : Enters P f
  call : ∀ (w : World) (A B : Nat → Prop) (ver : Int) (v : Value) (ct : List Value) (t : T), FdsR w A v fs → RepT w B ct t → (∀ b, A b → b < w.heap.size) → (∀ b, B b → b < w.heap.size) → Calls P f #[v, .int .i64 ver, .agg ct.toArray] w fun e w' => ∃ cs : List Value, e = .returned (.agg cs.toArray) ∧ Fr [] w w' ∧ RepT w' (fun b => B b ∨ From w.heap.size w' b) cs (g ver t)
structure FitFM (P : Program) (f : FuncId) (fd : Fd) (g : Int → T → T) : Prop where
  enters : Enters P f
  call : ∀ (w : World) (A B : Nat → Prop) (ver : Int) (cf ct : List Value) (t : T), RepF w A cf fd → RepT w B ct t → (∀ b, A b → b < w.heap.size) → (∀ b, B b → b < w.heap.size) → Calls P f #[.agg cf.toArray, .int .i64 ver, .agg ct.toArray] w fun e w' => ∃ cs : List Value, e = .returned (.agg cs.toArray) ∧ Fr [] w w' ∧ RepT w' (fun b => B b ∨ From w.heap.size w' b) cs (g ver t)
theorem GL.setO {w w' : World} {e : GE} {lv : Value} {l : List T} (h : GL w e lv l) (ha : ∀ b, e.A b → b < e.s0) (h0 : e.s0 ≤ e.ob) (h1 : e.ob < e.s1) (f : Fr [⟨e.ob, 0, 5⟩] w w') : GL w' e lv l :=
  ⟨h.1.kept f (by intro r hr hC; simp at hr; subst hr; rcases hC with hC | hC; have := ha _ hC; simp only at this; omega; have := hC.1; simp only at this; omega) (GE.C_mono f.size), h.2⟩
theorem GL.keep {w w' : World} {e : GE} {lv : Value} {l : List T} (h : GL w e lv l) (f : Fr [] w w') : GL w' e lv l := ⟨h.1.kept f (by simp) (GE.C_mono f.size), h.2⟩
section
variable {P : Program} {a : Act} {w : World} {K : Act → World → Prop} {Q : Exit → Act → World → Prop} {d : Option Tmp} {t : TypeId} {p : String} {af : Array Edge} {g : Option (Nat × Bool)}
theorem wp_gl {T32 T35 bs : TypeId} {e : GE} {lv : Value} {l : List T} {y : T} {xb s : Nat} {cs : List Value} {x1 x2 : Operand} (hT32s : sliceOf P T32 T35 5 bs = true) (hz0 : zeroIs P T35 zT) (hbs : bs ≤ 1024)
    (hx1 : a.eval x1 = lv) (hx2 : a.eval x2 = .slice (some ⟨xb, 0, none⟩) 1 1) (hl : GL w e lv l) (hll : l.length < 4294967296) (ha : ∀ b, e.A b → b < e.s0) (h01 : e.s0 ≤ e.s1) (h1w : e.s1 ≤ w.heap.size) (hcs : w.rangeAt xb 0 cs) (hes : RepT w (fun b => e.A b ∨ From s w b) cs y) (hs1 : e.s1 ≤ s) (hbl : ∀ b, blk lv = some b → b < s)
    (k : ∀ v' w', Fr (spare lv 5) w w' → GL w' e v' (l ++ [y]) → K (a.put d v') w') : OW P ⟨d, .call ⟨.builtin .append, #[x1, x2], #[T32, T32]⟩, t, p, af, g⟩ a w K Q := by
  obtain ⟨hlo, hbk0⟩ := hl
  have hlo2 := hlo
  obtain ⟨flat, ho1, ho2⟩ := hlo
  have hc4 := hes.length
  have hmul : (l.length + 1) * bs ≤ 4294967296 * 1024 := Nat.mul_le_mul (by omega) hbs
  refine wp_append (A := e.C w) (z := zT) hT32s hz0 rfl hx1 hx2 ho1 (by omega) (news := cs) (by omega) hcs hes.ones (by omega) (by simp only [maxLen]; omega) ?_
  intro v' w2 hf2 ho' hbk
  have hf2s := hf2.size
  have hCw' : ∀ b, e.C w b → e.C w2 b ∧ b < w.heap.size := fun b hb => ⟨GE.C_mono hf2s b hb, by
    rcases hb with hb | hb
    · have := ha b hb; omega
    · exact hb.2⟩
  refine k _ _ hf2 ⟨LOwn.app (A' := e.C w2) ho2 ho1 hf2 ?_ hbk hCw' hes ?_, ?_⟩
  · obtain ⟨ha', hb⟩ := ho'
    refine ⟨ha', hb.imp (fun h => h) ?_⟩
    rintro ⟨g', o', cap', hg', hrest⟩
    refine ⟨g', o', cap', ?_, hrest⟩
    rcases hg' with hg' | hg'
    · exact GE.C_mono hf2s _ hg'
    · exact .inr ⟨by have := hg'.1; omega, hg'.2⟩
  · rintro b (hb | hb)
    · refine ⟨.inl hb, fun h => ?_⟩
      have := ha b hb; have := hbk0 b h; omega
    · refine ⟨.inr ⟨by have := hb.1; omega, hb.2⟩, fun h => ?_⟩
      have := hbl b h; have := hb.1; omega
  · intro b hb
    rcases hbk with h | h
    · exact hbk0 b (h.symm.trans hb |> fun h => h)
    · rw [h] at hb; simp at hb; omega
theorem wp_gu {T32 T35 bs : TypeId} {B : Nat → Prop} {s7 s8 : Nat} {uv : Value} {us : List (Nat × List UInt8)} {kk xb : Nat} {x : List UInt8} {y : Value} {x1 x2 : Operand} {C : Nat → Prop} (hT32s : sliceOf P T32 T35 2 bs = true) (hz0 : zeroIs P T35 zTag) (hbs : bs ≤ 1024)
    (hx1 : a.eval x1 = uv) (hx2 : a.eval x2 = .slice (some ⟨xb, 0, none⟩) 1 1) (hu : TOwn w (fun b => B b ∨ From s7 w b) uv us) (hub : ∀ b, blk uv = some b → s8 ≤ b) (hll : us.length < 4294967296) (hB : ∀ b, B b → b < s7) (h78 : s7 ≤ s8) (h8w : s8 ≤ w.heap.size) (hcs : w.rangeAt xb 0 [.int .u32 (kk : Int), y]) (hk : kk < 4294967296) (hy : OctE w C y x) (hC : ∀ b, C b → (B b ∨ From s7 w b) ∧ b < s8)
    (k : ∀ v' w', Fr (spare uv 2) w w' → TOwn w' (fun b => B b ∨ From s7 w' b) v' (us ++ [(kk, x)]) → (∀ b, blk v' = some b → s8 ≤ b) → K (a.put d v') w') : OW P ⟨d, .call ⟨.builtin .append, #[x1, x2], #[T32, T32]⟩, t, p, af, g⟩ a w K Q := by
  obtain ⟨flat, ho1, ho2⟩ := hu
  have hmul : (us.length + 1) * bs ≤ 4294967296 * 1024 := Nat.mul_le_mul (by omega) hbs
  refine wp_append (A := fun b => B b ∨ From s7 w b) (z := zTag) hT32s hz0 rfl hx1 hx2 ho1 (by omega) (news := [.int .u32 (kk : Int), y]) rfl hcs (by intro u hu; simp at hu; rcases hu with rfl | rfl; rfl; exact hy.one) (by omega) (by simp only [maxLen]; omega) ?_
  intro v' w2 hf2 ho' hbk
  have hf2s := hf2.size
  have hmono : ∀ b, (B b ∨ From s7 w b) → (B b ∨ From s7 w2 b) := fun b hb => hb.imp (fun h => h) (From.mono hf2s b)
  have hA : ∀ b, (B b ∨ From s7 w b) → (B b ∨ From s7 w2 b) ∧ b < w.heap.size := fun b hb => ⟨hmono b hb, by
    rcases hb with hb | hb
    · have := hB b hb; omega
    · exact hb.2⟩
  refine k _ _ hf2 (TOwn.app (C := C) ho2 ho1 hf2 ?_ hbk hA hk hy fun b hb => ⟨(hC b hb).1, fun h => ?_⟩) ?_
  · obtain ⟨ha', hb⟩ := ho'
    refine ⟨ha', hb.imp (fun h => h) ?_⟩
    rintro ⟨g', o', cap', hg', hrest⟩
    refine ⟨g', o', cap', ?_, hrest⟩
    rcases hg' with hg' | hg'
    · exact hmono _ hg'
    · exact .inr ⟨by have := hg'.1; omega, hg'.2⟩
  · have := hub b h; have := (hC b hb).2; omega
  · intro b hb
    rcases hbk with h | h
    · exact hub b (h.symm.trans hb)
    · rw [h] at hb; simp at hb; omega
end
set_option maxHeartbeats 4000000 in
theorem fit_m {P : Program} {f : FuncId} {fn : Func} {T3 T22 T23 T24 T26 T28 T46 T53 T55 : TypeId} {f32 f33 f34 f35 : FuncId} {ct0 : Array TypeId} {ct1 : Array TypeId} {ct2 : Array TypeId} {ct3 : Array TypeId} {i0 i1 i2 i3 i4 i5 i6 i7 i8 i9 i10 i11 i12 : Nat} {t0 t1 t2 t3 t4 t5 t6 t7 t8 t9 t10 t11 t12 t13 t14 t15 t16 t17 t18 t19 t20 t21 t22 t23 t24 t25 t26 t27 t28 t29 t30 t31 t32 t33 t34 t35 t36 t37 t38 t39 t40 t41 t42 t43 t44 t45 t46 t47 t48 t49 t50 t51 t52 t53 t54 t55 : TypeId} {p0 p1 p2 p3 p4 p5 p6 p7 p8 p9 p10 p11 p12 p13 p14 p15 p16 p17 p18 p19 p20 p21 p22 p23 p24 p25 p26 p27 p28 p29 p30 p31 p32 p33 p34 p35 p36 p37 p38 p39 p40 p41 p42 p43 p44 p45 p46 p47 p48 p49 p50 p51 p52 p53 p54 p55 : String} {e0 e1 e2 e3 e4 e5 e6 e7 e8 e9 e10 e11 e12 e13 e14 e15 e16 e17 e18 e19 e20 e21 e22 e23 e24 e25 e26 e27 e28 e29 e30 e31 e32 e33 e34 e35 e36 e37 e38 e39 e40 e41 e42 e43 e44 e45 e46 e47 e48 e49 e50 e51 e52 e53 e54 e55 : Array Edge} {te8 teT : TypeId} {tb8 tbT bT23 bT24 : Nat} {fs : List Fd} {g : Fd → Int → T → T}
    (hf : P.funcs[f]? = some fn) (hname : (fn.name == "runtime.NumGoroutine") = false) (hres : fn.results = #[.cell 6 T26]) (hN : fn.ntmps = 54)
    (hbody : fn.body = some (.seq (Code.region i0 ⟨[⟨some 5, .box T26 (.tmp 2), t0, p0, e0, none⟩,
    ⟨some 6, .alloc T26, t1, p1, e1, none⟩]⟩ false)
  (.seq (Code.region i1 ⟨[⟨some 12, .build T26 #[], t2, p2, e2, none⟩,
    ⟨some 7, .alloc T26, t3, p3, e3, none⟩,
    ⟨none, .store T26 (.tmp 7) (.tmp 12), t4, p4, e4, none⟩]⟩ false)
  (.seq (.seq (Code.region i2 ⟨[⟨some 13, .move (.tmp 0), t5, p5, e5, none⟩,
    ⟨some 14, .call ⟨.builtin .len, #[(.tmp 13)], #[T28]⟩, t6, p6, e6, none⟩,
    ⟨some 15, .move (.const (.int .i64 0)), t7, p7, e7, none⟩]⟩ false)
  (.block 0 (.loop (.seq (Code.region i3 ⟨[⟨some 16, .binOp .lss T3 (.tmp 15) (.tmp 14) T3, t8, p8, e8, none⟩]⟩ false)
  (.seq (.cond (.tmp 16) .skip
  (.exit 0))
  (.seq (.block 1 (.seq (Code.region i4 ⟨[⟨some 17, .move (.tmp 15), t9, p9, e9, none⟩,
    ⟨some 18, .indexAddr T28 (.tmp 13) (.tmp 15), t10, p10, e10, none⟩,
    ⟨some 19, .load T46 (.tmp 18), t11, p11, e11, none⟩,
    ⟨some 9, .alloc T46, t12, p12, e12, none⟩,
    ⟨some 8, .assign (.tmp 17), t13, p13, e13, none⟩,
    ⟨none, .store T46 (.tmp 9) (.tmp 19), t14, p14, e14, none⟩]⟩ false)
  (Code.region i5 ⟨[⟨some 20, .fieldAddr T26 (.tmp 7) 3, t15, p15, e15, none⟩,
    ⟨some 21, .load T23 (.tmp 20), t16, p16, e16, none⟩,
    ⟨some 22, .load T46 (.tmp 9), t17, p17, e17, none⟩,
    ⟨some 23, .move (.tmp 1), t18, p18, e18, none⟩,
    ⟨some 24, .load T26 (.tmp 5), t19, p19, e19, none⟩,
    ⟨some 25, .move (.tmp 8), t20, p20, e20, none⟩,
    ⟨some 26, .call ⟨.value (.func f33), #[(.tmp 24), (.tmp 25)], ct0⟩, t21, p21, e21, none⟩,
    ⟨some 27, .call ⟨.value (.func f32), #[(.tmp 22), (.tmp 23), (.tmp 26)], ct1⟩, t22, p22, e22, none⟩,
    ⟨some 28, .buildSlice T23 1 #[(0, .tmp 27)], t23, p23, e23, none⟩,
    ⟨some 29, .call ⟨.builtin .append, #[(.tmp 21), (.tmp 28)], #[T23, T23]⟩, t24, p24, e24, none⟩,
    ⟨some 30, .fieldAddr T26 (.tmp 7) 3, t25, p25, e25, none⟩,
    ⟨none, .store T23 (.tmp 30) (.tmp 29), t26, p26, e26, none⟩]⟩ true)))
  (Code.region i6 ⟨[⟨some 31, .binOp .add T3 (.tmp 15) (.const (.int .i64 1)) T3, t27, p27, e27, none⟩,
    ⟨some 15, .move (.tmp 31), t28, p28, e28, none⟩]⟩ false)))))))
  (.seq (.seq (Code.region i7 ⟨[⟨some 32, .move (.tmp 0), t29, p29, e29, none⟩,
    ⟨some 33, .fieldAddr T26 (.tmp 5) 4, t30, p30, e30, none⟩,
    ⟨some 34, .load T24 (.tmp 33), t31, p31, e31, none⟩,
    ⟨some 35, .call ⟨.value (.func f34), #[(.tmp 32), (.tmp 34)], ct2⟩, t32, p32, e32, none⟩,
    ⟨some 36, .call ⟨.builtin .len, #[(.tmp 35)], #[T24]⟩, t33, p33, e33, none⟩,
    ⟨some 37, .move (.const (.int .i64 0)), t34, p34, e34, none⟩]⟩ false)
  (.block 2 (.loop (.seq (Code.region i8 ⟨[⟨some 38, .binOp .lss T3 (.tmp 37) (.tmp 36) T3, t35, p35, e35, none⟩]⟩ false)
  (.seq (.cond (.tmp 38) .skip
  (.exit 2))
  (.seq (.block 3 (.seq (Code.region i9 ⟨[⟨some 39, .indexAddr T24 (.tmp 35) (.tmp 37), t36, p36, e36, none⟩,
    ⟨some 40, .load T55 (.tmp 39), t37, p37, e37, none⟩,
    ⟨some 11, .alloc T55, t38, p38, e38, none⟩,
    ⟨none, .store T55 (.tmp 11) (.tmp 40), t39, p39, e39, none⟩]⟩ false)
  (Code.region i10 ⟨[⟨some 41, .fieldAddr T26 (.tmp 7) 4, t40, p40, e40, none⟩,
    ⟨some 42, .load T24 (.tmp 41), t41, p41, e41, none⟩,
    ⟨some 43, .fieldAddr T55 (.tmp 11) 0, t42, p42, e42, none⟩,
    ⟨some 44, .load T53 (.tmp 43), t43, p43, e43, none⟩,
    ⟨some 45, .fieldAddr T55 (.tmp 11) 1, t44, p44, e44, none⟩,
    ⟨some 46, .load T22 (.tmp 45), t45, p45, e45, none⟩,
    ⟨some 47, .call ⟨.value (.func f35), #[(.tmp 46)], ct3⟩, t46, p46, e46, none⟩,
    ⟨some 48, .build T55 #[(0, .tmp 44), (1, .tmp 47)], t47, p47, e47, none⟩,
    ⟨some 49, .buildSlice T24 1 #[(0, .tmp 48)], t48, p48, e48, none⟩,
    ⟨some 50, .call ⟨.builtin .append, #[(.tmp 42), (.tmp 49)], #[T24, T24]⟩, t49, p49, e49, none⟩,
    ⟨some 51, .fieldAddr T26 (.tmp 7) 4, t50, p50, e50, none⟩,
    ⟨none, .store T24 (.tmp 51) (.tmp 50), t51, p51, e51, none⟩]⟩ true)))
  (Code.region i11 ⟨[⟨some 52, .binOp .add T3 (.tmp 37) (.const (.int .i64 1)) T3, t52, p52, e52, none⟩,
    ⟨some 37, .move (.tmp 52), t53, p53, e53, none⟩]⟩ false)))))))
  (.seq (Code.region i12 ⟨[⟨some 53, .load T26 (.tmp 7), t54, p54, e54, none⟩,
    ⟨none, .store T26 (.tmp 6) (.tmp 53), t55, p55, e55, none⟩]⟩ false)
  .ret))))))
    (hFlT26 : Flat P T26 zT) (hsT28 : slTy P T28 = true) (hs_T28 : sliceOf P T28 te8 8 tb8 = true) (hFlT46 : Flat P T46 zF) (hcT23 : scal P T23 = true) (hs_T23 : sliceOf P T23 T26 5 bT23 = true) (hb_T23 : bT23 ≤ 1024) (hz_T26 : zeroIs P T26 zT) (he5 : edgeOk 0 [e15, e16, e17, e18, e19, e20, e21, e22, e23, e24, e25, e26] [[], [0], [], [], [], [], [4, 5], [2, 3, 6], [7], [0, 1, 2, 3, 4, 5, 6, 7, 8], [0, 1, 2, 3, 4, 5, 6, 7, 8, 9], [0, 1, 2, 3, 4, 5, 6, 7, 8, 9, 10]] = true) (hmx : P.follows .mixedOrders = true) (hcT24 : scal P T24 = true) (hsT24 : slTy P T24 = true) (hs_T24 : sliceOf P T24 T55 2 bT24 = true) (hFlT55 : Flat P T55 zTag) (hcT53 : scal P T53 = true) (hcT22 : scal P T22 = true) (hb_T24 : bT24 ≤ 1024) (hz_T55 : zeroIs P T55 zTag) (he10 : edgeOk 0 [e40, e41, e42, e43, e44, e45, e46, e47, e48, e49, e50, e51] [[], [0], [], [2], [], [4], [5], [3, 6], [7], [0, 1, 2, 3, 4, 5, 6, 7, 8], [0, 1, 2, 3, 4, 5, 6, 7, 8, 9], [0, 1, 2, 3, 4, 5, 6, 7, 8, 9, 10]] = true) (htg : ∀ f ∈ fs, f.tag < 4294967295) (hFd : ∀ fd ∈ fs, FitFM P f32 fd (g fd)) (hAt : AtM P f33) (hUn : UnkM P f34) (hWh : WholeM P f35) : FitTM P f fs (fun ver t => .mk 0 [] false (fitL g fs ver t.l 0) (unksW fs t)) := by
  refine ⟨enters_of hf hname hbody, ?_⟩
  intro w A B ver v ct t hfs ht hA hB
  cases t with
  | mk n s nl l u =>
  have ht0 := ht
  obtain ⟨sv, lv, uv, rfl, hn, hs, hl, hu⟩ := repT_iff.1 ht
  obtain ⟨q, cap, hv, hbig, hk⟩ := hfs.slice
  subst hv
  refine calls_of_wp hf hbody ?_
  generalize ha0 : ({ tmps := #[Value.slice q fs.length cap, Value.int .i64 ver, Value.agg ([.int .i64 n, sv, .bool nl, lv, uv] : List Value).toArray] ++ Array.replicate (fn.ntmps - (#[Value.slice q fs.length cap, Value.int .i64 ver, Value.agg ([.int .i64 n, sv, .bool nl, lv, uv] : List Value).toArray] : Array Value).size) undef, defers := [] } : Act) = a0
  have hz0 : a0.tmps.size = 54 := by subst ha0; simp [hN]
  have hd0 : a0.defers = [] := by subst ha0; rfl
  have g0_0 : get a0 0 = .slice q fs.length cap := by subst ha0; exact gAr rfl
  have g0_1 : get a0 1 = .int .i64 ver := by subst ha0; exact gAr rfl
  have g0_2 : get a0 2 = .agg ([.int .i64 n, sv, .bool nl, lv, uv] : List Value).toArray := by subst ha0; exact gAr rfl
  clear ha0
  refine tId (wp_seq_k fun K201 hK201 => ?_)
  refine wp_reg ?_
  rw [wCo]
  refine wp_boxL (cs := [.int .i64 n, sv, .bool nl, lv, uv]) (by rw [eTm, g0_2]) ?_
  rintro w202 f202 sz202 r202 th202
  have hF203 : Fr [] w w202 := f202
  rw [wCo]
  have hgs204 := hF203.size
  refine wp_allocL hFlT26 ?_
  rintro w205 f205 sz205 r205 th205
  have hF206 : Fr [] w w205 := hF203.tr f205
  have rb207 := f205.range r202 .nil
  refine wEn fun a208 ha208 => ?_
  have hz208 : a208.tmps.size = 54 := by rw [ha208]; exact ((sPu _ _ _).trans ((sPu _ _ _).trans hz0))
  have hd208 : a208.defers = [] := by rw [ha208]; exact ((dPu _ _ _).trans ((dPu _ _ _).trans hd0))
  have g208_0 : get a208 0 = .slice q fs.length cap := by rw [ha208, gPn (by decide), gPn (by decide), g0_0]
  have g208_1 : get a208 1 = .int .i64 ver := by rw [ha208, gPn (by decide), gPn (by decide), g0_1]
  have g208_2 : get a208 2 = .agg ([.int .i64 n, sv, .bool nl, lv, uv] : List Value).toArray := by rw [ha208, gPn (by decide), gPn (by decide), g0_2]
  have g208_5 : get a208 5 = .pointer (some ⟨w.heap.size, 0, none⟩) := by rw [ha208, gPn (by decide), gPs (lt_sz hz0 (by decide))]
  have g208_6 : get a208 6 = .pointer (some ⟨w202.heap.size, 0, none⟩) := by rw [ha208, gPs (lt_sz ((sPu _ _ _).trans hz0) (by decide))]
  clear ha208
  refine hK201 a208 w205 (tUp ?_)
  refine tId (wp_seq_k fun K209 hK209 => ?_)
  refine wp_reg ?_
  rw [wCo]
  refine wp_buildZ (z := zT) hFlT26 ?_
  rw [wCo]
  have hgs210 := hF206.size
  have hgs211 := (Fr.refl [] w205).size
  refine wp_allocL hFlT26 ?_
  rintro w212 f212 sz212 r212 th212
  have hF213 : Fr [] w w212 := hF206.tr f212
  have hL213_w205 : Fr [] w205 w212 := (Fr.refl [] w205).tr f212
  have rb214 := f212.range rb207 .nil
  rw [wCo]
  refine wp_storeL (cs := zT) (o := 0) hFlT26 rfl (by rw [eTm, gPs (lt_sz ((sPu _ _ _).trans hz208) (by decide))]) (by rw [eTm, gPn (by decide), gPs (lt_sz hz208 (by decide))]) (by intro u hu; simp [zT] at hu; rcases hu with rfl | rfl | rfl | rfl | rfl <;> rfl) th212 ?_
  rintro w215 f215 sz215 r215 th215
  have hF215 : Fr [] w w215 := hF213.trans f215 (fun r hr => .inl (by simp at hr; subst hr; have := hF206.size; simp only; omega))
  have rb216 := f215.range rb214 (.cons (.inl (by simp only; omega)) .nil)
  have hL215_w205 : Fr [] w205 w215 := hL213_w205.trans f215 (fun r hr => .inl (by simp at hr; subst hr; have := (Fr.refl [] w205).size; simp only; omega))
  refine wEn fun a217 ha217 => ?_
  have hz217 : a217.tmps.size = 54 := by rw [ha217, pNo]; exact ((sPu _ _ _).trans ((sPu _ _ _).trans hz208))
  have hd217 : a217.defers = [] := by rw [ha217, pNo]; exact ((dPu _ _ _).trans ((dPu _ _ _).trans hd208))
  have g217_0 : get a217 0 = .slice q fs.length cap := by rw [ha217, pNo, gPn (by decide), gPn (by decide), g208_0]
  have g217_1 : get a217 1 = .int .i64 ver := by rw [ha217, pNo, gPn (by decide), gPn (by decide), g208_1]
  have g217_2 : get a217 2 = .agg ([.int .i64 n, sv, .bool nl, lv, uv] : List Value).toArray := by rw [ha217, pNo, gPn (by decide), gPn (by decide), g208_2]
  have g217_5 : get a217 5 = .pointer (some ⟨w.heap.size, 0, none⟩) := by rw [ha217, pNo, gPn (by decide), gPn (by decide), g208_5]
  have g217_6 : get a217 6 = .pointer (some ⟨w202.heap.size, 0, none⟩) := by rw [ha217, pNo, gPn (by decide), gPn (by decide), g208_6]
  have g217_7 : get a217 7 = .pointer (some ⟨w205.heap.size, 0, none⟩) := by rw [ha217, pNo, gPs (lt_sz ((sPu _ _ _).trans hz208) (by decide))]
  clear ha217
  obtain ⟨e, he⟩ : ∃ e : GE, e = ⟨w.heap.size, w202.heap.size, w205.heap.size, w.heap.size, w215.heap.size, B⟩ := ⟨_, rfl⟩
  have hgm0 : GM w215 e [.int .i64 n, sv, .bool nl, lv, uv] 0 (.slice none 0 0) false (.slice none 0 0) (.slice none 0 0) := by rw [he]; exact ⟨rb216, r215, th215, (hL215_w205).there th205, hB, by simp only; omega, by simp only; omega, by simp only; omega, by simp only; omega, by simp only; omega, by simp only; omega, by simp only; omega, by simp only; omega, Nat.le_refl _⟩
  have hes1 : e.s1 = w215.heap.size := by rw [he]
  have heA : e.A = B := by rw [he]
  have hes0 : e.s0 = w.heap.size := by rw [he]
  rw [show w.heap.size = e.b1 from by rw [he]] at g217_5
  rw [show w202.heap.size = e.rb from by rw [he]] at g217_6
  rw [show w205.heap.size = e.ob from by rw [he]] at g217_7
  have hga : ∀ b, e.A b → b < e.s0 := hgm0.a0
  have hg01 : e.s0 ≤ e.s1 := Nat.le_trans hgm0.ob0 (Nat.le_of_lt hgm0.ob1)
  clear he
  obtain ⟨fl, hfl0⟩ : ∃ x, x = fitL g fs ver l 0 := ⟨_, rfl⟩
  have hfll : fl.length = fs.length := by rw [hfl0]; exact fitL_len
  refine hK209 a217 w215 (tUp ?_)
  refine tId (wp_seq_k fun K218 hK218 => ?_)
  refine wp_seq_k fun K219 hK219 => ?_
  refine wp_reg ?_
  rw [wCo]
  refine wMv (v := .slice q fs.length cap) (by rw [eTm, g217_0]) ?_
  rw [wCo]
  refine wp_lenS (n := fs.length) hsT28 (by rw [eTm, gPs (lt_sz hz217 (by decide))]) ?_
  rw [wCo]
  refine wMv (v := .int .i64 0) rfl ?_
  refine wEn fun a220 ha220 => ?_
  have hz220 : a220.tmps.size = 54 := by rw [ha220]; exact ((sPu _ _ _).trans ((sPu _ _ _).trans ((sPu _ _ _).trans hz217)))
  have hd220 : a220.defers = [] := by rw [ha220]; exact ((dPu _ _ _).trans ((dPu _ _ _).trans ((dPu _ _ _).trans hd217)))
  have g220_0 : get a220 0 = .slice q fs.length cap := by rw [ha220, gPn (by decide), gPn (by decide), gPn (by decide), g217_0]
  have g220_1 : get a220 1 = .int .i64 ver := by rw [ha220, gPn (by decide), gPn (by decide), gPn (by decide), g217_1]
  have g220_2 : get a220 2 = .agg ([.int .i64 n, sv, .bool nl, lv, uv] : List Value).toArray := by rw [ha220, gPn (by decide), gPn (by decide), gPn (by decide), g217_2]
  have g220_5 : get a220 5 = .pointer (some ⟨e.b1, 0, none⟩) := by rw [ha220, gPn (by decide), gPn (by decide), gPn (by decide), g217_5]
  have g220_6 : get a220 6 = .pointer (some ⟨e.rb, 0, none⟩) := by rw [ha220, gPn (by decide), gPn (by decide), gPn (by decide), g217_6]
  have g220_7 : get a220 7 = .pointer (some ⟨e.ob, 0, none⟩) := by rw [ha220, gPn (by decide), gPn (by decide), gPn (by decide), g217_7]
  have g220_13 : get a220 13 = .slice q fs.length cap := by rw [ha220, gPn (by decide), gPn (by decide), gPs (lt_sz hz217 (by decide))]
  have g220_14 : get a220 14 = .int .i64 ((fs.length : Nat) : Int) := by rw [ha220, gPn (by decide), gPs (lt_sz ((sPu _ _ _).trans hz217) (by decide))]
  have g220_15 : get a220 15 = .int .i64 0 := by rw [ha220, gPs (lt_sz ((sPu _ _ _).trans ((sPu _ _ _).trans hz217)) (by decide))]
  clear ha220
  refine hK219 a220 w215 ?_
  refine wp_block (wp_loop_ghost (fun (m : Nat) a' w' => ∃ (j : Nat) (lw : Value), a'.tmps.size = 54 ∧ a'.defers = [] ∧ get a' 0 = .slice q fs.length cap ∧ get a' 1 = .int .i64 ver ∧ get a' 2 = .agg ([.int .i64 n, sv, .bool nl, lv, uv] : List Value).toArray ∧ get a' 5 = .pointer (some ⟨e.b1, 0, none⟩) ∧ get a' 6 = .pointer (some ⟨e.rb, 0, none⟩) ∧ get a' 7 = .pointer (some ⟨e.ob, 0, none⟩) ∧ get a' 13 = .slice q fs.length cap ∧ get a' 14 = .int .i64 ((fs.length : Nat) : Int) ∧ get a' 15 = .int .i64 (j : Int) ∧ j + m = fs.length ∧ GM w' e [.int .i64 n, sv, .bool nl, lv, uv] 0 (.slice none 0 0) false lw (.slice none 0 0) ∧ GL w' e lw (fl.take j) ∧ Fr [] w w' ∧ e.s1 ≤ w'.heap.size) fs.length ?_ ?_)
  · exact ⟨0, .slice none 0 0, hz220, hd220, g220_0, g220_1, g220_2, g220_5, g220_6, g220_7, g220_13, g220_14, g220_15, by omega, hgm0, ⟨by simpa using LOwn.nil, by simp [blk]⟩, hF215, Nat.le_of_eq hes1⟩
  · rintro m a221 w221 ⟨j, lw, hz221, hd221, g221_0, g221_1, g221_2, g221_5, g221_6, g221_7, g221_13, g221_14, g221_15, hjm, hgm, hgl, hfl, hSl⟩
    refine wp_seq_k fun K222 hK222 => ?_
    refine wp_reg ?_
    rw [wCo]
    refine wp_lss (k1 := .i64) (i := (j : Int)) (j := ((fs.length : Nat) : Int)) (by rw [eTm, g221_15]) (by rw [eTm, g221_14]) ?_
    refine wEn fun a223 ha223 => ?_
    have hz223 : a223.tmps.size = 54 := by rw [ha223]; exact ((sPu _ _ _).trans hz221)
    have hd223 : a223.defers = [] := by rw [ha223]; exact ((dPu _ _ _).trans hd221)
    have g223_0 : get a223 0 = .slice q fs.length cap := by rw [ha223, gPn (by decide), g221_0]
    have g223_1 : get a223 1 = .int .i64 ver := by rw [ha223, gPn (by decide), g221_1]
    have g223_2 : get a223 2 = .agg ([.int .i64 n, sv, .bool nl, lv, uv] : List Value).toArray := by rw [ha223, gPn (by decide), g221_2]
    have g223_5 : get a223 5 = .pointer (some ⟨e.b1, 0, none⟩) := by rw [ha223, gPn (by decide), g221_5]
    have g223_6 : get a223 6 = .pointer (some ⟨e.rb, 0, none⟩) := by rw [ha223, gPn (by decide), g221_6]
    have g223_7 : get a223 7 = .pointer (some ⟨e.ob, 0, none⟩) := by rw [ha223, gPn (by decide), g221_7]
    have g223_13 : get a223 13 = .slice q fs.length cap := by rw [ha223, gPn (by decide), g221_13]
    have g223_14 : get a223 14 = .int .i64 ((fs.length : Nat) : Int) := by rw [ha223, gPn (by decide), g221_14]
    have g223_15 : get a223 15 = .int .i64 (j : Int) := by rw [ha223, gPn (by decide), g221_15]
    have g223_16 : get a223 16 = .bool (decide (((j : Int) : Int) < (((fs.length : Nat) : Int) : Int))) := by rw [ha223, gPs (lt_sz hz221 (by decide))]
    clear ha223
    refine hK222 a223 w221 ?_
    refine wp_seq_k fun K224 hK224 => ?_
    refine wp_cond_split (t := decide (((j : Int) : Int) < (((fs.length : Nat) : Int) : Int))) (by rw [eTm, g223_16]) (fun hc225 => ?_) (fun hc225 => ?_)
    · have hjl : j < fs.length := by simpa using hc225
      obtain ⟨fd, hfd⟩ : ∃ fd, fs[j]? = some fd := ⟨fs[j], by simp [hjl]⟩
      obtain ⟨bl, ol, cl, hq, hbl2, hrl, hrep⟩ := hk j fd hfd
      obtain ⟨fsv, rfl, hsub⟩ := repF_iff.1 hrep
      have htk := take_at (l := fl) (x := g fd ver (atT l j)) (by rw [hfl0, fitL_at hfd, Nat.zero_add])
      have htl : (fl.take j).length = j := by simp; omega
      refine wp_skip ?_
      refine hK224 a223 w221 ?_
      refine wp_seq_k fun K226 hK226 => ?_
      refine wp_blockT ?_
      refine wp_seq_k fun K227 hK227 => ?_
      refine wp_reg ?_
      rw [wCo]
      refine wMv (v := .int .i64 (j : Int)) (by rw [eTm, g223_15]) ?_
      rw [wCo]
      refine wp_ixN (b := bl) (o := ol) (i := j) hs_T28 (by rw [eTm, gPn (by decide), g223_13, hq]) (by rw [eTm, gPn (by decide), g223_15]) hjl ?_
      rw [wCo]
      refine wp_loadFlat (cs := [.int .i64 fd.kind, .int .i64 fd.fr, .int .i64 fd.to, .int .i64 fd.nul, .int .i64 fd.tag, .int .i64 fd.df, .int .i64 fd.of, fsv]) (b := bl) (o := ol + j * 8) hFlT46 rfl (by rw [eTm, gPs (lt_sz ((sPu _ _ _).trans hz223) (by decide))]) (hfl.range hrl .nil) ?_
      rw [wCo]
      have hgs228 := hfl.size
      have hgs229 := (Fr.refl [] w221).size
      refine wp_allocL hFlT46 ?_
      rintro w230 f230 sz230 r230 th230
      have hF231 : Fr [] w w230 := hfl.tr f230
      have hL231_w221 : Fr [] w221 w230 := (Fr.refl [] w221).tr f230
      rw [wCo]
      refine wAs (v := .int .i64 (j : Int)) (by rw [eTm, gPn (by decide), gPn (by decide), gPn (by decide), gPs (lt_sz hz223 (by decide))]) ?_
      rw [wCo]
      refine wp_storeL (cs := [.int .i64 fd.kind, .int .i64 fd.fr, .int .i64 fd.to, .int .i64 fd.nul, .int .i64 fd.tag, .int .i64 fd.df, .int .i64 fd.of, fsv]) (o := 0) hFlT46 rfl (by rw [eTm, gPn (by decide), gPs (lt_sz ((sPu _ _ _).trans ((sPu _ _ _).trans ((sPu _ _ _).trans hz223))) (by decide))]) (by rw [eTm, gPn (by decide), gPn (by decide), gPs (lt_sz ((sPu _ _ _).trans ((sPu _ _ _).trans hz223)) (by decide))]) (by intro u hu; simp at hu; rcases hu with rfl | rfl | rfl | rfl | rfl | rfl | rfl | rfl <;> first | rfl | exact hsub.one) th230 ?_
      rintro w232 f232 sz232 r232 th232
      have hF232 : Fr [] w w232 := hF231.trans f232 (fun r hr => .inl (by simp at hr; subst hr; have := hfl.size; simp only; omega))
      have hL232_w221 : Fr [] w221 w232 := hL231_w221.trans f232 (fun r hr => .inl (by simp at hr; subst hr; have := (Fr.refl [] w221).size; simp only; omega))
      refine wEn fun a233 ha233 => ?_
      have hz233 : a233.tmps.size = 54 := by rw [ha233, pNo]; exact ((sPu _ _ _).trans ((sPu _ _ _).trans ((sPu _ _ _).trans ((sPu _ _ _).trans ((sPu _ _ _).trans hz223)))))
      have hd233 : a233.defers = [] := by rw [ha233, pNo]; exact ((dPu _ _ _).trans ((dPu _ _ _).trans ((dPu _ _ _).trans ((dPu _ _ _).trans ((dPu _ _ _).trans hd223)))))
      have g233_0 : get a233 0 = .slice q fs.length cap := by rw [ha233, pNo, gPn (by decide), gPn (by decide), gPn (by decide), gPn (by decide), gPn (by decide), g223_0]
      have g233_1 : get a233 1 = .int .i64 ver := by rw [ha233, pNo, gPn (by decide), gPn (by decide), gPn (by decide), gPn (by decide), gPn (by decide), g223_1]
      have g233_2 : get a233 2 = .agg ([.int .i64 n, sv, .bool nl, lv, uv] : List Value).toArray := by rw [ha233, pNo, gPn (by decide), gPn (by decide), gPn (by decide), gPn (by decide), gPn (by decide), g223_2]
      have g233_5 : get a233 5 = .pointer (some ⟨e.b1, 0, none⟩) := by rw [ha233, pNo, gPn (by decide), gPn (by decide), gPn (by decide), gPn (by decide), gPn (by decide), g223_5]
      have g233_6 : get a233 6 = .pointer (some ⟨e.rb, 0, none⟩) := by rw [ha233, pNo, gPn (by decide), gPn (by decide), gPn (by decide), gPn (by decide), gPn (by decide), g223_6]
      have g233_7 : get a233 7 = .pointer (some ⟨e.ob, 0, none⟩) := by rw [ha233, pNo, gPn (by decide), gPn (by decide), gPn (by decide), gPn (by decide), gPn (by decide), g223_7]
      have g233_8 : get a233 8 = .int .i64 (j : Int) := by rw [ha233, pNo, gPs (lt_sz ((sPu _ _ _).trans ((sPu _ _ _).trans ((sPu _ _ _).trans ((sPu _ _ _).trans hz223)))) (by decide))]
      have g233_9 : get a233 9 = .pointer (some ⟨w221.heap.size, 0, none⟩) := by rw [ha233, pNo, gPn (by decide), gPs (lt_sz ((sPu _ _ _).trans ((sPu _ _ _).trans ((sPu _ _ _).trans hz223))) (by decide))]
      have g233_13 : get a233 13 = .slice q fs.length cap := by rw [ha233, pNo, gPn (by decide), gPn (by decide), gPn (by decide), gPn (by decide), gPn (by decide), g223_13]
      have g233_14 : get a233 14 = .int .i64 ((fs.length : Nat) : Int) := by rw [ha233, pNo, gPn (by decide), gPn (by decide), gPn (by decide), gPn (by decide), gPn (by decide), g223_14]
      have g233_15 : get a233 15 = .int .i64 (j : Int) := by rw [ha233, pNo, gPn (by decide), gPn (by decide), gPn (by decide), gPn (by decide), gPn (by decide), g223_15]
      clear ha233
      refine hK227 a233 w232 ?_
      have hgm5 := hgm.kept hL232_w221 (by simp)
      have hgl5 := hgl.keep hL232_w221
      have hS5 : e.s1 ≤ w232.heap.size := Nat.le_trans hSl hL232_w221.size
      have hbl5 : ∀ b, blk lw = some b → b < w232.heap.size := fun b hb => by
        rcases hgl5.1.blk_in hb with h | h
        · have := hga b h; omega
        · exact h.2
      refine wp_drawR (os := [⟨some 20, .fieldAddr T26 (.tmp 7) 3, t15, p15, e15, none⟩, ⟨some 21, .load T23 (.tmp 20), t16, p16, e16, none⟩, ⟨some 22, .load T46 (.tmp 9), t17, p17, e17, none⟩, ⟨some 23, .move (.tmp 1), t18, p18, e18, none⟩, ⟨some 24, .load T26 (.tmp 5), t19, p19, e19, none⟩, ⟨some 25, .move (.tmp 8), t20, p20, e20, none⟩, ⟨some 26, .call ⟨.value (.func f33), #[(.tmp 24), (.tmp 25)], ct0⟩, t21, p21, e21, none⟩, ⟨some 27, .call ⟨.value (.func f32), #[(.tmp 22), (.tmp 23), (.tmp 26)], ct1⟩, t22, p22, e22, none⟩, ⟨some 28, .buildSlice T23 1 #[(0, .tmp 27)], t23, p23, e23, none⟩]) (rest := [⟨some 29, .call ⟨.builtin .append, #[(.tmp 21), (.tmp 28)], #[T23, T23]⟩, t24, p24, e24, none⟩, ⟨some 30, .fieldAddr T26 (.tmp 7) 3, t25, p25, e25, none⟩, ⟨none, .store T23 (.tmp 30) (.tmp 29), t26, p26, e26, none⟩]) [spC [] (.pointer (some ⟨e.ob, 3, none⟩)), spC [0] (lw), spC [] (.agg ([.int .i64 fd.kind, .int .i64 fd.fr, .int .i64 fd.to, .int .i64 fd.nul, .int .i64 fd.tag, .int .i64 fd.df, .int .i64 fd.of, fsv] : List Value).toArray), spC [] (.int .i64 ver), spC [] (.agg ([.int .i64 n, sv, .bool nl, lv, uv] : List Value).toArray), spC [] (.int .i64 (j : Int)), spR [4, 5] (fun x w' => ∃ xc : List Value, x = .agg xc.toArray ∧ RepT w' B xc (atT l j)), spR [2, 3, 6] (fun x w' => ∃ cs : List Value, x = .agg cs.toArray ∧ RepT w' (fun b => B b ∨ From w232.heap.size w' b) cs (g fd ver (atT l j))), spR [7] (fun x w' => ∃ (xb : Nat) (cs : List Value), x = .slice (some ⟨xb, 0, none⟩) 1 1 ∧ w232.heap.size ≤ xb ∧ w'.rangeAt xb 0 cs ∧ RepT w' (fun b => B b ∨ From w232.heap.size w' b) cs (g fd ver (atT l j)))] 20 [] hmx he5 (by simp [shape]) (by simp [plainO]) (by simp [spC, spR]) (by simp; omega) ⟨lCc _ _ _, lCc _ _ _, lCc _ _ _, lCc _ _ _, lCc _ _ _, lCc _ _ _, (fun v w1 w2 f h => by obtain ⟨cs, h1, h2⟩ := h; exact ⟨cs, h1, h2.kept f (by simp) (fun _ h => h)⟩), (fun v w1 w2 f h => by obtain ⟨cs, h1, h2⟩ := h; exact ⟨cs, h1, h2.kept f (by simp) (fun b hb => hb.imp (fun h => h) (From.mono f.size b))⟩), (fun v w1 w2 f h => by obtain ⟨xb, cs, h1, h2, h3, h4⟩ := h; exact ⟨xb, cs, h1, h2, f.range h3 .nil, h4.kept f (by simp) (fun b hb => hb.imp (fun h => h) (From.mono f.size b))⟩), trivial⟩ ?_ ?_
      · refine oCs ?_ ?_
        · refine op_c fun a' w' hk' hf' hd' K' hK' => ?_
          refine wFa (b := e.ob) (i := 0) (hFlT26.fld (by decide)) (by rw [eTm, hk'.get 7 (by omega), g233_7]) ?_
          rw [show (0 + 3 : Nat) = 3 from rfl]
          exact hK'
        refine oCs ?_ ?_
        · refine op_c fun a' w' hk' hf' hd' K' hK' => ?_
          refine wp_load (b := e.ob) (o := 3) (v := lw) hcT23 (by rw [eTm]; exact hd'.c (nd' := []) 0 (by simp) rfl) ((hgm5.kept hf' (by simp)).ro 3 _ rfl) ?_
          exact hK'
        refine oCs ?_ ?_
        · refine op_c fun a' w' hk' hf' hd' K' hK' => ?_
          refine wp_loadFlat (cs := [.int .i64 fd.kind, .int .i64 fd.fr, .int .i64 fd.to, .int .i64 fd.nul, .int .i64 fd.tag, .int .i64 fd.df, .int .i64 fd.of, fsv]) (b := w221.heap.size) (o := 0) hFlT46 rfl (by rw [eTm, hk'.get 9 (by omega), g233_9]) ((hf'.range r232 .nil)) ?_
          exact hK'
        refine oCs ?_ ?_
        · refine op_c fun a' w' hk' hf' hd' K' hK' => ?_
          refine wMv (v := .int .i64 ver) (by rw [eTm, hk'.get 1 (by omega), g233_1]) ?_
          exact hK'
        refine oCs ?_ ?_
        · refine op_c fun a' w' hk' hf' hd' K' hK' => ?_
          refine wp_loadFlat (cs := [.int .i64 n, sv, .bool nl, lv, uv]) (b := e.b1) (o := 0) hFlT26 rfl (by rw [eTm, hk'.get 5 (by omega), g233_5]) ((hgm5.kept hf' (by simp)).r1) ?_
          exact hK'
        refine oCs ?_ ?_
        · refine op_c fun a' w' hk' hf' hd' K' hK' => ?_
          refine wMv (v := .int .i64 (j : Int)) (by rw [eTm, hk'.get 8 (by omega), g233_8]) ?_
          exact hK'
        refine oCs ?_ ?_
        · refine op_r fun a' w' hk' hf' hd' K' hK' => ?_
          refine wCr (R := fun x wz => ∃ cs : List Value, x = .agg cs.toArray ∧ Fr [] w' wz ∧ ((∀ b, B b → b < w'.heap.size) → RepT wz B cs (atT l j))) (vs := #[.agg ([.int .i64 n, sv, .bool nl, lv, uv] : List Value).toArray, .int .i64 (j : Int)]) hAt.enters (by simp only [List.map_toArray, List.map_cons, List.map_nil]; rw [show a'.eval (.tmp 24) = Value.agg ([.int .i64 n, sv, .bool nl, lv, uv] : List Value).toArray from (by rw [eTm]; exact hd'.c (nd' := []) 4 (by simp) rfl), show a'.eval (.tmp 25) = Value.int .i64 (j : Int) from (by rw [eTm]; exact hd'.c (nd' := []) 5 (by simp) rfl)]) ((hAt.call w' B _ (.mk n s nl l u) j (ht0.kept (hF232.tr hf') (by simp) (fun _ h => h))).mono (by rintro e wz ⟨cs, rfl, h1, h2⟩; exact ⟨_, rfl, cs, rfl, h1, h2⟩)) ?_
          rintro _ w234 ⟨xc, rfl, fr234, hxr234⟩
          exact hK' _ w234 ⟨xc, rfl, hxr234 (fun b hb => Nat.lt_of_lt_of_le (hB b hb) (hF232.tr hf').size)⟩ fr234
        refine oCs ?_ ?_
        · refine op_r fun a' w' hk' hf' hd' K' hK' => ?_
          obtain ⟨xc, hxc, hxt⟩ : ∃ xc : List Value, get a' 26 = .agg xc.toArray ∧ RepT w' B xc (atT l j) := hd'.at (d := 6) (by simp) rfl
          refine wCr (R := fun x wz => ∃ cs : List Value, x = .agg cs.toArray ∧ Fr [] w' wz ∧ RepT wz (fun b => B b ∨ From w'.heap.size wz b) cs (g fd ver (atT l j))) (vs := #[.agg ([.int .i64 fd.kind, .int .i64 fd.fr, .int .i64 fd.to, .int .i64 fd.nul, .int .i64 fd.tag, .int .i64 fd.df, .int .i64 fd.of, fsv] : List Value).toArray, .int .i64 ver, .agg xc.toArray]) (hFd fd (List.mem_of_getElem? hfd)).enters (by simp only [List.map_toArray, List.map_cons, List.map_nil]; rw [show a'.eval (.tmp 22) = Value.agg ([.int .i64 fd.kind, .int .i64 fd.fr, .int .i64 fd.to, .int .i64 fd.nul, .int .i64 fd.tag, .int .i64 fd.df, .int .i64 fd.of, fsv] : List Value).toArray from (by rw [eTm]; exact hd'.c (nd' := []) 2 (by simp) rfl), show a'.eval (.tmp 23) = Value.int .i64 ver from (by rw [eTm]; exact hd'.c (nd' := []) 3 (by simp) rfl), show a'.eval (.tmp 26) = Value.agg xc.toArray from (by rw [eTm]; exact hxc)]) (((hFd fd (List.mem_of_getElem? hfd)).call w' A B ver _ xc (atT l j) (hrep.kept (hF232.tr hf') (by simp) (fun _ h => h)) hxt (fun b hb => Nat.lt_of_lt_of_le (hA b hb) (hF232.tr hf').size) (fun b hb => Nat.lt_of_lt_of_le (hB b hb) (hF232.tr hf').size)).mono (by rintro e wz ⟨cs, rfl, h1, h2⟩; exact ⟨_, rfl, cs, rfl, h1, h2⟩)) ?_
          rintro _ w235 ⟨cs, rfl, fr235, hct235⟩
          exact hK' _ w235 ⟨cs, rfl, hct235.kept (Fr.refl [] _) (by simp) (fun b hb => hb.imp (fun h => h) (fun h => ⟨Nat.le_trans hf'.size h.1, h.2⟩))⟩ fr235
        refine oCs ?_ ?_
        · refine op_r fun a' w' hk' hf' hd' K' hK' => ?_
          obtain ⟨cs, hcv, hct⟩ : ∃ cs : List Value, get a' 27 = .agg cs.toArray ∧ RepT w' (fun b => B b ∨ From w232.heap.size w' b) cs (g fd ver (atT l j)) := hd'.at (d := 7) (by simp) rfl
          have hwf := hf'.size
          refine wp_slice1 hs_T23 hz_T26 rfl (by omega) (cs := cs) (by rw [eTm, hcv]; rfl) hct.length fun _ => ?_
          have hal := Fr.alloc [] w' (.cells cs.toArray T26)
          exact hK' _ _ ⟨_, cs, rfl, hwf, range_new w' cs.toArray T26 (0, 0), hct.kept hal (by simp) (fun b hb => hb.imp (fun h => h) (From.mono hal.size b))⟩ hal
        exact opsOk_nil
      intro a237 w237 k237 f237 hd_237
      have g237_0 : get a237 0 = .slice q fs.length cap := by rw [k237.get 0 (by omega), g233_0]
      have g237_1 : get a237 1 = .int .i64 ver := by rw [k237.get 1 (by omega), g233_1]
      have g237_2 : get a237 2 = .agg ([.int .i64 n, sv, .bool nl, lv, uv] : List Value).toArray := by rw [k237.get 2 (by omega), g233_2]
      have g237_5 : get a237 5 = .pointer (some ⟨e.b1, 0, none⟩) := by rw [k237.get 5 (by omega), g233_5]
      have g237_6 : get a237 6 = .pointer (some ⟨e.rb, 0, none⟩) := by rw [k237.get 6 (by omega), g233_6]
      have g237_7 : get a237 7 = .pointer (some ⟨e.ob, 0, none⟩) := by rw [k237.get 7 (by omega), g233_7]
      have g237_13 : get a237 13 = .slice q fs.length cap := by rw [k237.get 13 (by omega), g233_13]
      have g237_14 : get a237 14 = .int .i64 ((fs.length : Nat) : Int) := by rw [k237.get 14 (by omega), g233_14]
      have g237_15 : get a237 15 = .int .i64 (j : Int) := by rw [k237.get 15 (by omega), g233_15]
      have hz237 : a237.tmps.size = 54 := k237.size.trans hz233
      have hd237 : a237.defers = [] := k237.defers.trans hd233
      have g237_21 : get a237 21 = lw := hd_237.c (nd' := [0]) 1 (by simp) rfl
      have hF238 : Fr [] w w237 := hF232.tr f237
      have hL238_w232 : Fr [] w232 w237 := (Fr.refl [] w232).tr f237
      have rb239 := f237.range r232 .nil
      obtain ⟨xb, cs, hxv, hxb, hxr, hxt2⟩ : ∃ (xb : Nat) (cs : List Value), get a237 28 = .slice (some ⟨xb, 0, none⟩) 1 1 ∧ w232.heap.size ≤ xb ∧ w237.rangeAt xb 0 cs ∧ RepT w237 (fun b => B b ∨ From w232.heap.size w237 b) cs (g fd ver (atT l j)) := hd_237.at (d := 8) (by simp) rfl
      rw [wCo]
      have hglN := hgl5.keep hL238_w232
      refine wp_gl (s := w232.heap.size) (y := (g fd ver (atT l j))) hs_T23 hz_T26 hb_T23 (by rw [eTm, g237_21]) (by rw [eTm, hxv]) hglN (by omega) hga hg01 (Nat.le_trans hS5 hL238_w232.size) hxr (by rw [heA]; exact hxt2) hS5 hbl5 ?_
      rintro v240 wv240 fv240 hg240
      have hF240 : Fr [] w wv240 := hF238.trans fv240 (fun r hr => .inl (by have := hglN.2 _ (spare_blk r hr); omega))
      have hgmN := (hgm5.kept hL238_w232 (by simp)).kept fv240 (fun r hr => hglN.2 _ (spare_blk r hr))
      rw [wCo]
      refine wFa (b := e.ob) (i := 0) (hFlT26.fld (by decide)) (by rw [eTm, gPn (by decide), g237_7]) ?_
      rw [show (0 + 3 : Nat) = 3 from rfl]
      rw [wCo]
      refine wp_store (b := e.ob) (o := 3) (v := v240) hcT23 (by rw [eTm, gPs (lt_sz ((sPu _ _ _).trans hz237) (by decide))]) (by rw [eTm, gPn (by decide), gPs (lt_sz hz237 (by decide))]) hg240.1.one (there_part hgmN.to (by omega) (by omega)) ?_
      obtain ⟨hgmS, hfS⟩ := hgmN.setL v240
      have hgS := hg240.setO hga hgmN.ob0 hgmN.ob1 hfS
      have hFS : Fr [] w _ := hF240.trans hfS (fun r hr => .inl (by simp at hr; subst hr; have := hgmN.ob0; simp only; omega))
      generalize hwS : wv240.setCell ⟨e.ob, 3, none⟩ v240 = wS at hgmS hfS hgS hFS ⊢
      clear hwS
      refine wEn fun a241 ha241 => ?_
      have hz241 : a241.tmps.size = 54 := by rw [ha241, pNo]; exact ((sPu _ _ _).trans ((sPu _ _ _).trans hz237))
      have hd241 : a241.defers = [] := by rw [ha241, pNo]; exact ((dPu _ _ _).trans ((dPu _ _ _).trans hd237))
      have g241_0 : get a241 0 = .slice q fs.length cap := by rw [ha241, pNo, gPn (by decide), gPn (by decide), g237_0]
      have g241_1 : get a241 1 = .int .i64 ver := by rw [ha241, pNo, gPn (by decide), gPn (by decide), g237_1]
      have g241_2 : get a241 2 = .agg ([.int .i64 n, sv, .bool nl, lv, uv] : List Value).toArray := by rw [ha241, pNo, gPn (by decide), gPn (by decide), g237_2]
      have g241_5 : get a241 5 = .pointer (some ⟨e.b1, 0, none⟩) := by rw [ha241, pNo, gPn (by decide), gPn (by decide), g237_5]
      have g241_6 : get a241 6 = .pointer (some ⟨e.rb, 0, none⟩) := by rw [ha241, pNo, gPn (by decide), gPn (by decide), g237_6]
      have g241_7 : get a241 7 = .pointer (some ⟨e.ob, 0, none⟩) := by rw [ha241, pNo, gPn (by decide), gPn (by decide), g237_7]
      have g241_13 : get a241 13 = .slice q fs.length cap := by rw [ha241, pNo, gPn (by decide), gPn (by decide), g237_13]
      have g241_14 : get a241 14 = .int .i64 ((fs.length : Nat) : Int) := by rw [ha241, pNo, gPn (by decide), gPn (by decide), g237_14]
      have g241_15 : get a241 15 = .int .i64 (j : Int) := by rw [ha241, pNo, gPn (by decide), gPn (by decide), g237_15]
      clear ha241
      refine hK226 a241 wS ?_
      refine wp_reg ?_
      rw [wCo]
      refine wp_add (k1 := .i64) (i := (j : Int)) (j := 1) (by rw [eTm, g241_15]) rfl ?_
      rw [show (IntKind.i64.wrap (((j : Int) : Int) + (1 : Int)) : Int) = (((j + 1 : Nat) : Int) : Int) from by simp only [IntKind.wrap, IntKind.bits, IntKind.signed]; simp; omega]
      rw [wCo]
      refine wMv (v := .int .i64 ((j + 1 : Nat) : Int)) (by rw [eTm, gPs (lt_sz hz241 (by decide))]) ?_
      refine wEn fun a242 ha242 => ?_
      have hz242 : a242.tmps.size = 54 := by rw [ha242]; exact ((sPu _ _ _).trans ((sPu _ _ _).trans hz241))
      have hd242 : a242.defers = [] := by rw [ha242]; exact ((dPu _ _ _).trans ((dPu _ _ _).trans hd241))
      have g242_0 : get a242 0 = .slice q fs.length cap := by rw [ha242, gPn (by decide), gPn (by decide), g241_0]
      have g242_1 : get a242 1 = .int .i64 ver := by rw [ha242, gPn (by decide), gPn (by decide), g241_1]
      have g242_2 : get a242 2 = .agg ([.int .i64 n, sv, .bool nl, lv, uv] : List Value).toArray := by rw [ha242, gPn (by decide), gPn (by decide), g241_2]
      have g242_5 : get a242 5 = .pointer (some ⟨e.b1, 0, none⟩) := by rw [ha242, gPn (by decide), gPn (by decide), g241_5]
      have g242_6 : get a242 6 = .pointer (some ⟨e.rb, 0, none⟩) := by rw [ha242, gPn (by decide), gPn (by decide), g241_6]
      have g242_7 : get a242 7 = .pointer (some ⟨e.ob, 0, none⟩) := by rw [ha242, gPn (by decide), gPn (by decide), g241_7]
      have g242_13 : get a242 13 = .slice q fs.length cap := by rw [ha242, gPn (by decide), gPn (by decide), g241_13]
      have g242_14 : get a242 14 = .int .i64 ((fs.length : Nat) : Int) := by rw [ha242, gPn (by decide), gPn (by decide), g241_14]
      have g242_15 : get a242 15 = .int .i64 ((j + 1 : Nat) : Int) := by rw [ha242, gPs (lt_sz ((sPu _ _ _).trans hz241) (by decide))]
      clear ha242
      have hSz := hfS.size
      have hSv := fv240.size
      have hS5' := hL238_w232.size
      exact ⟨m - 1, by omega, j + 1, _, hz242, hd242, g242_0, g242_1, g242_2, g242_5, g242_6, g242_7, g242_13, g242_14, g242_15, by omega, hgmS, by rw [htk]; exact hgS, hFS, by omega⟩
    · have hj0 : j = fs.length := by simp at hc225; omega
      rw [hj0, ← hfll, List.take_length] at hgl
      refine wp_exit ?_
      show K218 a223 w221
      refine hK218 a223 w221 (tUp ?_)
      refine tId (wp_seq_k fun K243 hK243 => ?_)
      refine wp_seq_k fun K244 hK244 => ?_
      refine wp_reg ?_
      rw [wCo]
      refine wMv (v := .slice q fs.length cap) (by rw [eTm, g223_0]) ?_
      rw [wCo]
      refine wFa (b := e.b1) (i := 0) (hFlT26.fld (by decide)) (by rw [eTm, gPn (by decide), g223_5]) ?_
      rw [show (0 + 4 : Nat) = 4 from rfl]
      rw [wCo]
      refine wp_load (b := e.b1) (o := 4) (v := uv) hcT24 (by rw [eTm, gPs (lt_sz ((sPu _ _ _).trans hz223) (by decide))]) (hgm.r1 4 _ rfl) ?_
      rw [wCo]
      refine wCr (R := fun x wz => Fr [] w221 wz ∧ TagsR wz (fun b => B b ∨ From w221.heap.size wz b) x (unknownW fs u)) (vs := #[.slice q fs.length cap, uv]) hUn.enters (by simp only [List.map_toArray, List.map_cons, List.map_nil]; rw [show (((a223.put (some 32) (.slice q fs.length cap)).put (some 33) (.pointer (some ⟨e.b1, 4, none⟩))).put (some 34) uv).eval (.tmp 32) = Value.slice q fs.length cap from (by rw [eTm, gPn (by decide), gPn (by decide), gPs (lt_sz hz223 (by decide))]), show (((a223.put (some 32) (.slice q fs.length cap)).put (some 33) (.pointer (some ⟨e.b1, 4, none⟩))).put (some 34) uv).eval (.tmp 34) = uv from (by rw [eTm, gPs (lt_sz ((sPu _ _ _).trans ((sPu _ _ _).trans hz223)) (by decide))])]) ((hUn.call w221 A B _ fs uv u (hfs.kept hfl (by simp) (fun _ h => h)) htg (hu.kept hfl (by simp) (fun _ h => h)) (fun b hb => Nat.lt_of_lt_of_le (hB b hb) hfl.size)).mono (by rintro e wz ⟨x, rfl, h1, h2⟩; exact ⟨x, rfl, h1, h2⟩)) ?_
      rintro x245 w245 ⟨fr245, hus⟩
      obtain ⟨uq, ucap, rfl, -, hub, hue⟩ := hus.sl2
      have hgm8 := hgm.kept fr245 (by simp)
      have h78 := fr245.size
      have hL8 := hgl.1.kept fr245 (by simp) (fun _ h => h)
      have hnob : ∀ b, (B b ∨ From w221.heap.size w245 b) → b ≠ e.ob := by
        have h1 := hgm.ob0; have h2 := hgm.ob1; have h3 := hgm.top
        rintro b (hb | hb) h
        · have := hga b (heA ▸ hb); omega
        · have := hb.1; omega
      have hF246 : Fr [] w w245 := hfl.tr fr245
      rw [wCo]
      refine wp_lenS (n := (unknownW fs u).length) hsT24 (by rw [eTm, gPs (lt_sz ((sPu _ _ _).trans ((sPu _ _ _).trans ((sPu _ _ _).trans hz223))) (by decide))]) ?_
      rw [wCo]
      refine wMv (v := .int .i64 0) rfl ?_
      refine wEn fun a247 ha247 => ?_
      have hz247 : a247.tmps.size = 54 := by rw [ha247]; exact ((sPu _ _ _).trans ((sPu _ _ _).trans ((sPu _ _ _).trans ((sPu _ _ _).trans ((sPu _ _ _).trans ((sPu _ _ _).trans hz223))))))
      have hd247 : a247.defers = [] := by rw [ha247]; exact ((dPu _ _ _).trans ((dPu _ _ _).trans ((dPu _ _ _).trans ((dPu _ _ _).trans ((dPu _ _ _).trans ((dPu _ _ _).trans hd223))))))
      have g247_5 : get a247 5 = .pointer (some ⟨e.b1, 0, none⟩) := by rw [ha247, gPn (by decide), gPn (by decide), gPn (by decide), gPn (by decide), gPn (by decide), gPn (by decide), g223_5]
      have g247_6 : get a247 6 = .pointer (some ⟨e.rb, 0, none⟩) := by rw [ha247, gPn (by decide), gPn (by decide), gPn (by decide), gPn (by decide), gPn (by decide), gPn (by decide), g223_6]
      have g247_7 : get a247 7 = .pointer (some ⟨e.ob, 0, none⟩) := by rw [ha247, gPn (by decide), gPn (by decide), gPn (by decide), gPn (by decide), gPn (by decide), gPn (by decide), g223_7]
      have g247_35 : get a247 35 = .slice uq ((unknownW fs u).length) ucap := by rw [ha247, gPn (by decide), gPn (by decide), gPs (lt_sz ((sPu _ _ _).trans ((sPu _ _ _).trans ((sPu _ _ _).trans hz223))) (by decide))]
      have g247_36 : get a247 36 = .int .i64 (((unknownW fs u).length : Nat) : Int) := by rw [ha247, gPn (by decide), gPs (lt_sz ((sPu _ _ _).trans ((sPu _ _ _).trans ((sPu _ _ _).trans ((sPu _ _ _).trans hz223)))) (by decide))]
      have g247_37 : get a247 37 = .int .i64 0 := by rw [ha247, gPs (lt_sz ((sPu _ _ _).trans ((sPu _ _ _).trans ((sPu _ _ _).trans ((sPu _ _ _).trans ((sPu _ _ _).trans hz223))))) (by decide))]
      clear ha247
      refine hK244 a247 w245 ?_
      refine wp_block (wp_loop_ghost (fun (m2 : Nat) a' w' => ∃ (j : Nat) (uw : Value), a'.tmps.size = 54 ∧ a'.defers = [] ∧ get a' 5 = .pointer (some ⟨e.b1, 0, none⟩) ∧ get a' 6 = .pointer (some ⟨e.rb, 0, none⟩) ∧ get a' 7 = .pointer (some ⟨e.ob, 0, none⟩) ∧ get a' 35 = .slice uq ((unknownW fs u).length) ucap ∧ get a' 36 = .int .i64 (((unknownW fs u).length : Nat) : Int) ∧ get a' 37 = .int .i64 (j : Int) ∧ j + m2 = (unknownW fs u).length ∧ GM w' e [.int .i64 n, sv, .bool nl, lv, uv] 0 (.slice none 0 0) false lw uw ∧ LOwn w' (e.C w221) lw fl ∧ TOwn w' (fun b => B b ∨ From w221.heap.size w' b) uw (((unknownW fs u).take j).map fun p => (p.1, wholeS p.2)) ∧ (∀ b, blk uw = some b → w245.heap.size ≤ b) ∧ Fr [] w w' ∧ Fr [⟨e.ob, 0, 5⟩] w245 w') ((unknownW fs u).length) ?_ ?_)
      · exact ⟨0, .slice none 0 0, hz247, hd247, g247_5, g247_6, g247_7, g247_35, g247_36, g247_37, by omega, hgm8, hL8, by simpa using TOwn.nil, by simp [blk], hF246, Fr.refl _ _⟩
      · rintro m2 a248 w248 ⟨j, uw, hz248, hd248, g248_5, g248_6, g248_7, g248_35, g248_36, g248_37, hjm2, hgm2, hL2, hU2, hub2, hfl2, hf8⟩
        refine wp_seq_k fun K249 hK249 => ?_
        refine wp_reg ?_
        rw [wCo]
        refine wp_lss (k1 := .i64) (i := (j : Int)) (j := (((unknownW fs u).length : Nat) : Int)) (by rw [eTm, g248_37]) (by rw [eTm, g248_36]) ?_
        refine wEn fun a250 ha250 => ?_
        have hz250 : a250.tmps.size = 54 := by rw [ha250]; exact ((sPu _ _ _).trans hz248)
        have hd250 : a250.defers = [] := by rw [ha250]; exact ((dPu _ _ _).trans hd248)
        have g250_5 : get a250 5 = .pointer (some ⟨e.b1, 0, none⟩) := by rw [ha250, gPn (by decide), g248_5]
        have g250_6 : get a250 6 = .pointer (some ⟨e.rb, 0, none⟩) := by rw [ha250, gPn (by decide), g248_6]
        have g250_7 : get a250 7 = .pointer (some ⟨e.ob, 0, none⟩) := by rw [ha250, gPn (by decide), g248_7]
        have g250_35 : get a250 35 = .slice uq ((unknownW fs u).length) ucap := by rw [ha250, gPn (by decide), g248_35]
        have g250_36 : get a250 36 = .int .i64 (((unknownW fs u).length : Nat) : Int) := by rw [ha250, gPn (by decide), g248_36]
        have g250_37 : get a250 37 = .int .i64 (j : Int) := by rw [ha250, gPn (by decide), g248_37]
        have g250_38 : get a250 38 = .bool (decide (((j : Int) : Int) < ((((unknownW fs u).length : Nat) : Int) : Int))) := by rw [ha250, gPs (lt_sz hz248 (by decide))]
        clear ha250
        refine hK249 a250 w248 ?_
        refine wp_seq_k fun K251 hK251 => ?_
        refine wp_cond_split (t := decide (((j : Int) : Int) < ((((unknownW fs u).length : Nat) : Int) : Int))) (by rw [eTm, g250_38]) (fun hc252 => ?_) (fun hc252 => ?_)
        · have hjl : j < (unknownW fs u).length := by simpa using hc252
          obtain ⟨⟨kk, x⟩, hp⟩ : ∃ p, (unknownW fs u)[j]? = some p := ⟨(unknownW fs u)[j], by simp [hjl]⟩
          obtain ⟨tb0, to0, xv, huq, htb, hkk, hrt, hox⟩ := hue j kk x hp
          have hutk := take_at hp
          have hul : (((unknownW fs u).take j).map fun p => (p.1, wholeS p.2)).length = j := by simp; omega
          refine wp_skip ?_
          refine hK251 a250 w248 ?_
          refine wp_seq_k fun K253 hK253 => ?_
          refine wp_blockT ?_
          refine wp_seq_k fun K254 hK254 => ?_
          refine wp_reg ?_
          rw [wCo]
          refine wp_ixN (b := tb0) (o := to0) (i := j) hs_T24 (by rw [eTm, g250_35, huq]) (by rw [eTm, g250_37]) hjl ?_
          rw [wCo]
          refine wp_loadFlat (cs := [.int .u32 ((kk : Nat) : Int), xv]) (b := tb0) (o := to0 + j * 2) hFlT55 rfl (by rw [eTm, gPs (lt_sz hz250 (by decide))]) (hf8.range hrt (.cons (.inl fun h => hnob _ htb h.symm) .nil)) ?_
          rw [wCo]
          have hgs255 := hfl2.size
          have hgs256 := (Fr.refl [] w248).size
          refine wp_allocL hFlT55 ?_
          rintro w257 f257 sz257 r257 th257
          have hF258 : Fr [] w w257 := hfl2.tr f257
          have hL258_w248 : Fr [] w248 w257 := (Fr.refl [] w248).tr f257
          rw [wCo]
          refine wp_storeL (cs := [.int .u32 ((kk : Nat) : Int), xv]) (o := 0) hFlT55 rfl (by rw [eTm, gPs (lt_sz ((sPu _ _ _).trans ((sPu _ _ _).trans hz250)) (by decide))]) (by rw [eTm, gPn (by decide), gPs (lt_sz ((sPu _ _ _).trans hz250) (by decide))]) (by intro u hu; simp at hu; rcases hu with rfl | rfl <;> first | rfl | exact hox.one) th257 ?_
          rintro w259 f259 sz259 r259 th259
          have hF259 : Fr [] w w259 := hF258.trans f259 (fun r hr => .inl (by simp at hr; subst hr; have := hfl2.size; simp only; omega))
          have hL259_w248 : Fr [] w248 w259 := hL258_w248.trans f259 (fun r hr => .inl (by simp at hr; subst hr; have := (Fr.refl [] w248).size; simp only; omega))
          refine wEn fun a260 ha260 => ?_
          have hz260 : a260.tmps.size = 54 := by rw [ha260, pNo]; exact ((sPu _ _ _).trans ((sPu _ _ _).trans ((sPu _ _ _).trans hz250)))
          have hd260 : a260.defers = [] := by rw [ha260, pNo]; exact ((dPu _ _ _).trans ((dPu _ _ _).trans ((dPu _ _ _).trans hd250)))
          have g260_5 : get a260 5 = .pointer (some ⟨e.b1, 0, none⟩) := by rw [ha260, pNo, gPn (by decide), gPn (by decide), gPn (by decide), g250_5]
          have g260_6 : get a260 6 = .pointer (some ⟨e.rb, 0, none⟩) := by rw [ha260, pNo, gPn (by decide), gPn (by decide), gPn (by decide), g250_6]
          have g260_7 : get a260 7 = .pointer (some ⟨e.ob, 0, none⟩) := by rw [ha260, pNo, gPn (by decide), gPn (by decide), gPn (by decide), g250_7]
          have g260_11 : get a260 11 = .pointer (some ⟨w248.heap.size, 0, none⟩) := by rw [ha260, pNo, gPs (lt_sz ((sPu _ _ _).trans ((sPu _ _ _).trans hz250)) (by decide))]
          have g260_35 : get a260 35 = .slice uq ((unknownW fs u).length) ucap := by rw [ha260, pNo, gPn (by decide), gPn (by decide), gPn (by decide), g250_35]
          have g260_36 : get a260 36 = .int .i64 (((unknownW fs u).length : Nat) : Int) := by rw [ha260, pNo, gPn (by decide), gPn (by decide), gPn (by decide), g250_36]
          have g260_37 : get a260 37 = .int .i64 (j : Int) := by rw [ha260, pNo, gPn (by decide), gPn (by decide), gPn (by decide), g250_37]
          clear ha260
          refine hK254 a260 w259 ?_
          have hgm10 := hgm2.kept hL259_w248 (by simp)
          have hox10 := (hox.kept hf8 (fun r hr hb => by simp at hr; subst hr; exact hnob _ hb rfl) (fun _ h => h)).kept hL259_w248 (by simp) (fun _ h => h)
          refine wp_drawR (os := [⟨some 41, .fieldAddr T26 (.tmp 7) 4, t40, p40, e40, none⟩, ⟨some 42, .load T24 (.tmp 41), t41, p41, e41, none⟩, ⟨some 43, .fieldAddr T55 (.tmp 11) 0, t42, p42, e42, none⟩, ⟨some 44, .load T53 (.tmp 43), t43, p43, e43, none⟩, ⟨some 45, .fieldAddr T55 (.tmp 11) 1, t44, p44, e44, none⟩, ⟨some 46, .load T22 (.tmp 45), t45, p45, e45, none⟩, ⟨some 47, .call ⟨.value (.func f35), #[(.tmp 46)], ct3⟩, t46, p46, e46, none⟩, ⟨some 48, .build T55 #[(0, .tmp 44), (1, .tmp 47)], t47, p47, e47, none⟩, ⟨some 49, .buildSlice T24 1 #[(0, .tmp 48)], t48, p48, e48, none⟩]) (rest := [⟨some 50, .call ⟨.builtin .append, #[(.tmp 42), (.tmp 49)], #[T24, T24]⟩, t49, p49, e49, none⟩, ⟨some 51, .fieldAddr T26 (.tmp 7) 4, t50, p50, e50, none⟩, ⟨none, .store T24 (.tmp 51) (.tmp 50), t51, p51, e51, none⟩]) [spC [] (.pointer (some ⟨e.ob, 4, none⟩)), spC [0] (uw), spC [] (.pointer (some ⟨w248.heap.size, 0, none⟩)), spC [2] (.int .u32 ((kk : Nat) : Int)), spC [] (.pointer (some ⟨w248.heap.size, 1, none⟩)), spC [4] (xv), spR [5] (fun y w' => OctE w' (fun b => B b ∨ From w221.heap.size w245 b) y (wholeS x)), spR [3, 6] (fun z w' => ∃ y, z = .agg ([.int .u32 ((kk : Nat) : Int), y] : List Value).toArray ∧ OctE w' (fun b => B b ∨ From w221.heap.size w245 b) y (wholeS x)), spR [7] (fun z w' => ∃ (xb : Nat) (y : Value), z = .slice (some ⟨xb, 0, none⟩) 1 1 ∧ w259.heap.size ≤ xb ∧ w'.rangeAt xb 0 [.int .u32 ((kk : Nat) : Int), y] ∧ OctE w' (fun b => B b ∨ From w221.heap.size w245 b) y (wholeS x))] 41 [] hmx he10 (by simp [shape]) (by simp [plainO]) (by simp [spC, spR]) (by simp; omega) ⟨lCc _ _ _, lCc _ _ _, lCc _ _ _, lCc _ _ _, lCc _ _ _, lCc _ _ _, (fun v w1 w2 f h => OctE.kept h f (by simp) (fun _ h => h)), (fun v w1 w2 f h => by obtain ⟨y, h1, h2⟩ := h; exact ⟨y, h1, h2.kept f (by simp) (fun _ h => h)⟩), (fun v w1 w2 f h => by obtain ⟨xb, y, h1, h2, h3, h4⟩ := h; exact ⟨xb, y, h1, h2, f.range h3 .nil, h4.kept f (by simp) (fun _ h => h)⟩), trivial⟩ ?_ ?_
          · refine oCs ?_ ?_
            · refine op_c fun a' w' hk' hf' hd' K' hK' => ?_
              refine wFa (b := e.ob) (i := 0) (hFlT26.fld (by decide)) (by rw [eTm, hk'.get 7 (by omega), g260_7]) ?_
              rw [show (0 + 4 : Nat) = 4 from rfl]
              exact hK'
            refine oCs ?_ ?_
            · refine op_c fun a' w' hk' hf' hd' K' hK' => ?_
              refine wp_load (b := e.ob) (o := 4) (v := uw) hcT24 (by rw [eTm]; exact hd'.c (nd' := []) 0 (by simp) rfl) ((hgm10.kept hf' (by simp)).ro 4 _ rfl) ?_
              exact hK'
            refine oCs ?_ ?_
            · refine op_c fun a' w' hk' hf' hd' K' hK' => ?_
              refine wFa (b := w248.heap.size) (i := 0) (hFlT55.fld (by decide)) (by rw [eTm, hk'.get 11 (by omega), g260_11]) ?_
              rw [show (0 + 0 : Nat) = 0 from rfl]
              exact hK'
            refine oCs ?_ ?_
            · refine op_c fun a' w' hk' hf' hd' K' hK' => ?_
              refine wp_load (b := w248.heap.size) (o := 0) (v := .int .u32 ((kk : Nat) : Int)) hcT53 (by rw [eTm]; exact hd'.c (nd' := []) 2 (by simp) rfl) (range_cons.1 (hf'.range r259 .nil)).1 ?_
              exact hK'
            refine oCs ?_ ?_
            · refine op_c fun a' w' hk' hf' hd' K' hK' => ?_
              refine wFa (b := w248.heap.size) (i := 0) (hFlT55.fld (by decide)) (by rw [eTm, hk'.get 11 (by omega), g260_11]) ?_
              rw [show (0 + 1 : Nat) = 1 from rfl]
              exact hK'
            refine oCs ?_ ?_
            · refine op_c fun a' w' hk' hf' hd' K' hK' => ?_
              refine wp_load (b := w248.heap.size) (o := 1) (v := xv) hcT22 (by rw [eTm]; exact hd'.c (nd' := []) 4 (by simp) rfl) (range_one.1 (range_cons.1 (hf'.range r259 .nil)).2) ?_
              exact hK'
            refine oCs ?_ ?_
            · refine op_r fun a' w' hk' hf' hd' K' hK' => ?_
              refine wCr (R := fun y wz => OctE wz (fun b => B b ∨ From w221.heap.size w245 b) y (wholeS x) ∧ w' = wz) (vs := #[xv]) hWh.enters (by simp only [List.map_toArray, List.map_cons, List.map_nil]; rw [show a'.eval (.tmp 46) = xv from (by rw [eTm]; exact hd'.c (nd' := [4]) 5 (by simp) rfl)]) ((hWh.call w' _ xv x (hox10.kept hf' (by simp) (fun _ h => h))).mono (by rintro e wz ⟨y, rfl, h1, rfl⟩; exact ⟨y, rfl, h1, rfl⟩)) ?_
              rintro x261 _ ⟨hx261, rfl⟩
              exact hK' x261 _ hx261 (Fr.refl [] _)
            refine oCs ?_ ?_
            · refine op_r fun a' w' hk' hf' hd' K' hK' => ?_
              have hyo : OctE w' (fun b => B b ∨ From w221.heap.size w245 b) (get a' 47) (wholeS x) := hd'.at (d := 6) (by simp) rfl
              refine wp_buildL (z := zTag) (ps := [(0, .tmp 44), (1, .tmp 47)]) (vs := [(0, .int .u32 ((kk : Nat) : Int)), (1, get a' 47)]) hFlT55 (by simp only [List.map_nil, List.map_cons]; rw [show a'.eval (.tmp 44) = Value.int .u32 ((kk : Nat) : Int) from (by rw [eTm]; exact hd'.c (nd' := [2]) 3 (by simp) rfl)]; rfl) (by intro p hp; simp at hp; rcases hp with rfl | rfl; exact ⟨by simp [zTag], rfl⟩; exact ⟨by simp [zTag], hyo.one⟩) ?_
              exact hK' _ _ ⟨_, rfl, hyo⟩ (Fr.refl [] _)
            refine oCs ?_ ?_
            · refine op_r fun a' w' hk' hf' hd' K' hK' => ?_
              obtain ⟨y, hyv, hyo⟩ : ∃ y, get a' 48 = .agg ([.int .u32 ((kk : Nat) : Int), y] : List Value).toArray ∧ OctE w' (fun b => B b ∨ From w221.heap.size w245 b) y (wholeS x) := hd'.at (d := 7) (by simp) rfl
              have hwf := hf'.size
              refine wp_slice1 hs_T24 hz_T55 rfl (by omega) (cs := [.int .u32 ((kk : Nat) : Int), y]) (by rw [eTm, hyv]; rfl) rfl fun _ => ?_
              have hal := Fr.alloc [] w' (.cells ([.int .u32 ((kk : Nat) : Int), y] : List Value).toArray T55)
              exact hK' _ _ ⟨_, y, rfl, hwf, range_new w' _ T55 (0, 0), hyo.kept hal (by simp) (fun _ h => h)⟩ hal
            exact opsOk_nil
          intro a262 w262 k262 f262 hd_262
          have g262_5 : get a262 5 = .pointer (some ⟨e.b1, 0, none⟩) := by rw [k262.get 5 (by omega), g260_5]
          have g262_6 : get a262 6 = .pointer (some ⟨e.rb, 0, none⟩) := by rw [k262.get 6 (by omega), g260_6]
          have g262_7 : get a262 7 = .pointer (some ⟨e.ob, 0, none⟩) := by rw [k262.get 7 (by omega), g260_7]
          have g262_35 : get a262 35 = .slice uq ((unknownW fs u).length) ucap := by rw [k262.get 35 (by omega), g260_35]
          have g262_36 : get a262 36 = .int .i64 (((unknownW fs u).length : Nat) : Int) := by rw [k262.get 36 (by omega), g260_36]
          have g262_37 : get a262 37 = .int .i64 (j : Int) := by rw [k262.get 37 (by omega), g260_37]
          have hz262 : a262.tmps.size = 54 := k262.size.trans hz260
          have hd262 : a262.defers = [] := k262.defers.trans hd260
          have g262_42 : get a262 42 = uw := hd_262.c (nd' := [0]) 1 (by simp) rfl
          have hF263 : Fr [] w w262 := hF259.tr f262
          have hL263_w259 : Fr [] w259 w262 := (Fr.refl [] w259).tr f262
          have rb264 := f262.range r259 .nil
          obtain ⟨xb, y, hxv, hxb, hxr, hxo⟩ : ∃ (xb : Nat) (y : Value), get a262 49 = .slice (some ⟨xb, 0, none⟩) 1 1 ∧ w259.heap.size ≤ xb ∧ w262.rangeAt xb 0 [.int .u32 ((kk : Nat) : Int), y] ∧ OctE w262 (fun b => B b ∨ From w221.heap.size w245 b) y (wholeS x) := hd_262.at (d := 8) (by simp) rfl
          rw [wCo]
          have hU10 := (hU2.kept hL259_w248 (by simp) (fun b hb => hb.imp (fun h => h) (From.mono hL259_w248.size b)) : TOwn _ (fun b => B b ∨ From w221.heap.size _ b) _ _)
          have hU11 := (hU10.kept hL263_w259 (by simp) (fun b hb => hb.imp (fun h => h) (From.mono hL263_w259.size b)) : TOwn _ (fun b => B b ∨ From w221.heap.size _ b) _ _)
          have h8n := Nat.le_trans hf8.size (Nat.le_trans hL259_w248.size hL263_w259.size)
          have hB7 : ∀ b, B b → b < w221.heap.size := fun b hb => by have := hga b (heA ▸ hb); have := hgm.top; omega
          refine wp_gu (s7 := w221.heap.size) (s8 := w245.heap.size) hs_T24 hz_T55 hb_T24 (by rw [eTm, g262_42]) (by rw [eTm, hxv]) hU11 hub2 (by omega) hB7 h78 h8n hxr hkk hxo (fun b hb => ⟨hb.imp (fun h => h) (fun h => ⟨h.1, Nat.lt_of_lt_of_le h.2 h8n⟩), by rcases hb with hb | hb; have := hB7 b hb; omega; exact hb.2⟩) ?_
          rintro v265 wv265 fv265 hg265 hgb265
          have hsb265 : ∀ r ∈ spare uw 2, w245.heap.size ≤ r.b := fun r hr => hub2 _ (spare_blk r hr)
          have htop := hgm8.top
          have hF265 : Fr [] w wv265 := hF263.trans fv265 (fun r hr => .inl (by have := hsb265 r hr; omega))
          have hF8265 : Fr [⟨e.ob, 0, 5⟩] w245 wv265 := ((hf8.tr hL259_w248.nil).tr hL263_w259.nil).trans fv265 (fun r hr => .inl (hsb265 r hr))
          have hgmN := (hgm10.kept hL263_w259 (by simp)).kept fv265 (fun r hr => by have := hsb265 r hr; omega)
          have hLN := ((hL2.kept (hL259_w248.tr hL263_w259) (by simp) (fun _ h => h) : LOwn _ (e.C w221) _ _).kept fv265 (fun r hr hC => by have := hsb265 r hr; rcases hC with hC | hC; have := hga _ hC; omega; have := hC.2; omega) (fun _ h => h) : LOwn _ (e.C w221) _ _)
          rw [wCo]
          refine wFa (b := e.ob) (i := 0) (hFlT26.fld (by decide)) (by rw [eTm, gPn (by decide), g262_7]) ?_
          rw [show (0 + 4 : Nat) = 4 from rfl]
          rw [wCo]
          refine wp_store (b := e.ob) (o := 4) (v := v265) hcT24 (by rw [eTm, gPs (lt_sz ((sPu _ _ _).trans hz262) (by decide))]) (by rw [eTm, gPn (by decide), gPs (lt_sz hz262 (by decide))]) hg265.one (there_part hgmN.to (by omega) (by omega)) ?_
          obtain ⟨hgmS, hfS⟩ := hgmN.setU v265
          have hob := hgmN.ob0
          have hob1 := hgmN.ob1
          have hLS := (hLN.kept hfS (by intro r hr hC; simp at hr; subst hr; rcases hC with hC | hC; have := hga _ hC; simp only at this; omega; have := hC.1; simp only at this; omega) (fun _ h => h) : LOwn _ (e.C w221) _ _)
          have hUS := (hg265.kept hfS (by intro r hr hC; simp at hr; subst hr; rcases hC with hC | hC; have := hga _ (heA ▸ hC); simp only at this; omega; have := hC.1; have := hgm.top; simp only at *; omega) (fun b hb => hb.imp (fun h => h) (From.mono hfS.size b)) : TOwn _ (fun b => B b ∨ From w221.heap.size _ b) _ _)
          have hFS : Fr [] w _ := hF265.trans hfS (fun r hr => .inl (by simp at hr; subst hr; simp only; omega))
          have hF8S := hF8265.tr hfS
          generalize hwS : wv265.setCell ⟨e.ob, 4, none⟩ v265 = wS at hgmS hfS hLS hUS hFS hF8S ⊢
          clear hwS
          refine wEn fun a266 ha266 => ?_
          have hz266 : a266.tmps.size = 54 := by rw [ha266, pNo]; exact ((sPu _ _ _).trans ((sPu _ _ _).trans hz262))
          have hd266 : a266.defers = [] := by rw [ha266, pNo]; exact ((dPu _ _ _).trans ((dPu _ _ _).trans hd262))
          have g266_5 : get a266 5 = .pointer (some ⟨e.b1, 0, none⟩) := by rw [ha266, pNo, gPn (by decide), gPn (by decide), g262_5]
          have g266_6 : get a266 6 = .pointer (some ⟨e.rb, 0, none⟩) := by rw [ha266, pNo, gPn (by decide), gPn (by decide), g262_6]
          have g266_7 : get a266 7 = .pointer (some ⟨e.ob, 0, none⟩) := by rw [ha266, pNo, gPn (by decide), gPn (by decide), g262_7]
          have g266_35 : get a266 35 = .slice uq ((unknownW fs u).length) ucap := by rw [ha266, pNo, gPn (by decide), gPn (by decide), g262_35]
          have g266_36 : get a266 36 = .int .i64 (((unknownW fs u).length : Nat) : Int) := by rw [ha266, pNo, gPn (by decide), gPn (by decide), g262_36]
          have g266_37 : get a266 37 = .int .i64 (j : Int) := by rw [ha266, pNo, gPn (by decide), gPn (by decide), g262_37]
          clear ha266
          refine hK253 a266 wS ?_
          refine wp_reg ?_
          rw [wCo]
          refine wp_add (k1 := .i64) (i := (j : Int)) (j := 1) (by rw [eTm, g266_37]) rfl ?_
          rw [show (IntKind.i64.wrap (((j : Int) : Int) + (1 : Int)) : Int) = (((j + 1 : Nat) : Int) : Int) from by simp only [IntKind.wrap, IntKind.bits, IntKind.signed]; simp; omega]
          rw [wCo]
          refine wMv (v := .int .i64 ((j + 1 : Nat) : Int)) (by rw [eTm, gPs (lt_sz hz266 (by decide))]) ?_
          refine wEn fun a267 ha267 => ?_
          have hz267 : a267.tmps.size = 54 := by rw [ha267]; exact ((sPu _ _ _).trans ((sPu _ _ _).trans hz266))
          have hd267 : a267.defers = [] := by rw [ha267]; exact ((dPu _ _ _).trans ((dPu _ _ _).trans hd266))
          have g267_5 : get a267 5 = .pointer (some ⟨e.b1, 0, none⟩) := by rw [ha267, gPn (by decide), gPn (by decide), g266_5]
          have g267_6 : get a267 6 = .pointer (some ⟨e.rb, 0, none⟩) := by rw [ha267, gPn (by decide), gPn (by decide), g266_6]
          have g267_7 : get a267 7 = .pointer (some ⟨e.ob, 0, none⟩) := by rw [ha267, gPn (by decide), gPn (by decide), g266_7]
          have g267_35 : get a267 35 = .slice uq ((unknownW fs u).length) ucap := by rw [ha267, gPn (by decide), gPn (by decide), g266_35]
          have g267_36 : get a267 36 = .int .i64 (((unknownW fs u).length : Nat) : Int) := by rw [ha267, gPn (by decide), gPn (by decide), g266_36]
          have g267_37 : get a267 37 = .int .i64 ((j + 1 : Nat) : Int) := by rw [ha267, gPs (lt_sz ((sPu _ _ _).trans hz266) (by decide))]
          clear ha267
          exact ⟨m2 - 1, by omega, j + 1, _, hz267, hd267, g267_5, g267_6, g267_7, g267_35, g267_36, g267_37, by omega, hgmS, hLS, by rw [hutk, List.map_append]; exact hUS, hgb265, hFS, hF8S⟩
        · have hj2 : j = (unknownW fs u).length := by simp at hc252; omega
          rw [hj2, List.take_length] at hU2
          refine wp_exit ?_
          show K243 a250 w248
          refine hK243 a250 w248 (tUp ?_)
          refine tId (wp_seq_k fun K268 hK268 => ?_)
          refine wp_reg ?_
          rw [wCo]
          refine wp_loadFlat (cs := [.int .i64 0, .slice none 0 0, .bool false, lw, uw]) (b := e.ob) (o := 0) hFlT26 rfl (by rw [eTm, g250_7]) hgm2.ro ?_
          rw [wCo]
          refine wp_storeFlat (cs := [.int .i64 0, .slice none 0 0, .bool false, lw, uw]) (b := e.rb) (o := 0) hFlT26 rfl (by rw [eTm, gPn (by decide), g250_6]) (by rw [eTm, gPs (lt_sz hz250 (by decide))]) (by intro y hy; simp at hy; rcases hy with rfl | rfl | rfl | rfl | rfl <;> first | rfl | exact hL2.one | exact hU2.one) hgm2.tr ?_
          have f7 := Fr.sets e.rb [.int .i64 0, .slice none 0 0, .bool false, lw, uw] w248 0
          have r7 := World.rangeAt_setCells_same (w := w248) e.rb 0 [.int .i64 0, .slice none 0 0, .bool false, lw, uw] hgm2.tr
          generalize hw7 : w248.setCells e.rb 0 [.int .i64 0, .slice none 0 0, .bool false, lw, uw] = wr at f7 r7 ⊢
          clear hw7
          refine wEn fun a269 ha269 => ?_
          have hz269 : a269.tmps.size = 54 := by rw [ha269, pNo]; exact ((sPu _ _ _).trans hz250)
          have hd269 : a269.defers = [] := by rw [ha269, pNo]; exact ((dPu _ _ _).trans hd250)
          have g269_6 : get a269 6 = .pointer (some ⟨e.rb, 0, none⟩) := by rw [ha269, pNo, gPn (by decide), g250_6]
          clear ha269
          refine hK268 a269 wr (tUp ?_)
          refine wp_ret ?_
          have hrb0 := hgm2.rb0
          have hrb1 := hgm2.rb1
          have hs7 := f7.size
          have ht8 := hgm8.top
          have h8z := hf8.size
          have ht7 := hgm.top
          refine ⟨hd269, _, results_cellL (cs := [.int .i64 0, .slice none 0 0, .bool false, lw, uw]) hres hFlT26 rfl g269_6 r7, _, rfl, hfl2.trans f7 (fun r hr => .inl (by simp at hr; subst hr; simp only; omega)), ?_⟩
          refine repT_iff.2 ⟨_, _, _, rfl, by omega, .nil, ?_, ?_⟩
          · show Things _ _ _ (fitL g fs ver l 0); rw [← hfl0]; refine (LOwn.things (by omega) hL2).kept f7 (by intro r hr hC; simp at hr; subst hr; rcases hC with hC | hC; have := hga _ hC; simp only at this; omega; have := hC.1; simp only at this; omega) (fun b hb => ?_)
            rcases hb with hb | hb; exact .inl (heA ▸ hb); exact .inr ⟨by have := hb.1; omega, by have := hb.2; omega⟩
          · refine (TOwn.tags (by simp; omega) hU2).kept f7 (by intro r hr hC; simp at hr; subst hr; rcases hC with hC | hC; have := hga _ (heA ▸ hC); simp only at this; omega; have := hC.1; simp only at this; omega) (fun b hb => ?_)
            rcases hb with hb | hb; exact .inl hb; exact .inr ⟨by have := hb.1; omega, by have := hb.2; omega⟩
set_option maxHeartbeats 4000000 in
theorem fitted_m {P : Program} {f : FuncId} {fn : Func} {T2 T3 T4 T22 T23 T26 T28 T46 : TypeId} {f13 f32 f35 f66 f67 : FuncId} {ct0 : Array TypeId} {ct1 : Array TypeId} {ct2 : Array TypeId} {ct3 : Array TypeId} {ct4 : Array TypeId} {i0 i1 i2 i3 i4 i5 i6 i7 i8 i9 i10 i11 i12 i13 i14 i15 i16 i17 i18 i19 i20 : Nat} {t0 t1 t2 t3 t4 t5 t6 t7 t8 t9 t10 t11 t12 t13 t14 t15 t16 t17 t18 t19 t20 t21 t22 t23 t24 t25 t26 t27 t28 t29 t30 t31 t32 t33 t34 t35 t36 t37 t38 t39 t40 t41 t42 t43 t44 t45 t46 t47 t48 t49 t50 t51 t52 t53 t54 t55 t56 t57 t58 t59 t60 t61 t62 t63 t64 t65 t66 t67 t68 t69 t70 t71 t72 t73 t74 t75 t76 t77 t78 t79 t80 t81 t82 t83 t84 t85 t86 t87 t88 t89 t90 t91 : TypeId} {p0 p1 p2 p3 p4 p5 p6 p7 p8 p9 p10 p11 p12 p13 p14 p15 p16 p17 p18 p19 p20 p21 p22 p23 p24 p25 p26 p27 p28 p29 p30 p31 p32 p33 p34 p35 p36 p37 p38 p39 p40 p41 p42 p43 p44 p45 p46 p47 p48 p49 p50 p51 p52 p53 p54 p55 p56 p57 p58 p59 p60 p61 p62 p63 p64 p65 p66 p67 p68 p69 p70 p71 p72 p73 p74 p75 p76 p77 p78 p79 p80 p81 p82 p83 p84 p85 p86 p87 p88 p89 p90 p91 : String} {e0 e1 e2 e3 e4 e5 e6 e7 e8 e9 e10 e11 e12 e13 e14 e15 e16 e17 e18 e19 e20 e21 e22 e23 e24 e25 e26 e27 e28 e29 e30 e31 e32 e33 e34 e35 e36 e37 e38 e39 e40 e41 e42 e43 e44 e45 e46 e47 e48 e49 e50 e51 e52 e53 e54 e55 e56 e57 e58 e59 e60 e61 e62 e63 e64 e65 e66 e67 e68 e69 e70 e71 e72 e73 e74 e75 e76 e77 e78 e79 e80 e81 e82 e83 e84 e85 e86 e87 e88 e89 e90 e91 : Array Edge} {bT23 : Nat} {fd : Fd} {gS gO : Int → T → T}
    (hf : P.funcs[f]? = some fn) (hname : (fn.name == "runtime.NumGoroutine") = false) (hres : fn.results = #[.cell 6 T26]) (hN : fn.ntmps = 82)
    (hbody : fn.body = some (.seq (Code.region i0 ⟨[⟨some 3, .box T46 (.tmp 0), t0, p0, e0, none⟩,
    ⟨some 5, .box T26 (.tmp 2), t1, p1, e1, none⟩,
    ⟨some 6, .alloc T26, t2, p2, e2, none⟩]⟩ false)
  (.seq (Code.region i1 ⟨[⟨some 13, .load T46 (.tmp 3), t3, p3, e3, none⟩,
    ⟨some 14, .move (.tmp 1), t4, p4, e4, none⟩,
    ⟨some 15, .load T26 (.tmp 5), t5, p5, e5, none⟩,
    ⟨some 16, .call ⟨.value (.func f66), #[(.tmp 13), (.tmp 14), (.tmp 15)], ct0⟩, t6, p6, e6, none⟩,
    ⟨some 7, .assign (.tmp 16), t7, p7, e7, none⟩]⟩ false)
  (.seq (.seq (Code.region i2 ⟨[⟨some 17, .fieldAddr T46 (.tmp 3) 0, t8, p8, e8, none⟩,
    ⟨some 18, .load T3 (.tmp 17), t9, p9, e9, none⟩]⟩ false)
  (.block 0 (.seq (.seq (Code.region i3 ⟨[⟨some 20, .binOp .eql T3 (.tmp 18) (.const (.int .i64 8)) T3, t10, p10, e10, none⟩,
    ⟨some 19, .assign (.tmp 20), t11, p11, e11, none⟩]⟩ false)
  (.cond (.tmp 19) .skip
  (Code.region i4 ⟨[⟨some 21, .binOp .eql T3 (.tmp 18) (.const (.int .i64 9)) T3, t12, p12, e12, none⟩,
    ⟨some 19, .assign (.tmp 21), t13, p13, e13, none⟩]⟩ false)))
  (.cond (.tmp 19) (.seq (Code.region i5 ⟨[⟨some 22, .fieldAddr T26 (.tmp 5) 1, t14, p14, e14, none⟩,
    ⟨some 23, .load T22 (.tmp 22), t15, p15, e15, none⟩,
    ⟨some 24, .call ⟨.value (.func f35), #[(.tmp 23)], ct1⟩, t16, p16, e16, none⟩,
    ⟨some 25, .move (.tmp 7), t17, p17, e17, none⟩,
    ⟨some 26, .build T26 #[(1, .tmp 24), (2, .tmp 25)], t18, p18, e18, none⟩,
    ⟨none, .store T26 (.tmp 6) (.tmp 26), t19, p19, e19, none⟩]⟩ false)
  .ret)
  (.seq (Code.region i6 ⟨[⟨some 28, .binOp .eql T3 (.tmp 18) (.const (.int .i64 10)) T3, t20, p20, e20, none⟩,
    ⟨some 27, .assign (.tmp 28), t21, p21, e21, none⟩]⟩ false)
  (.cond (.tmp 27) (.seq (Code.region i7 ⟨[⟨some 29, .fieldAddr T46 (.tmp 3) 7, t22, p22, e22, none⟩,
    ⟨some 30, .load T28 (.tmp 29), t23, p23, e23, none⟩,
    ⟨some 31, .move (.tmp 1), t24, p24, e24, none⟩,
    ⟨some 32, .load T26 (.tmp 5), t25, p25, e25, none⟩,
    ⟨some 33, .call ⟨.value (.func f13), #[(.tmp 30), (.tmp 31), (.tmp 32)], ct2⟩, t26, p26, e26, none⟩,
    ⟨some 8, .alloc T26, t27, p27, e27, none⟩,
    ⟨none, .store T26 (.tmp 8) (.tmp 33), t28, p28, e28, none⟩]⟩ false)
  (.seq (Code.region i8 ⟨[⟨some 34, .move (.tmp 7), t29, p29, e29, none⟩,
    ⟨some 35, .fieldAddr T26 (.tmp 8) 2, t30, p30, e30, none⟩,
    ⟨none, .store T4 (.tmp 35) (.tmp 34), t31, p31, e31, none⟩]⟩ false)
  (.seq (Code.region i9 ⟨[⟨some 36, .load T26 (.tmp 8), t32, p32, e32, none⟩,
    ⟨none, .store T26 (.tmp 6) (.tmp 36), t33, p33, e33, none⟩]⟩ false)
  .ret)))
  (.seq (Code.region i10 ⟨[⟨some 38, .binOp .eql T3 (.tmp 18) (.const (.int .i64 11)) T3, t34, p34, e34, none⟩,
    ⟨some 37, .assign (.tmp 38), t35, p35, e35, none⟩]⟩ false)
  (.cond (.tmp 37) (.seq (Code.region i11 ⟨[⟨some 39, .move (.tmp 7), t36, p36, e36, none⟩,
    ⟨some 40, .move (.tmp 39), t37, p37, e37, none⟩,
    ⟨some 41, .fieldAddr T46 (.tmp 3) 4, t38, p38, e38, some (1, false)⟩,
    ⟨some 42, .load T3 (.tmp 41), t39, p39, e39, some (1, false)⟩,
    ⟨some 43, .binOp .geq T3 (.tmp 42) (.const (.int .i64 0)) T3, t40, p40, e40, some (1, false)⟩,
    ⟨some 44, .move (.tmp 43), t41, p41, e41, some (1, false)⟩,
    ⟨some 45, .fieldAddr T26 (.tmp 5) 3, t42, p42, e42, some (5, true)⟩,
    ⟨some 46, .load T23 (.tmp 45), t43, p43, e43, some (5, true)⟩,
    ⟨some 47, .call ⟨.builtin .len, #[(.tmp 46)], #[T23]⟩, t44, p44, e44, some (5, true)⟩,
    ⟨some 48, .binOp .eql T3 (.tmp 47) (.const (.int .i64 0)) T3, t45, p45, e45, some (5, true)⟩,
    ⟨some 49, .pick (.tmp 44) (.tmp 48) (.const (.bool false)), t46, p46, e46, some (1, false)⟩,
    ⟨some 50, .pick (.tmp 40) (.const (.bool true)) (.tmp 49), t47, p47, e47, none⟩,
    ⟨some 51, .build T26 #[(2, .tmp 50)], t48, p48, e48, none⟩,
    ⟨some 9, .alloc T26, t49, p49, e49, none⟩,
    ⟨none, .store T26 (.tmp 9) (.tmp 51), t50, p50, e50, none⟩]⟩ false)
  (.seq (Code.region i12 ⟨[⟨some 52, .load T46 (.tmp 3), t51, p51, e51, none⟩,
    ⟨some 10, .alloc T46, t52, p52, e52, none⟩,
    ⟨none, .store T46 (.tmp 10) (.tmp 52), t53, p53, e53, none⟩]⟩ false)
  (.seq (Code.region i13 ⟨[⟨some 53, .fieldAddr T46 (.tmp 3) 6, t54, p54, e54, none⟩,
    ⟨some 54, .load T3 (.tmp 53), t55, p55, e55, none⟩,
    ⟨some 55, .fieldAddr T46 (.tmp 10) 0, t56, p56, e56, none⟩,
    ⟨none, .store T3 (.tmp 55) (.tmp 54), t57, p57, e57, none⟩,
    ⟨some 56, .fieldAddr T46 (.tmp 10) 3, t58, p58, e58, none⟩,
    ⟨none, .store T3 (.tmp 56) (.const (.int .i64 (-1))), t59, p59, e59, none⟩,
    ⟨some 57, .fieldAddr T46 (.tmp 10) 4, t60, p60, e60, none⟩,
    ⟨none, .store T3 (.tmp 57) (.const (.int .i64 (-1))), t61, p61, e61, none⟩]⟩ false)
  (.seq (.seq (Code.region i14 ⟨[⟨some 58, .fieldAddr T26 (.tmp 5) 3, t62, p62, e62, none⟩,
    ⟨some 59, .load T23 (.tmp 58), t63, p63, e63, none⟩,
    ⟨some 60, .call ⟨.value (.func f67), #[(.tmp 59)], ct3⟩, t64, p64, e64, none⟩,
    ⟨some 61, .call ⟨.builtin .len, #[(.tmp 60)], #[T23]⟩, t65, p65, e65, none⟩,
    ⟨some 62, .move (.const (.int .i64 0)), t66, p66, e66, none⟩]⟩ false)
  (.block 1 (.loop (.seq (Code.region i15 ⟨[⟨some 63, .binOp .lss T3 (.tmp 62) (.tmp 61) T3, t67, p67, e67, none⟩]⟩ false)
  (.seq (.cond (.tmp 63) .skip
  (.exit 1))
  (.seq (.block 2 (.seq (Code.region i16 ⟨[⟨some 64, .indexAddr T23 (.tmp 60) (.tmp 62), t68, p68, e68, none⟩,
    ⟨some 65, .load T26 (.tmp 64), t69, p69, e69, none⟩,
    ⟨some 12, .alloc T26, t70, p70, e70, none⟩,
    ⟨none, .store T26 (.tmp 12) (.tmp 65), t71, p71, e71, none⟩]⟩ false)
  (Code.region i17 ⟨[⟨some 66, .fieldAddr T26 (.tmp 9) 3, t72, p72, e72, none⟩,
    ⟨some 67, .load T23 (.tmp 66), t73, p73, e73, none⟩,
    ⟨some 68, .load T46 (.tmp 10), t74, p74, e74, none⟩,
    ⟨some 69, .move (.tmp 1), t75, p75, e75, none⟩,
    ⟨some 70, .load T26 (.tmp 12), t76, p76, e76, none⟩,
    ⟨some 71, .call ⟨.value (.func f32), #[(.tmp 68), (.tmp 69), (.tmp 70)], ct4⟩, t77, p77, e77, none⟩,
    ⟨some 72, .buildSlice T23 1 #[(0, .tmp 71)], t78, p78, e78, none⟩,
    ⟨some 73, .call ⟨.builtin .append, #[(.tmp 67), (.tmp 72)], #[T23, T23]⟩, t79, p79, e79, none⟩,
    ⟨some 74, .fieldAddr T26 (.tmp 9) 3, t80, p80, e80, none⟩,
    ⟨none, .store T23 (.tmp 74) (.tmp 73), t81, p81, e81, none⟩]⟩ true)))
  (Code.region i18 ⟨[⟨some 75, .binOp .add T3 (.tmp 62) (.const (.int .i64 1)) T3, t82, p82, e82, none⟩,
    ⟨some 62, .move (.tmp 75), t83, p83, e83, none⟩]⟩ false)))))))
  (.seq (Code.region i19 ⟨[⟨some 76, .load T26 (.tmp 9), t84, p84, e84, none⟩,
    ⟨none, .store T26 (.tmp 6) (.tmp 76), t85, p85, e85, none⟩]⟩ false)
  .ret)))))
  .skip))))))))
  (.seq (Code.region i20 ⟨[⟨some 77, .fieldAddr T26 (.tmp 5) 0, t86, p86, e86, none⟩,
    ⟨some 78, .load T2 (.tmp 77), t87, p87, e87, none⟩,
    ⟨some 79, .fieldAddr T26 (.tmp 5) 1, t88, p88, e88, none⟩,
    ⟨some 80, .load T22 (.tmp 79), t89, p89, e89, none⟩,
    ⟨some 81, .build T26 #[(0, .tmp 78), (1, .tmp 80)], t90, p90, e90, none⟩,
    ⟨none, .store T26 (.tmp 6) (.tmp 81), t91, p91, e91, none⟩]⟩ false)
  .ret)))))
    (hFlT26 : Flat P T26 zT) (hFlT46 : Flat P T46 zF) (hcT3 : scal P T3 = true) (hcT22 : scal P T22 = true) (hcT28 : scal P T28 = true) (hcT4 : scal P T4 = true) (hcT23 : scal P T23 = true) (hsT23 : slTy P T23 = true) (hs_T23 : sliceOf P T23 T26 5 bT23 = true) (hb_T23 : bT23 ≤ 1024) (hz_T26 : zeroIs P T26 zT) (he17 : edgeOk 0 [e72, e73, e74, e75, e76, e77, e78, e79, e80, e81] [[], [0], [], [], [], [2, 3, 4], [5], [0, 1, 2, 3, 4, 5, 6], [0, 1, 2, 3, 4, 5, 6, 7], [0, 1, 2, 3, 4, 5, 6, 7, 8]] = true) (hmx : P.follows .mixedOrders = true) (hcT2 : scal P T2 = true) (hT : fd.kind = 10 → FitTM P f13 fd.sub gS) (hO : fd.kind = 11 → FitFM P f32 (oneF fd) gO) (hNu : NullM P f66) (hWh : WholeM P f35) (hTh : ThingsM P f67) : FitFM P f fd (fitK gS gO fd) := by
  refine ⟨enters_of hf hname hbody, ?_⟩
  intro w A B ver cf ct t hr ht hA hB
  cases t with
  | mk n s nl l u =>
  have ht0 := ht
  obtain ⟨sv, lv, uv, rfl, hn, hs, hl, hu⟩ := repT_iff.1 ht
  obtain ⟨fsv, rfl, hsub⟩ := repF_iff.1 hr
  have hr0 := hr
  obtain ⟨nu, hnu⟩ : ∃ b, b = nullW fd.nul ver (.mk n s nl l u) := ⟨_, rfl⟩
  refine calls_of_wp hf hbody ?_
  generalize ha0 : ({ tmps := #[Value.agg ([.int .i64 fd.kind, .int .i64 fd.fr, .int .i64 fd.to, .int .i64 fd.nul, .int .i64 fd.tag, .int .i64 fd.df, .int .i64 fd.of, fsv] : List Value).toArray, Value.int .i64 ver, Value.agg ([.int .i64 n, sv, .bool nl, lv, uv] : List Value).toArray] ++ Array.replicate (fn.ntmps - (#[Value.agg ([.int .i64 fd.kind, .int .i64 fd.fr, .int .i64 fd.to, .int .i64 fd.nul, .int .i64 fd.tag, .int .i64 fd.df, .int .i64 fd.of, fsv] : List Value).toArray, Value.int .i64 ver, Value.agg ([.int .i64 n, sv, .bool nl, lv, uv] : List Value).toArray] : Array Value).size) undef, defers := [] } : Act) = a0
  have hz0 : a0.tmps.size = 82 := by subst ha0; simp [hN]
  have hd0 : a0.defers = [] := by subst ha0; rfl
  have g0_0 : get a0 0 = .agg ([.int .i64 fd.kind, .int .i64 fd.fr, .int .i64 fd.to, .int .i64 fd.nul, .int .i64 fd.tag, .int .i64 fd.df, .int .i64 fd.of, fsv] : List Value).toArray := by subst ha0; exact gAr rfl
  have g0_1 : get a0 1 = .int .i64 ver := by subst ha0; exact gAr rfl
  have g0_2 : get a0 2 = .agg ([.int .i64 n, sv, .bool nl, lv, uv] : List Value).toArray := by subst ha0; exact gAr rfl
  clear ha0
  refine tId (wp_seq_k fun K201 hK201 => ?_)
  refine wp_reg ?_
  rw [wCo]
  refine wp_boxL (cs := [.int .i64 fd.kind, .int .i64 fd.fr, .int .i64 fd.to, .int .i64 fd.nul, .int .i64 fd.tag, .int .i64 fd.df, .int .i64 fd.of, fsv]) (by rw [eTm, g0_0]) ?_
  rintro w202 f202 sz202 r202 th202
  have hF203 : Fr [] w w202 := f202
  rw [wCo]
  refine wp_boxL (cs := [.int .i64 n, sv, .bool nl, lv, uv]) (by rw [eTm, gPn (by decide), g0_2]) ?_
  rintro w204 f204 sz204 r204 th204
  have hF205 : Fr [] w w204 := hF203.tr f204
  have rb206 := f204.range r202 .nil
  rw [wCo]
  have hgs207 := hF205.size
  refine wp_allocL hFlT26 ?_
  rintro w208 f208 sz208 r208 th208
  have hF209 : Fr [] w w208 := hF205.tr f208
  have rb210 := f208.range rb206 .nil
  have rb211 := f208.range r204 .nil
  refine wEn fun a212 ha212 => ?_
  have hz212 : a212.tmps.size = 82 := by rw [ha212]; exact ((sPu _ _ _).trans ((sPu _ _ _).trans ((sPu _ _ _).trans hz0)))
  have hd212 : a212.defers = [] := by rw [ha212]; exact ((dPu _ _ _).trans ((dPu _ _ _).trans ((dPu _ _ _).trans hd0)))
  have g212_1 : get a212 1 = .int .i64 ver := by rw [ha212, gPn (by decide), gPn (by decide), gPn (by decide), g0_1]
  have g212_3 : get a212 3 = .pointer (some ⟨w.heap.size, 0, none⟩) := by rw [ha212, gPn (by decide), gPn (by decide), gPs (lt_sz hz0 (by decide))]
  have g212_5 : get a212 5 = .pointer (some ⟨w202.heap.size, 0, none⟩) := by rw [ha212, gPn (by decide), gPs (lt_sz ((sPu _ _ _).trans hz0) (by decide))]
  have g212_6 : get a212 6 = .pointer (some ⟨w204.heap.size, 0, none⟩) := by rw [ha212, gPs (lt_sz ((sPu _ _ _).trans ((sPu _ _ _).trans hz0)) (by decide))]
  clear ha212
  have hsz0 : w.heap.size + 3 ≤ w208.heap.size := by omega
  have hsz0' : w204.heap.size < w208.heap.size := by omega
  have hsz1 : w.heap.size + 2 ≤ w204.heap.size := by omega
  refine hK201 a212 w208 (tUp ?_)
  refine tId (wp_seq_k fun K213 hK213 => ?_)
  refine wp_reg ?_
  rw [wCo]
  refine wp_loadFlat (cs := [.int .i64 fd.kind, .int .i64 fd.fr, .int .i64 fd.to, .int .i64 fd.nul, .int .i64 fd.tag, .int .i64 fd.df, .int .i64 fd.of, fsv]) (b := w.heap.size) (o := 0) hFlT46 rfl (by rw [eTm, g212_3]) rb210 ?_
  rw [wCo]
  refine wMv (v := .int .i64 ver) (by rw [eTm, gPn (by decide), g212_1]) ?_
  rw [wCo]
  refine wp_loadFlat (cs := [.int .i64 n, sv, .bool nl, lv, uv]) (b := w202.heap.size) (o := 0) hFlT26 rfl (by rw [eTm, gPn (by decide), gPn (by decide), g212_5]) rb211 ?_
  rw [wCo]
  refine wCr (R := fun x wz => x = .bool nu ∧ Fr [] w208 wz) (vs := #[.agg ([.int .i64 fd.kind, .int .i64 fd.fr, .int .i64 fd.to, .int .i64 fd.nul, .int .i64 fd.tag, .int .i64 fd.df, .int .i64 fd.of, fsv] : List Value).toArray, .int .i64 ver, .agg ([.int .i64 n, sv, .bool nl, lv, uv] : List Value).toArray]) hNu.enters (by simp only [List.map_toArray, List.map_cons, List.map_nil]; rw [show (((a212.put (some 13) (.agg ([.int .i64 fd.kind, .int .i64 fd.fr, .int .i64 fd.to, .int .i64 fd.nul, .int .i64 fd.tag, .int .i64 fd.df, .int .i64 fd.of, fsv] : List Value).toArray)).put (some 14) (.int .i64 ver)).put (some 15) (.agg ([.int .i64 n, sv, .bool nl, lv, uv] : List Value).toArray)).eval (.tmp 13) = Value.agg ([.int .i64 fd.kind, .int .i64 fd.fr, .int .i64 fd.to, .int .i64 fd.nul, .int .i64 fd.tag, .int .i64 fd.df, .int .i64 fd.of, fsv] : List Value).toArray from (by rw [eTm, gPn (by decide), gPn (by decide), gPs (lt_sz hz212 (by decide))]), show (((a212.put (some 13) (.agg ([.int .i64 fd.kind, .int .i64 fd.fr, .int .i64 fd.to, .int .i64 fd.nul, .int .i64 fd.tag, .int .i64 fd.df, .int .i64 fd.of, fsv] : List Value).toArray)).put (some 14) (.int .i64 ver)).put (some 15) (.agg ([.int .i64 n, sv, .bool nl, lv, uv] : List Value).toArray)).eval (.tmp 14) = Value.int .i64 ver from (by rw [eTm, gPn (by decide), gPs (lt_sz ((sPu _ _ _).trans hz212) (by decide))]), show (((a212.put (some 13) (.agg ([.int .i64 fd.kind, .int .i64 fd.fr, .int .i64 fd.to, .int .i64 fd.nul, .int .i64 fd.tag, .int .i64 fd.df, .int .i64 fd.of, fsv] : List Value).toArray)).put (some 14) (.int .i64 ver)).put (some 15) (.agg ([.int .i64 n, sv, .bool nl, lv, uv] : List Value).toArray)).eval (.tmp 15) = Value.agg ([.int .i64 n, sv, .bool nl, lv, uv] : List Value).toArray from (by rw [eTm, gPs (lt_sz ((sPu _ _ _).trans ((sPu _ _ _).trans hz212)) (by decide))])]) ((hNu.call w208 A B _ _ fd (.mk n s nl l u) ver (hr0.kept hF209 (by simp) (fun _ h => h)) (ht0.kept hF209 (by simp) (fun _ h => h))).mono (by rintro e w' ⟨rfl, hf⟩; exact ⟨_, rfl, by rw [hnu], hf⟩)) ?_
  rintro x214 w214 ⟨rfl, fr214⟩
  have hF215 : Fr [] w w214 := hF209.tr fr214
  have hL215_w208 : Fr [] w208 w214 := (Fr.refl [] w208).tr fr214
  have rb216 := fr214.range rb210 .nil
  have rb217 := fr214.range rb211 .nil
  rw [wCo]
  refine wAs (v := .bool nu) (by rw [eTm, gPs (lt_sz ((sPu _ _ _).trans ((sPu _ _ _).trans ((sPu _ _ _).trans hz212))) (by decide))]) ?_
  refine wEn fun a218 ha218 => ?_
  have hz218 : a218.tmps.size = 82 := by rw [ha218]; exact ((sPu _ _ _).trans ((sPu _ _ _).trans ((sPu _ _ _).trans ((sPu _ _ _).trans ((sPu _ _ _).trans hz212)))))
  have hd218 : a218.defers = [] := by rw [ha218]; exact ((dPu _ _ _).trans ((dPu _ _ _).trans ((dPu _ _ _).trans ((dPu _ _ _).trans ((dPu _ _ _).trans hd212)))))
  have g218_1 : get a218 1 = .int .i64 ver := by rw [ha218, gPn (by decide), gPn (by decide), gPn (by decide), gPn (by decide), gPn (by decide), g212_1]
  have g218_3 : get a218 3 = .pointer (some ⟨w.heap.size, 0, none⟩) := by rw [ha218, gPn (by decide), gPn (by decide), gPn (by decide), gPn (by decide), gPn (by decide), g212_3]
  have g218_5 : get a218 5 = .pointer (some ⟨w202.heap.size, 0, none⟩) := by rw [ha218, gPn (by decide), gPn (by decide), gPn (by decide), gPn (by decide), gPn (by decide), g212_5]
  have g218_6 : get a218 6 = .pointer (some ⟨w204.heap.size, 0, none⟩) := by rw [ha218, gPn (by decide), gPn (by decide), gPn (by decide), gPn (by decide), gPn (by decide), g212_6]
  have g218_7 : get a218 7 = .bool nu := by rw [ha218, gPs (lt_sz ((sPu _ _ _).trans ((sPu _ _ _).trans ((sPu _ _ _).trans ((sPu _ _ _).trans hz212)))) (by decide))]
  clear ha218
  refine hK213 a218 w214 (tUp ?_)
  refine tId (wp_seq_k fun K219 hK219 => ?_)
  refine wp_seq_k fun K220 hK220 => ?_
  refine wp_reg ?_
  rw [wCo]
  refine wFa (b := w.heap.size) (i := 0) (hFlT46.fld (by decide)) (by rw [eTm, g218_3]) ?_
  rw [show (0 + 0 : Nat) = 0 from rfl]
  rw [wCo]
  refine wL0 (j := 0) (v := .int .i64 fd.kind) hcT3 (by rw [eTm, gPs (lt_sz hz218 (by decide))]) rb216 rfl ?_
  refine wEn fun a221 ha221 => ?_
  have hz221 : a221.tmps.size = 82 := by rw [ha221]; exact ((sPu _ _ _).trans ((sPu _ _ _).trans hz218))
  have hd221 : a221.defers = [] := by rw [ha221]; exact ((dPu _ _ _).trans ((dPu _ _ _).trans hd218))
  have g221_1 : get a221 1 = .int .i64 ver := by rw [ha221, gPn (by decide), gPn (by decide), g218_1]
  have g221_3 : get a221 3 = .pointer (some ⟨w.heap.size, 0, none⟩) := by rw [ha221, gPn (by decide), gPn (by decide), g218_3]
  have g221_5 : get a221 5 = .pointer (some ⟨w202.heap.size, 0, none⟩) := by rw [ha221, gPn (by decide), gPn (by decide), g218_5]
  have g221_6 : get a221 6 = .pointer (some ⟨w204.heap.size, 0, none⟩) := by rw [ha221, gPn (by decide), gPn (by decide), g218_6]
  have g221_7 : get a221 7 = .bool nu := by rw [ha221, gPn (by decide), gPn (by decide), g218_7]
  have g221_18 : get a221 18 = .int .i64 fd.kind := by rw [ha221, gPs (lt_sz ((sPu _ _ _).trans hz218) (by decide))]
  clear ha221
  refine hK220 a221 w214 ?_
  refine wp_blockT ?_
  refine wp_seq_k fun K222 hK222 => ?_
  refine wp_seq_k fun K223 hK223 => ?_
  refine wp_reg ?_
  rw [wCo]
  refine wp_eql (k1 := .i64) (i := fd.kind) (j := 8) (by rw [eTm, g221_18]) rfl ?_
  rw [wCo]
  refine wAs (v := .bool ((fd.kind : Int) == (8 : Int))) (by rw [eTm, gPs (lt_sz hz221 (by decide))]) ?_
  refine wEn fun a224 ha224 => ?_
  have hz224 : a224.tmps.size = 82 := by rw [ha224]; exact ((sPu _ _ _).trans ((sPu _ _ _).trans hz221))
  have hd224 : a224.defers = [] := by rw [ha224]; exact ((dPu _ _ _).trans ((dPu _ _ _).trans hd221))
  have g224_1 : get a224 1 = .int .i64 ver := by rw [ha224, gPn (by decide), gPn (by decide), g221_1]
  have g224_3 : get a224 3 = .pointer (some ⟨w.heap.size, 0, none⟩) := by rw [ha224, gPn (by decide), gPn (by decide), g221_3]
  have g224_5 : get a224 5 = .pointer (some ⟨w202.heap.size, 0, none⟩) := by rw [ha224, gPn (by decide), gPn (by decide), g221_5]
  have g224_6 : get a224 6 = .pointer (some ⟨w204.heap.size, 0, none⟩) := by rw [ha224, gPn (by decide), gPn (by decide), g221_6]
  have g224_7 : get a224 7 = .bool nu := by rw [ha224, gPn (by decide), gPn (by decide), g221_7]
  have g224_18 : get a224 18 = .int .i64 fd.kind := by rw [ha224, gPn (by decide), gPn (by decide), g221_18]
  have g224_19 : get a224 19 = .bool ((fd.kind : Int) == (8 : Int)) := by rw [ha224, gPs (lt_sz ((sPu _ _ _).trans hz221) (by decide))]
  clear ha224
  refine hK223 a224 w214 ?_
  refine wp_cond_split (t := ((fd.kind : Int) == (8 : Int))) (by rw [eTm, g224_19]) (fun hc225 => ?_) (fun hc225 => ?_)
  · have hk8 : fd.kind = 8 ∨ fd.kind = 9 := by simp at hc225; omega
    rw [hc225] at g224_19
    refine wp_skip ?_
    refine hK222 a224 w214 ?_
    refine wp_cond_split (t := true) (by rw [eTm, g224_19]) (fun _ => ?_) (fun h => by cases h)
    refine wp_seq_k fun K227 hK227 => ?_
    refine wp_reg ?_
    rw [wCo]
    refine wFa (b := w202.heap.size) (i := 0) (hFlT26.fld (by decide)) (by rw [eTm, g224_5]) ?_
    rw [show (0 + 1 : Nat) = 1 from rfl]
    rw [wCo]
    refine wL0 (j := 1) (v := sv) hcT22 (by rw [eTm, gPs (lt_sz hz224 (by decide))]) rb217 rfl ?_
    rw [wCo]
    refine wCr (R := fun y wz => OctE wz B y (wholeS s) ∧ w214 = wz) (vs := #[sv]) hWh.enters (by simp only [List.map_toArray, List.map_cons, List.map_nil]; rw [show ((a224.put (some 22) (.pointer (some ⟨w202.heap.size, 1, none⟩))).put (some 23) sv).eval (.tmp 23) = sv from (by rw [eTm, gPs (lt_sz ((sPu _ _ _).trans hz224) (by decide))])]) ((hWh.call w214 B sv s (hs.kept hF215 (by simp) (fun _ h => h))).mono (by rintro e wz ⟨y, rfl, h1, rfl⟩; exact ⟨y, rfl, h1, rfl⟩)) ?_
    rintro y228 _ ⟨hy228, rfl⟩
    rw [wCo]
    refine wMv (v := .bool nu) (by rw [eTm, gPn (by decide), gPn (by decide), gPn (by decide), g224_7]) ?_
    rw [wCo]
    refine wp_buildC (z := zT) (ps := [(1, .tmp 24), (2, .tmp 25)]) (vs := [(1, y228), (2, .bool nu)]) (cs := [.int .i64 0, y228, .bool nu, .slice none 0 0, .slice none 0 0]) hFlT26 (by simp only [List.map_nil, List.map_cons]; rw [show ((((a224.put (some 22) (.pointer (some ⟨w202.heap.size, 1, none⟩))).put (some 23) sv).put (some 24) y228).put (some 25) (.bool nu)).eval (.tmp 24) = y228 from (by rw [eTm, gPn (by decide), gPs (lt_sz ((sPu _ _ _).trans ((sPu _ _ _).trans hz224)) (by decide))]), show ((((a224.put (some 22) (.pointer (some ⟨w202.heap.size, 1, none⟩))).put (some 23) sv).put (some 24) y228).put (some 25) (.bool nu)).eval (.tmp 25) = Value.bool nu from (by rw [eTm, gPs (lt_sz ((sPu _ _ _).trans ((sPu _ _ _).trans ((sPu _ _ _).trans hz224))) (by decide))])]) (by intro p hp; simp at hp; rcases hp with rfl | rfl; exact ⟨by simp [zT], hy228.one⟩; exact ⟨by simp [zT], rfl⟩) rfl ?_
    rw [wCo]
    have hthR := (hL215_w208).there th208
    refine wp_storeFlat (cs := [.int .i64 0, y228, .bool nu, .slice none 0 0, .slice none 0 0]) (b := w204.heap.size) (o := 0) hFlT26 rfl (by rw [eTm, gPn (by decide), gPn (by decide), gPn (by decide), gPn (by decide), gPn (by decide), g224_6]) (by rw [eTm, gPs (lt_sz ((sPu _ _ _).trans ((sPu _ _ _).trans ((sPu _ _ _).trans ((sPu _ _ _).trans hz224)))) (by decide))]) (by intro y hy; simp at hy; rcases hy with rfl | rfl | rfl | rfl | rfl <;> first | rfl | exact hy228.one) hthR ?_
    have f7 := Fr.sets w204.heap.size [.int .i64 0, y228, .bool nu, .slice none 0 0, .slice none 0 0] w214 0
    have r7 := World.rangeAt_setCells_same (w := w214) w204.heap.size 0 [.int .i64 0, y228, .bool nu, .slice none 0 0, .slice none 0 0] hthR
    have hFa := hF215
    have hfra := hL215_w208
    generalize hw7 : w214.setCells w204.heap.size 0 [.int .i64 0, y228, .bool nu, .slice none 0 0, .slice none 0 0] = wr at f7 r7 ⊢
    clear hw7
    refine wEn fun a229 ha229 => ?_
    have hz229 : a229.tmps.size = 82 := by rw [ha229, pNo]; exact ((sPu _ _ _).trans ((sPu _ _ _).trans ((sPu _ _ _).trans ((sPu _ _ _).trans ((sPu _ _ _).trans hz224)))))
    have hd229 : a229.defers = [] := by rw [ha229, pNo]; exact ((dPu _ _ _).trans ((dPu _ _ _).trans ((dPu _ _ _).trans ((dPu _ _ _).trans ((dPu _ _ _).trans hd224)))))
    have g229_6 : get a229 6 = .pointer (some ⟨w204.heap.size, 0, none⟩) := by rw [ha229, pNo, gPn (by decide), gPn (by decide), gPn (by decide), gPn (by decide), gPn (by decide), g224_6]
    clear ha229
    refine hK227 a229 wr ?_
    refine wp_ret ?_
    have hs7 := f7.size
    have hsa := hfra.size
    refine ⟨hd229, _, results_cellL (cs := [.int .i64 0, y228, .bool nu, .slice none 0 0, .slice none 0 0]) hres hFlT26 rfl g229_6 r7, _, rfl, hFa.trans f7 (fun r hr => .inl (by simp at hr; subst hr; simp only; omega)), ?_⟩
    rw [show fitK gS gO fd ver (.mk n s nl l u) = .mk 0 (wholeS s) nu [] [] from by unfold fitK; rw [if_pos hk8, hnu]; rfl]
    exact repT_iff.2 ⟨_, _, _, rfl, by omega, (hy228.kept f7 (by intro r hr hC; simp at hr; subst hr; have := hB _ hC; simp only at this; omega) (fun b hb => .inl hb)), .inl ⟨.inl rfl, rfl⟩, .inl ⟨.inl rfl, rfl⟩⟩
  · have hn8 : fd.kind ≠ 8 := by simpa using hc225
    refine wp_reg ?_
    rw [wCo]
    refine wp_eql (k1 := .i64) (i := fd.kind) (j := 9) (by rw [eTm, g224_18]) rfl ?_
    rw [wCo]
    refine wAs (v := .bool ((fd.kind : Int) == (9 : Int))) (by rw [eTm, gPs (lt_sz hz224 (by decide))]) ?_
    refine wEn fun a230 ha230 => ?_
    have hz230 : a230.tmps.size = 82 := by rw [ha230]; exact ((sPu _ _ _).trans ((sPu _ _ _).trans hz224))
    have hd230 : a230.defers = [] := by rw [ha230]; exact ((dPu _ _ _).trans ((dPu _ _ _).trans hd224))
    have g230_1 : get a230 1 = .int .i64 ver := by rw [ha230, gPn (by decide), gPn (by decide), g224_1]
    have g230_3 : get a230 3 = .pointer (some ⟨w.heap.size, 0, none⟩) := by rw [ha230, gPn (by decide), gPn (by decide), g224_3]
    have g230_5 : get a230 5 = .pointer (some ⟨w202.heap.size, 0, none⟩) := by rw [ha230, gPn (by decide), gPn (by decide), g224_5]
    have g230_6 : get a230 6 = .pointer (some ⟨w204.heap.size, 0, none⟩) := by rw [ha230, gPn (by decide), gPn (by decide), g224_6]
    have g230_7 : get a230 7 = .bool nu := by rw [ha230, gPn (by decide), gPn (by decide), g224_7]
    have g230_18 : get a230 18 = .int .i64 fd.kind := by rw [ha230, gPn (by decide), gPn (by decide), g224_18]
    have g230_19 : get a230 19 = .bool ((fd.kind : Int) == (9 : Int)) := by rw [ha230, gPs (lt_sz ((sPu _ _ _).trans hz224) (by decide))]
    clear ha230
    refine hK222 a230 w214 ?_
    refine wp_cond_split (t := ((fd.kind : Int) == (9 : Int))) (by rw [eTm, g230_19]) (fun hc231 => ?_) (fun hc231 => ?_)
    · have hk8 : fd.kind = 8 ∨ fd.kind = 9 := by simp at hc231; omega
      rw [hc231] at g230_19
      refine wp_seq_k fun K232 hK232 => ?_
      refine wp_reg ?_
      rw [wCo]
      refine wFa (b := w202.heap.size) (i := 0) (hFlT26.fld (by decide)) (by rw [eTm, g230_5]) ?_
      rw [show (0 + 1 : Nat) = 1 from rfl]
      rw [wCo]
      refine wL0 (j := 1) (v := sv) hcT22 (by rw [eTm, gPs (lt_sz hz230 (by decide))]) rb217 rfl ?_
      rw [wCo]
      refine wCr (R := fun y wz => OctE wz B y (wholeS s) ∧ w214 = wz) (vs := #[sv]) hWh.enters (by simp only [List.map_toArray, List.map_cons, List.map_nil]; rw [show ((a230.put (some 22) (.pointer (some ⟨w202.heap.size, 1, none⟩))).put (some 23) sv).eval (.tmp 23) = sv from (by rw [eTm, gPs (lt_sz ((sPu _ _ _).trans hz230) (by decide))])]) ((hWh.call w214 B sv s (hs.kept hF215 (by simp) (fun _ h => h))).mono (by rintro e wz ⟨y, rfl, h1, rfl⟩; exact ⟨y, rfl, h1, rfl⟩)) ?_
      rintro y233 _ ⟨hy233, rfl⟩
      rw [wCo]
      refine wMv (v := .bool nu) (by rw [eTm, gPn (by decide), gPn (by decide), gPn (by decide), g230_7]) ?_
      rw [wCo]
      refine wp_buildC (z := zT) (ps := [(1, .tmp 24), (2, .tmp 25)]) (vs := [(1, y233), (2, .bool nu)]) (cs := [.int .i64 0, y233, .bool nu, .slice none 0 0, .slice none 0 0]) hFlT26 (by simp only [List.map_nil, List.map_cons]; rw [show ((((a230.put (some 22) (.pointer (some ⟨w202.heap.size, 1, none⟩))).put (some 23) sv).put (some 24) y233).put (some 25) (.bool nu)).eval (.tmp 24) = y233 from (by rw [eTm, gPn (by decide), gPs (lt_sz ((sPu _ _ _).trans ((sPu _ _ _).trans hz230)) (by decide))]), show ((((a230.put (some 22) (.pointer (some ⟨w202.heap.size, 1, none⟩))).put (some 23) sv).put (some 24) y233).put (some 25) (.bool nu)).eval (.tmp 25) = Value.bool nu from (by rw [eTm, gPs (lt_sz ((sPu _ _ _).trans ((sPu _ _ _).trans ((sPu _ _ _).trans hz230))) (by decide))])]) (by intro p hp; simp at hp; rcases hp with rfl | rfl; exact ⟨by simp [zT], hy233.one⟩; exact ⟨by simp [zT], rfl⟩) rfl ?_
      rw [wCo]
      have hthR := (hL215_w208).there th208
      refine wp_storeFlat (cs := [.int .i64 0, y233, .bool nu, .slice none 0 0, .slice none 0 0]) (b := w204.heap.size) (o := 0) hFlT26 rfl (by rw [eTm, gPn (by decide), gPn (by decide), gPn (by decide), gPn (by decide), gPn (by decide), g230_6]) (by rw [eTm, gPs (lt_sz ((sPu _ _ _).trans ((sPu _ _ _).trans ((sPu _ _ _).trans ((sPu _ _ _).trans hz230)))) (by decide))]) (by intro y hy; simp at hy; rcases hy with rfl | rfl | rfl | rfl | rfl <;> first | rfl | exact hy233.one) hthR ?_
      have f7 := Fr.sets w204.heap.size [.int .i64 0, y233, .bool nu, .slice none 0 0, .slice none 0 0] w214 0
      have r7 := World.rangeAt_setCells_same (w := w214) w204.heap.size 0 [.int .i64 0, y233, .bool nu, .slice none 0 0, .slice none 0 0] hthR
      have hFa := hF215
      have hfra := hL215_w208
      generalize hw7 : w214.setCells w204.heap.size 0 [.int .i64 0, y233, .bool nu, .slice none 0 0, .slice none 0 0] = wr at f7 r7 ⊢
      clear hw7
      refine wEn fun a234 ha234 => ?_
      have hz234 : a234.tmps.size = 82 := by rw [ha234, pNo]; exact ((sPu _ _ _).trans ((sPu _ _ _).trans ((sPu _ _ _).trans ((sPu _ _ _).trans ((sPu _ _ _).trans hz230)))))
      have hd234 : a234.defers = [] := by rw [ha234, pNo]; exact ((dPu _ _ _).trans ((dPu _ _ _).trans ((dPu _ _ _).trans ((dPu _ _ _).trans ((dPu _ _ _).trans hd230)))))
      have g234_6 : get a234 6 = .pointer (some ⟨w204.heap.size, 0, none⟩) := by rw [ha234, pNo, gPn (by decide), gPn (by decide), gPn (by decide), gPn (by decide), gPn (by decide), g230_6]
      clear ha234
      refine hK232 a234 wr ?_
      refine wp_ret ?_
      have hs7 := f7.size
      have hsa := hfra.size
      refine ⟨hd234, _, results_cellL (cs := [.int .i64 0, y233, .bool nu, .slice none 0 0, .slice none 0 0]) hres hFlT26 rfl g234_6 r7, _, rfl, hFa.trans f7 (fun r hr => .inl (by simp at hr; subst hr; simp only; omega)), ?_⟩
      rw [show fitK gS gO fd ver (.mk n s nl l u) = .mk 0 (wholeS s) nu [] [] from by unfold fitK; rw [if_pos hk8, hnu]; rfl]
      exact repT_iff.2 ⟨_, _, _, rfl, by omega, (hy233.kept f7 (by intro r hr hC; simp at hr; subst hr; have := hB _ hC; simp only at this; omega) (fun b hb => .inl hb)), .inl ⟨.inl rfl, rfl⟩, .inl ⟨.inl rfl, rfl⟩⟩
    · have hn9 : fd.kind ≠ 9 := by simpa using hc231
      have hn89 : ¬ (fd.kind = 8 ∨ fd.kind = 9) := by omega
      refine wp_seq_k fun K235 hK235 => ?_
      refine wp_reg ?_
      rw [wCo]
      refine wp_eql (k1 := .i64) (i := fd.kind) (j := 10) (by rw [eTm, g230_18]) rfl ?_
      rw [wCo]
      refine wAs (v := .bool ((fd.kind : Int) == (10 : Int))) (by rw [eTm, gPs (lt_sz hz230 (by decide))]) ?_
      refine wEn fun a236 ha236 => ?_
      have hz236 : a236.tmps.size = 82 := by rw [ha236]; exact ((sPu _ _ _).trans ((sPu _ _ _).trans hz230))
      have hd236 : a236.defers = [] := by rw [ha236]; exact ((dPu _ _ _).trans ((dPu _ _ _).trans hd230))
      have g236_1 : get a236 1 = .int .i64 ver := by rw [ha236, gPn (by decide), gPn (by decide), g230_1]
      have g236_3 : get a236 3 = .pointer (some ⟨w.heap.size, 0, none⟩) := by rw [ha236, gPn (by decide), gPn (by decide), g230_3]
      have g236_5 : get a236 5 = .pointer (some ⟨w202.heap.size, 0, none⟩) := by rw [ha236, gPn (by decide), gPn (by decide), g230_5]
      have g236_6 : get a236 6 = .pointer (some ⟨w204.heap.size, 0, none⟩) := by rw [ha236, gPn (by decide), gPn (by decide), g230_6]
      have g236_7 : get a236 7 = .bool nu := by rw [ha236, gPn (by decide), gPn (by decide), g230_7]
      have g236_18 : get a236 18 = .int .i64 fd.kind := by rw [ha236, gPn (by decide), gPn (by decide), g230_18]
      have g236_27 : get a236 27 = .bool ((fd.kind : Int) == (10 : Int)) := by rw [ha236, gPs (lt_sz ((sPu _ _ _).trans hz230) (by decide))]
      clear ha236
      refine hK235 a236 w214 ?_
      refine wp_cond_split (t := ((fd.kind : Int) == (10 : Int))) (by rw [eTm, g236_27]) (fun hc237 => ?_) (fun hc237 => ?_)
      · have hk10 : fd.kind = 10 := by simpa using hc237
        refine wp_seq_k fun K238 hK238 => ?_
        refine wp_reg ?_
        rw [wCo]
        refine wFa (b := w.heap.size) (i := 0) (hFlT46.fld (by decide)) (by rw [eTm, g236_3]) ?_
        rw [show (0 + 7 : Nat) = 7 from rfl]
        rw [wCo]
        refine wL0 (j := 7) (v := fsv) hcT28 (by rw [eTm, gPs (lt_sz hz236 (by decide))]) rb216 rfl ?_
        rw [wCo]
        refine wMv (v := .int .i64 ver) (by rw [eTm, gPn (by decide), gPn (by decide), g236_1]) ?_
        rw [wCo]
        refine wp_loadFlat (cs := [.int .i64 n, sv, .bool nl, lv, uv]) (b := w202.heap.size) (o := 0) hFlT26 rfl (by rw [eTm, gPn (by decide), gPn (by decide), gPn (by decide), g236_5]) rb217 ?_
        rw [wCo]
        have h7w := (hL215_w208).size
        refine wCr (R := fun x wz => ∃ cs : List Value, x = .agg cs.toArray ∧ Fr [] w214 wz ∧ RepT wz (fun b => B b ∨ From w214.heap.size wz b) cs (gS ver (.mk n s nl l u))) (vs := #[fsv, .int .i64 ver, .agg ([.int .i64 n, sv, .bool nl, lv, uv] : List Value).toArray]) (hT hk10).enters (by simp only [List.map_toArray, List.map_cons, List.map_nil]; rw [show ((((a236.put (some 29) (.pointer (some ⟨w.heap.size, 7, none⟩))).put (some 30) fsv).put (some 31) (.int .i64 ver)).put (some 32) (.agg ([.int .i64 n, sv, .bool nl, lv, uv] : List Value).toArray)).eval (.tmp 30) = fsv from (by rw [eTm, gPn (by decide), gPn (by decide), gPs (lt_sz ((sPu _ _ _).trans hz236) (by decide))]), show ((((a236.put (some 29) (.pointer (some ⟨w.heap.size, 7, none⟩))).put (some 30) fsv).put (some 31) (.int .i64 ver)).put (some 32) (.agg ([.int .i64 n, sv, .bool nl, lv, uv] : List Value).toArray)).eval (.tmp 31) = Value.int .i64 ver from (by rw [eTm, gPn (by decide), gPs (lt_sz ((sPu _ _ _).trans ((sPu _ _ _).trans hz236)) (by decide))]), show ((((a236.put (some 29) (.pointer (some ⟨w.heap.size, 7, none⟩))).put (some 30) fsv).put (some 31) (.int .i64 ver)).put (some 32) (.agg ([.int .i64 n, sv, .bool nl, lv, uv] : List Value).toArray)).eval (.tmp 32) = Value.agg ([.int .i64 n, sv, .bool nl, lv, uv] : List Value).toArray from (by rw [eTm, gPs (lt_sz ((sPu _ _ _).trans ((sPu _ _ _).trans ((sPu _ _ _).trans hz236))) (by decide))])]) (((hT hk10).call w214 A B ver fsv _ (.mk n s nl l u) (hsub.kept hF215 (by simp) (fun _ h => h)) (ht0.kept hF215 (by simp) (fun _ h => h)) (fun b hb => Nat.lt_of_lt_of_le (hA b hb) hF215.size) (fun b hb => Nat.lt_of_lt_of_le (hB b hb) hF215.size)).mono (by rintro e wz ⟨cs, rfl, h1, h2⟩; exact ⟨_, rfl, cs, rfl, h1, h2⟩)) ?_
        rintro _ w239 ⟨cs, rfl, fr239, hct⟩
        obtain ⟨y, hy⟩ : ∃ y, y = gS ver (.mk n s nl l u) := ⟨_, rfl⟩
        rw [← hy] at hct
        obtain ⟨n2, s2, nl2, l2, u2⟩ := y
        obtain ⟨sv2, lv2, uv2, rfl, hn2, hs2, hl2, hu2⟩ := repT_iff.1 hct
        have hF240 : Fr [] w w239 := hF215.tr fr239
        have hL240_w208 : Fr [] w208 w239 := hL215_w208.tr fr239
        have rb241 := fr239.range rb216 .nil
        have rb242 := fr239.range rb217 .nil
        have h7s := hL240_w208.size
        rw [wCo]
        have hgs243 := hF240.size
        have hgs244 := hL240_w208.size
        have hgs245 := (Fr.refl [] w239).size
        refine wp_allocL hFlT26 ?_
        rintro w246 f246 sz246 r246 th246
        have hF247 : Fr [] w w246 := hF240.tr f246
        have hL247_w208 : Fr [] w208 w246 := hL240_w208.tr f246
        have hL247_w239 : Fr [] w239 w246 := (Fr.refl [] w239).tr f246
        have rb248 := f246.range rb241 .nil
        have rb249 := f246.range rb242 .nil
        rw [wCo]
        refine wp_storeL (cs := [.int .i64 n2, sv2, .bool nl2, lv2, uv2]) (o := 0) hFlT26 rfl (by rw [eTm, gPs (lt_sz ((sPu _ _ _).trans ((sPu _ _ _).trans ((sPu _ _ _).trans ((sPu _ _ _).trans ((sPu _ _ _).trans hz236))))) (by decide))]) (by rw [eTm, gPn (by decide), gPs (lt_sz ((sPu _ _ _).trans ((sPu _ _ _).trans ((sPu _ _ _).trans ((sPu _ _ _).trans hz236)))) (by decide))]) (by intro u hu; simp at hu; rcases hu with rfl | rfl | rfl | rfl | rfl <;> first | rfl | exact hs2.one | exact hl2.one | exact hu2.one) th246 ?_
        rintro w250 f250 sz250 r250 th250
        have hF250 : Fr [] w w250 := hF247.trans f250 (fun r hr => .inl (by simp at hr; subst hr; have := hF240.size; simp only; omega))
        have rb251 := f250.range rb248 (.cons (.inl (by simp only; omega)) .nil)
        have rb252 := f250.range rb249 (.cons (.inl (by simp only; omega)) .nil)
        have hL250_w208 : Fr [] w208 w250 := hL247_w208.trans f250 (fun r hr => .inl (by simp at hr; subst hr; have := hL240_w208.size; simp only; omega))
        have hL250_w239 : Fr [] w239 w250 := hL247_w239.trans f250 (fun r hr => .inl (by simp at hr; subst hr; have := (Fr.refl [] w239).size; simp only; omega))
        refine wEn fun a253 ha253 => ?_
        have hz253 : a253.tmps.size = 82 := by rw [ha253, pNo]; exact ((sPu _ _ _).trans ((sPu _ _ _).trans ((sPu _ _ _).trans ((sPu _ _ _).trans ((sPu _ _ _).trans ((sPu _ _ _).trans hz236))))))
        have hd253 : a253.defers = [] := by rw [ha253, pNo]; exact ((dPu _ _ _).trans ((dPu _ _ _).trans ((dPu _ _ _).trans ((dPu _ _ _).trans ((dPu _ _ _).trans ((dPu _ _ _).trans hd236))))))
        have g253_6 : get a253 6 = .pointer (some ⟨w204.heap.size, 0, none⟩) := by rw [ha253, pNo, gPn (by decide), gPn (by decide), gPn (by decide), gPn (by decide), gPn (by decide), gPn (by decide), g236_6]
        have g253_7 : get a253 7 = .bool nu := by rw [ha253, pNo, gPn (by decide), gPn (by decide), gPn (by decide), gPn (by decide), gPn (by decide), gPn (by decide), g236_7]
        have g253_8 : get a253 8 = .pointer (some ⟨w239.heap.size, 0, none⟩) := by rw [ha253, pNo, gPs (lt_sz ((sPu _ _ _).trans ((sPu _ _ _).trans ((sPu _ _ _).trans ((sPu _ _ _).trans ((sPu _ _ _).trans hz236))))) (by decide))]
        clear ha253
        refine hK238 a253 w250 ?_
        refine wp_seq_k fun K254 hK254 => ?_
        refine wp_reg ?_
        rw [wCo]
        refine wMv (v := .bool nu) (by rw [eTm, g253_7]) ?_
        rw [wCo]
        refine wFa (b := w239.heap.size) (i := 0) (hFlT26.fld (by decide)) (by rw [eTm, gPn (by decide), g253_8]) ?_
        rw [show (0 + 2 : Nat) = 2 from rfl]
        rw [wCo]
        refine wp_storeK (v := .bool nu) (i := 2) (z := [.int .i64 n2, sv2, .bool nl2, lv2, uv2]) hcT4 (by rw [eTm, gPs (lt_sz ((sPu _ _ _).trans hz253) (by decide))]) (by rw [eTm, gPn (by decide), gPs (lt_sz hz253 (by decide))]) rfl (show 2 < 5 by decide) r250 th250 ?_
        rintro w255 f255 sz255 r255 th255
        have hF255 : Fr [] w w255 := hF250.trans f255 (fun r hr => .inl (by simp at hr; subst hr; have := hF250.size; simp only; omega))
        have hL255_w208 : Fr [] w208 w255 := hL250_w208.trans f255 (fun r hr => .inl (by simp at hr; subst hr; have := (hL240_w208).size; simp only; omega))
        have hL255_w239 : Fr [] w239 w255 := hL250_w239.trans f255 (fun r hr => .inl (by simp at hr; subst hr; have := ((Fr.refl [] w239)).size; simp only; omega))
        have rk255 : w255.rangeAt w239.heap.size 0 [.int .i64 n2, sv2, .bool nu, lv2, uv2] := r255
        refine wEn fun a256 ha256 => ?_
        have hz256 : a256.tmps.size = 82 := by rw [ha256, pNo]; exact ((sPu _ _ _).trans ((sPu _ _ _).trans hz253))
        have hd256 : a256.defers = [] := by rw [ha256, pNo]; exact ((dPu _ _ _).trans ((dPu _ _ _).trans hd253))
        have g256_6 : get a256 6 = .pointer (some ⟨w204.heap.size, 0, none⟩) := by rw [ha256, pNo, gPn (by decide), gPn (by decide), g253_6]
        have g256_8 : get a256 8 = .pointer (some ⟨w239.heap.size, 0, none⟩) := by rw [ha256, pNo, gPn (by decide), gPn (by decide), g253_8]
        clear ha256
        refine hK254 a256 w255 ?_
        refine wp_seq_k fun K257 hK257 => ?_
        refine wp_reg ?_
        rw [wCo]
        refine wp_loadFlat (cs := [.int .i64 n2, sv2, .bool nu, lv2, uv2]) (b := w239.heap.size) (o := 0) hFlT26 rfl (by rw [eTm, g256_8]) rk255 ?_
        rw [wCo]
        have hthR := (hL255_w208).there th208
        refine wp_storeFlat (cs := [.int .i64 n2, sv2, .bool nu, lv2, uv2]) (b := w204.heap.size) (o := 0) hFlT26 rfl (by rw [eTm, gPn (by decide), g256_6]) (by rw [eTm, gPs (lt_sz hz256 (by decide))]) (by intro y hy; simp at hy; rcases hy with rfl | rfl | rfl | rfl | rfl <;> first | rfl | exact hs2.one | exact hl2.one | exact hu2.one) hthR ?_
        have f7 := Fr.sets w204.heap.size [.int .i64 n2, sv2, .bool nu, lv2, uv2] w255 0
        have r7 := World.rangeAt_setCells_same (w := w255) w204.heap.size 0 [.int .i64 n2, sv2, .bool nu, lv2, uv2] hthR
        have hFa := hF255
        have hfra := hL255_w208
        generalize hw7 : w255.setCells w204.heap.size 0 [.int .i64 n2, sv2, .bool nu, lv2, uv2] = wr at f7 r7 ⊢
        clear hw7
        refine wEn fun a258 ha258 => ?_
        have hz258 : a258.tmps.size = 82 := by rw [ha258, pNo]; exact ((sPu _ _ _).trans hz256)
        have hd258 : a258.defers = [] := by rw [ha258, pNo]; exact ((dPu _ _ _).trans hd256)
        have g258_6 : get a258 6 = .pointer (some ⟨w204.heap.size, 0, none⟩) := by rw [ha258, pNo, gPn (by decide), g256_6]
        clear ha258
        refine hK257 a258 wr ?_
        refine wp_ret ?_
        have hs7 := f7.size
        have hsa := hfra.size
        refine ⟨hd258, _, results_cellL (cs := [.int .i64 n2, sv2, .bool nu, lv2, uv2]) hres hFlT26 rfl g258_6 r7, _, rfl, hFa.trans f7 (fun r hr => .inl (by simp at hr; subst hr; simp only; omega)), ?_⟩
        rw [show fitK gS gO fd ver (.mk n s nl l u) = .mk n2 s2 nu l2 u2 from by unfold fitK; rw [if_neg hn89, if_pos hk10, ← hy, hnu]; rfl]
        have hk7 : ∀ (X : World → (Nat → Prop) → Prop), True := fun _ => trivial
        have hf8 := hL255_w239
        have hb8 : ∀ b, (B b ∨ From w214.heap.size w239 b) → b ≠ w204.heap.size := by
          rintro b (h | h) he
          · have := hB b h; omega
          · have := h.1; omega
        have hup : ∀ b, (B b ∨ From w214.heap.size w239 b) → (B b ∨ From w.heap.size wr b) := fun b hb => hb.imp (fun h => h) (fun h => ⟨by have := h.1; omega, by have := h.2; have := hf8.size; omega⟩)
        exact repT_iff.2 ⟨_, _, _, rfl, hn2, (hs2.kept hf8 (by simp) (fun _ h => h)).kept f7 (fun r hr hC => by simp at hr; subst hr; exact hb8 _ hC rfl) hup, (hl2.kept hf8 (by simp) (fun _ h => h)).kept f7 (fun r hr hC => by simp at hr; subst hr; exact hb8 _ hC rfl) hup, (hu2.kept hf8 (by simp) (fun _ h => h)).kept f7 (fun r hr hC => by simp at hr; subst hr; exact hb8 _ hC rfl) hup⟩
      · have hn10 : fd.kind ≠ 10 := by simpa using hc237
        refine wp_seq_k fun K259 hK259 => ?_
        refine wp_reg ?_
        rw [wCo]
        refine wp_eql (k1 := .i64) (i := fd.kind) (j := 11) (by rw [eTm, g236_18]) rfl ?_
        rw [wCo]
        refine wAs (v := .bool ((fd.kind : Int) == (11 : Int))) (by rw [eTm, gPs (lt_sz hz236 (by decide))]) ?_
        refine wEn fun a260 ha260 => ?_
        have hz260 : a260.tmps.size = 82 := by rw [ha260]; exact ((sPu _ _ _).trans ((sPu _ _ _).trans hz236))
        have hd260 : a260.defers = [] := by rw [ha260]; exact ((dPu _ _ _).trans ((dPu _ _ _).trans hd236))
        have g260_1 : get a260 1 = .int .i64 ver := by rw [ha260, gPn (by decide), gPn (by decide), g236_1]
        have g260_3 : get a260 3 = .pointer (some ⟨w.heap.size, 0, none⟩) := by rw [ha260, gPn (by decide), gPn (by decide), g236_3]
        have g260_5 : get a260 5 = .pointer (some ⟨w202.heap.size, 0, none⟩) := by rw [ha260, gPn (by decide), gPn (by decide), g236_5]
        have g260_6 : get a260 6 = .pointer (some ⟨w204.heap.size, 0, none⟩) := by rw [ha260, gPn (by decide), gPn (by decide), g236_6]
        have g260_7 : get a260 7 = .bool nu := by rw [ha260, gPn (by decide), gPn (by decide), g236_7]
        have g260_37 : get a260 37 = .bool ((fd.kind : Int) == (11 : Int)) := by rw [ha260, gPs (lt_sz ((sPu _ _ _).trans hz236) (by decide))]
        clear ha260
        refine hK259 a260 w214 ?_
        refine wp_cond_split (t := ((fd.kind : Int) == (11 : Int))) (by rw [eTm, g260_37]) (fun hc261 => ?_) (fun hc261 => ?_)
        · have hk11 : fd.kind = 11 := by simpa using hc261
          refine wp_seq_k fun K262 hK262 => ?_
          have hw11 := (hL215_w208).size
          have hJ263 : ∀ (a' : Act) (w' : World), (a'.tmps.size = 82 ∧ a'.defers = [] ∧ get a' 1 = .int .i64 ver ∧ get a' 3 = .pointer (some ⟨w.heap.size, 0, none⟩) ∧ get a' 5 = .pointer (some ⟨w202.heap.size, 0, none⟩) ∧ get a' 6 = .pointer (some ⟨w204.heap.size, 0, none⟩) ∧ get a' 9 = .pointer (some ⟨w214.heap.size, 0, none⟩) ∧ w'.rangeAt w214.heap.size 0 [.int .i64 0, .slice none 0 0, .bool (nu || (decide (fd.tag ≥ 0) && (l.length == 0))), .slice none 0 0, .slice none 0 0] ∧ w'.there w214.heap.size 0 5 ∧ Fr [] w w' ∧ Fr [] w208 w' ∧ w'.rangeAt w.heap.size 0 [.int .i64 fd.kind, .int .i64 fd.fr, .int .i64 fd.to, .int .i64 fd.nul, .int .i64 fd.tag, .int .i64 fd.df, .int .i64 fd.of, fsv] ∧ w'.rangeAt w202.heap.size 0 [.int .i64 n, sv, .bool nl, lv, uv] ∧ w214.heap.size < w'.heap.size) → K262 a' w' := by
            rintro a263 w263 ⟨hz263, hd263, g263_1, g263_3, g263_5, g263_6, g263_9, r11, th11, hF11, hfa11, hb3, hb5, hS11⟩
            have hsj := hS11
            refine hK262 a263 w263 ?_
            refine wp_seq_k fun K264 hK264 => ?_
            refine wp_reg ?_
            rw [wCo]
            refine wp_loadFlat (cs := [.int .i64 fd.kind, .int .i64 fd.fr, .int .i64 fd.to, .int .i64 fd.nul, .int .i64 fd.tag, .int .i64 fd.df, .int .i64 fd.of, fsv]) (b := w.heap.size) (o := 0) hFlT46 rfl (by rw [eTm, g263_3]) hb3 ?_
            rw [wCo]
            have hgs265 := hF11.size
            have hgs266 := hfa11.size
            have hgs267 := (Fr.refl [] w263).size
            refine wp_allocL hFlT46 ?_
            rintro w268 f268 sz268 r268 th268
            have hF269 : Fr [] w w268 := hF11.tr f268
            have hL269_w208 : Fr [] w208 w268 := hfa11.tr f268
            have hL269_w263 : Fr [] w263 w268 := (Fr.refl [] w263).tr f268
            have rb270 := f268.range hb3 .nil
            have rb271 := f268.range hb5 .nil
            have rb272 := f268.range r11 .nil
            rw [wCo]
            refine wp_storeL (cs := [.int .i64 fd.kind, .int .i64 fd.fr, .int .i64 fd.to, .int .i64 fd.nul, .int .i64 fd.tag, .int .i64 fd.df, .int .i64 fd.of, fsv]) (o := 0) hFlT46 rfl (by rw [eTm, gPs (lt_sz ((sPu _ _ _).trans hz263) (by decide))]) (by rw [eTm, gPn (by decide), gPs (lt_sz hz263 (by decide))]) (by intro u hu; simp at hu; rcases hu with rfl | rfl | rfl | rfl | rfl | rfl | rfl | rfl <;> first | rfl | exact hsub.one) th268 ?_
            rintro w273 f273 sz273 r273 th273
            have hF273 : Fr [] w w273 := hF269.trans f273 (fun r hr => .inl (by simp at hr; subst hr; have := hF11.size; simp only; omega))
            have rb274 := f273.range rb270 (.cons (.inl (by simp only; omega)) .nil)
            have rb275 := f273.range rb271 (.cons (.inl (by simp only; omega)) .nil)
            have rb276 := f273.range rb272 (.cons (.inl (by simp only; omega)) .nil)
            have hL273_w208 : Fr [] w208 w273 := hL269_w208.trans f273 (fun r hr => .inl (by simp at hr; subst hr; have := hfa11.size; simp only; omega))
            have hL273_w263 : Fr [] w263 w273 := hL269_w263.trans f273 (fun r hr => .inl (by simp at hr; subst hr; have := (Fr.refl [] w263).size; simp only; omega))
            refine wEn fun a277 ha277 => ?_
            have hz277 : a277.tmps.size = 82 := by rw [ha277, pNo]; exact ((sPu _ _ _).trans ((sPu _ _ _).trans hz263))
            have hd277 : a277.defers = [] := by rw [ha277, pNo]; exact ((dPu _ _ _).trans ((dPu _ _ _).trans hd263))
            have g277_1 : get a277 1 = .int .i64 ver := by rw [ha277, pNo, gPn (by decide), gPn (by decide), g263_1]
            have g277_3 : get a277 3 = .pointer (some ⟨w.heap.size, 0, none⟩) := by rw [ha277, pNo, gPn (by decide), gPn (by decide), g263_3]
            have g277_5 : get a277 5 = .pointer (some ⟨w202.heap.size, 0, none⟩) := by rw [ha277, pNo, gPn (by decide), gPn (by decide), g263_5]
            have g277_6 : get a277 6 = .pointer (some ⟨w204.heap.size, 0, none⟩) := by rw [ha277, pNo, gPn (by decide), gPn (by decide), g263_6]
            have g277_9 : get a277 9 = .pointer (some ⟨w214.heap.size, 0, none⟩) := by rw [ha277, pNo, gPn (by decide), gPn (by decide), g263_9]
            have g277_10 : get a277 10 = .pointer (some ⟨w263.heap.size, 0, none⟩) := by rw [ha277, pNo, gPs (lt_sz ((sPu _ _ _).trans hz263) (by decide))]
            clear ha277
            refine hK264 a277 w273 ?_
            refine wp_seq_k fun K278 hK278 => ?_
            refine wp_reg ?_
            rw [wCo]
            refine wFa (b := w.heap.size) (i := 0) (hFlT46.fld (by decide)) (by rw [eTm, g277_3]) ?_
            rw [show (0 + 6 : Nat) = 6 from rfl]
            rw [wCo]
            refine wL0 (j := 6) (v := .int .i64 fd.of) hcT3 (by rw [eTm, gPs (lt_sz hz277 (by decide))]) rb274 rfl ?_
            rw [wCo]
            refine wFa (b := w263.heap.size) (i := 0) (hFlT46.fld (by decide)) (by rw [eTm, gPn (by decide), gPn (by decide), g277_10]) ?_
            rw [show (0 + 0 : Nat) = 0 from rfl]
            rw [wCo]
            refine wp_storeK (v := .int .i64 fd.of) (i := 0) (z := [.int .i64 fd.kind, .int .i64 fd.fr, .int .i64 fd.to, .int .i64 fd.nul, .int .i64 fd.tag, .int .i64 fd.df, .int .i64 fd.of, fsv]) hcT3 (by rw [eTm, gPs (lt_sz ((sPu _ _ _).trans ((sPu _ _ _).trans hz277)) (by decide))]) (by rw [eTm, gPn (by decide), gPs (lt_sz ((sPu _ _ _).trans hz277) (by decide))]) rfl (show 0 < 8 by decide) r273 th273 ?_
            rintro w279 f279 sz279 r279 th279
            have hF279 : Fr [] w w279 := hF273.trans f279 (fun r hr => .inl (by simp at hr; subst hr; have := hF11.size; simp only; omega))
            have rb280 := f279.range rb274 (.cons (.inl (by simp only; omega)) .nil)
            have rb281 := f279.range rb275 (.cons (.inl (by simp only; omega)) .nil)
            have rb282 := f279.range rb276 (.cons (.inl (by simp only; omega)) .nil)
            have hL279_w208 : Fr [] w208 w279 := hL273_w208.trans f279 (fun r hr => .inl (by simp at hr; subst hr; have := hfa11.size; simp only; omega))
            have hL279_w263 : Fr [] w263 w279 := hL273_w263.trans f279 (fun r hr => .inl (by simp at hr; subst hr; have := (Fr.refl [] w263).size; simp only; omega))
            have rk279 : w279.rangeAt w263.heap.size 0 [.int .i64 fd.of, .int .i64 fd.fr, .int .i64 fd.to, .int .i64 fd.nul, .int .i64 fd.tag, .int .i64 fd.df, .int .i64 fd.of, fsv] := r279
            rw [wCo]
            refine wFa (b := w263.heap.size) (i := 0) (hFlT46.fld (by decide)) (by rw [eTm, pNo, gPn (by decide), gPn (by decide), gPn (by decide), g277_10]) ?_
            rw [show (0 + 3 : Nat) = 3 from rfl]
            rw [wCo]
            refine wp_storeK (v := .int .i64 (-1)) (i := 3) (z := [.int .i64 fd.of, .int .i64 fd.fr, .int .i64 fd.to, .int .i64 fd.nul, .int .i64 fd.tag, .int .i64 fd.df, .int .i64 fd.of, fsv]) hcT3 (by rw [eTm, gPs (lt_sz ((sPu _ _ _).trans ((sPu _ _ _).trans ((sPu _ _ _).trans ((sPu _ _ _).trans hz277)))) (by decide))]) rfl rfl (show 3 < 8 by decide) rk279 th279 ?_
            rintro w283 f283 sz283 r283 th283
            have hF283 : Fr [] w w283 := hF279.trans f283 (fun r hr => .inl (by simp at hr; subst hr; have := hF11.size; simp only; omega))
            have rb284 := f283.range rb280 (.cons (.inl (by simp only; omega)) .nil)
            have rb285 := f283.range rb281 (.cons (.inl (by simp only; omega)) .nil)
            have rb286 := f283.range rb282 (.cons (.inl (by simp only; omega)) .nil)
            have hL283_w208 : Fr [] w208 w283 := hL279_w208.trans f283 (fun r hr => .inl (by simp at hr; subst hr; have := hfa11.size; simp only; omega))
            have hL283_w263 : Fr [] w263 w283 := hL279_w263.trans f283 (fun r hr => .inl (by simp at hr; subst hr; have := (Fr.refl [] w263).size; simp only; omega))
            have rk283 : w283.rangeAt w263.heap.size 0 [.int .i64 fd.of, .int .i64 fd.fr, .int .i64 fd.to, .int .i64 (-1), .int .i64 fd.tag, .int .i64 fd.df, .int .i64 fd.of, fsv] := r283
            rw [wCo]
            refine wFa (b := w263.heap.size) (i := 0) (hFlT46.fld (by decide)) (by rw [eTm, pNo, gPn (by decide), pNo, gPn (by decide), gPn (by decide), gPn (by decide), g277_10]) ?_
            rw [show (0 + 4 : Nat) = 4 from rfl]
            rw [wCo]
            refine wp_storeK (v := .int .i64 (-1)) (i := 4) (z := [.int .i64 fd.of, .int .i64 fd.fr, .int .i64 fd.to, .int .i64 (-1), .int .i64 fd.tag, .int .i64 fd.df, .int .i64 fd.of, fsv]) hcT3 (by rw [eTm, gPs (lt_sz ((sPu _ _ _).trans ((sPu _ _ _).trans ((sPu _ _ _).trans ((sPu _ _ _).trans ((sPu _ _ _).trans ((sPu _ _ _).trans hz277)))))) (by decide))]) rfl rfl (show 4 < 8 by decide) rk283 th283 ?_
            rintro w287 f287 sz287 r287 th287
            have hF287 : Fr [] w w287 := hF283.trans f287 (fun r hr => .inl (by simp at hr; subst hr; have := hF11.size; simp only; omega))
            have rb288 := f287.range rb284 (.cons (.inl (by simp only; omega)) .nil)
            have rb289 := f287.range rb285 (.cons (.inl (by simp only; omega)) .nil)
            have rb290 := f287.range rb286 (.cons (.inl (by simp only; omega)) .nil)
            have hL287_w208 : Fr [] w208 w287 := hL283_w208.trans f287 (fun r hr => .inl (by simp at hr; subst hr; have := hfa11.size; simp only; omega))
            have hL287_w263 : Fr [] w263 w287 := hL283_w263.trans f287 (fun r hr => .inl (by simp at hr; subst hr; have := (Fr.refl [] w263).size; simp only; omega))
            have rk287 : w287.rangeAt w263.heap.size 0 [.int .i64 fd.of, .int .i64 fd.fr, .int .i64 fd.to, .int .i64 (-1), .int .i64 (-1), .int .i64 fd.df, .int .i64 fd.of, fsv] := r287
            refine wEn fun a291 ha291 => ?_
            have hz291 : a291.tmps.size = 82 := by rw [ha291, pNo, pNo, pNo]; exact ((sPu _ _ _).trans ((sPu _ _ _).trans ((sPu _ _ _).trans ((sPu _ _ _).trans ((sPu _ _ _).trans hz277)))))
            have hd291 : a291.defers = [] := by rw [ha291, pNo, pNo, pNo]; exact ((dPu _ _ _).trans ((dPu _ _ _).trans ((dPu _ _ _).trans ((dPu _ _ _).trans ((dPu _ _ _).trans hd277)))))
            have g291_1 : get a291 1 = .int .i64 ver := by rw [ha291, pNo, pNo, pNo, gPn (by decide), gPn (by decide), gPn (by decide), gPn (by decide), gPn (by decide), g277_1]
            have g291_5 : get a291 5 = .pointer (some ⟨w202.heap.size, 0, none⟩) := by rw [ha291, pNo, pNo, pNo, gPn (by decide), gPn (by decide), gPn (by decide), gPn (by decide), gPn (by decide), g277_5]
            have g291_6 : get a291 6 = .pointer (some ⟨w204.heap.size, 0, none⟩) := by rw [ha291, pNo, pNo, pNo, gPn (by decide), gPn (by decide), gPn (by decide), gPn (by decide), gPn (by decide), g277_6]
            have g291_9 : get a291 9 = .pointer (some ⟨w214.heap.size, 0, none⟩) := by rw [ha291, pNo, pNo, pNo, gPn (by decide), gPn (by decide), gPn (by decide), gPn (by decide), gPn (by decide), g277_9]
            have g291_10 : get a291 10 = .pointer (some ⟨w263.heap.size, 0, none⟩) := by rw [ha291, pNo, pNo, pNo, gPn (by decide), gPn (by decide), gPn (by decide), gPn (by decide), gPn (by decide), g277_10]
            clear ha291
            have hone : RepF w A [.int .i64 fd.of, .int .i64 fd.fr, .int .i64 fd.to, .int .i64 (-1), .int .i64 (-1), .int .i64 fd.df, .int .i64 fd.of, fsv] (oneF fd) := repF_iff.2 ⟨fsv, rfl, hsub⟩
            refine hK278 a291 w287 ?_
            refine wp_seq_k fun K292 hK292 => ?_
            refine wp_seq_k fun K293 hK293 => ?_
            refine wp_reg ?_
            rw [wCo]
            refine wFa (b := w202.heap.size) (i := 0) (hFlT26.fld (by decide)) (by rw [eTm, g291_5]) ?_
            rw [show (0 + 3 : Nat) = 3 from rfl]
            rw [wCo]
            refine wL0 (j := 3) (v := lv) hcT23 (by rw [eTm, gPs (lt_sz hz291 (by decide))]) rb289 rfl ?_
            rw [wCo]
            refine wCr (R := fun x wz => Things wz B x (l.take 32767) ∧ w287 = wz) (vs := #[lv]) hTh.enters (by simp only [List.map_toArray, List.map_cons, List.map_nil]; rw [show ((a291.put (some 58) (.pointer (some ⟨w202.heap.size, 3, none⟩))).put (some 59) lv).eval (.tmp 59) = lv from (by rw [eTm, gPs (lt_sz ((sPu _ _ _).trans hz291) (by decide))])]) ((hTh.call w287 B lv l (hl.kept hF287 (by simp) (fun _ h => h))).mono (by rintro e w' ⟨x, rfl, h1, rfl⟩; exact ⟨x, rfl, h1, rfl⟩)) ?_
            rintro x294 _ ⟨hx294, rfl⟩
            obtain ⟨lq, lcap, rfl, -, -, hle⟩ := hx294.sl2
            rw [wCo]
            refine wp_lenS (n := (l.take 32767).length) hsT23 (by rw [eTm, gPs (lt_sz ((sPu _ _ _).trans ((sPu _ _ _).trans hz291)) (by decide))]) ?_
            rw [wCo]
            refine wMv (v := .int .i64 0) rfl ?_
            refine wEn fun a295 ha295 => ?_
            have hz295 : a295.tmps.size = 82 := by rw [ha295]; exact ((sPu _ _ _).trans ((sPu _ _ _).trans ((sPu _ _ _).trans ((sPu _ _ _).trans ((sPu _ _ _).trans hz291)))))
            have hd295 : a295.defers = [] := by rw [ha295]; exact ((dPu _ _ _).trans ((dPu _ _ _).trans ((dPu _ _ _).trans ((dPu _ _ _).trans ((dPu _ _ _).trans hd291)))))
            have g295_1 : get a295 1 = .int .i64 ver := by rw [ha295, gPn (by decide), gPn (by decide), gPn (by decide), gPn (by decide), gPn (by decide), g291_1]
            have g295_6 : get a295 6 = .pointer (some ⟨w204.heap.size, 0, none⟩) := by rw [ha295, gPn (by decide), gPn (by decide), gPn (by decide), gPn (by decide), gPn (by decide), g291_6]
            have g295_9 : get a295 9 = .pointer (some ⟨w214.heap.size, 0, none⟩) := by rw [ha295, gPn (by decide), gPn (by decide), gPn (by decide), gPn (by decide), gPn (by decide), g291_9]
            have g295_10 : get a295 10 = .pointer (some ⟨w263.heap.size, 0, none⟩) := by rw [ha295, gPn (by decide), gPn (by decide), gPn (by decide), gPn (by decide), gPn (by decide), g291_10]
            have g295_60 : get a295 60 = .slice lq ((l.take 32767).length) lcap := by rw [ha295, gPn (by decide), gPn (by decide), gPs (lt_sz ((sPu _ _ _).trans ((sPu _ _ _).trans hz291)) (by decide))]
            have g295_61 : get a295 61 = .int .i64 (((l.take 32767).length : Nat) : Int) := by rw [ha295, gPn (by decide), gPs (lt_sz ((sPu _ _ _).trans ((sPu _ _ _).trans ((sPu _ _ _).trans hz291))) (by decide))]
            have g295_62 : get a295 62 = .int .i64 0 := by rw [ha295, gPs (lt_sz ((sPu _ _ _).trans ((sPu _ _ _).trans ((sPu _ _ _).trans ((sPu _ _ _).trans hz291)))) (by decide))]
            clear ha295
            have hl7 : (l.take 32767).length ≤ 32767 := by simp; omega
            have hgs := hL287_w263.size
            have hsa2 := hfa11.size
            obtain ⟨e, he⟩ : ∃ e : GE, e = ⟨w202.heap.size, w204.heap.size, w214.heap.size, w.heap.size, w287.heap.size, B⟩ := ⟨_, rfl⟩
            have hgm0 : GM w287 e [.int .i64 n, sv, .bool nl, lv, uv] 0 (.slice none 0 0) (nu || (decide (fd.tag ≥ 0) && (l.length == 0))) (.slice none 0 0) (.slice none 0 0) := by rw [he]; exact ⟨rb289, rb290, (hL287_w263).there th11, (hL287_w208).there th208, hB, by simp only; omega, by simp only; omega, by simp only; omega, by simp only; omega, by simp only; omega, by simp only; omega, by simp only; omega, by simp only; omega, Nat.le_refl _⟩
            have hes1 : e.s1 = w287.heap.size := by rw [he]
            have heA : e.A = B := by rw [he]
            have hes0 : e.s0 = w.heap.size := by rw [he]
            have herb : e.rb = w204.heap.size := by rw [he]
            rw [show w214.heap.size = e.ob from by rw [he]] at g295_9
            have hga : ∀ b, e.A b → b < e.s0 := hgm0.a0
            have hg01 : e.s0 ≤ e.s1 := Nat.le_trans hgm0.ob0 (Nat.le_of_lt hgm0.ob1)
            have hb10 : w263.heap.size < e.s1 ∧ w263.heap.size ≠ e.ob := by rw [he]; simp only; omega
            clear he
            obtain ⟨fl, hfl0⟩ : ∃ x, x = (l.take 32767).map (gO ver) := ⟨_, rfl⟩
            have hfll : fl.length = (l.take 32767).length := by rw [hfl0]; simp
            refine hK293 a295 w287 ?_
            refine wp_block (wp_loop_ghost (fun (m : Nat) a' w' => ∃ (j : Nat) (lw : Value), a'.tmps.size = 82 ∧ a'.defers = [] ∧ get a' 1 = .int .i64 ver ∧ get a' 6 = .pointer (some ⟨w204.heap.size, 0, none⟩) ∧ get a' 9 = .pointer (some ⟨e.ob, 0, none⟩) ∧ get a' 10 = .pointer (some ⟨w263.heap.size, 0, none⟩) ∧ get a' 60 = .slice lq ((l.take 32767).length) lcap ∧ get a' 61 = .int .i64 (((l.take 32767).length : Nat) : Int) ∧ get a' 62 = .int .i64 (j : Int) ∧ j + m = (l.take 32767).length ∧ GM w' e [.int .i64 n, sv, .bool nl, lv, uv] 0 (.slice none 0 0) (nu || (decide (fd.tag ≥ 0) && (l.length == 0))) lw (.slice none 0 0) ∧ GL w' e lw (fl.take j) ∧ Fr [] w w' ∧ e.s1 ≤ w'.heap.size ∧ w'.rangeAt w263.heap.size 0 [.int .i64 fd.of, .int .i64 fd.fr, .int .i64 fd.to, .int .i64 (-1), .int .i64 (-1), .int .i64 fd.df, .int .i64 fd.of, fsv] ∧ Fr [⟨e.ob, 0, 5⟩] w287 w') ((l.take 32767).length) ?_ ?_)
            · exact ⟨0, .slice none 0 0, hz295, hd295, g295_1, g295_6, g295_9, g295_10, g295_60, g295_61, g295_62, by omega, hgm0, ⟨by simpa using LOwn.nil, by simp [blk]⟩, hF287, Nat.le_of_eq hes1, rk287, Fr.refl _ _⟩
            · rintro m a296 w296 ⟨j, lw, hz296, hd296, g296_1, g296_6, g296_9, g296_10, g296_60, g296_61, g296_62, hjm, hgm, hgl, hfl1, hSl, hb10r, hf14⟩
              refine wp_seq_k fun K297 hK297 => ?_
              refine wp_reg ?_
              rw [wCo]
              refine wp_lss (k1 := .i64) (i := (j : Int)) (j := (((l.take 32767).length : Nat) : Int)) (by rw [eTm, g296_62]) (by rw [eTm, g296_61]) ?_
              refine wEn fun a298 ha298 => ?_
              have hz298 : a298.tmps.size = 82 := by rw [ha298]; exact ((sPu _ _ _).trans hz296)
              have hd298 : a298.defers = [] := by rw [ha298]; exact ((dPu _ _ _).trans hd296)
              have g298_1 : get a298 1 = .int .i64 ver := by rw [ha298, gPn (by decide), g296_1]
              have g298_6 : get a298 6 = .pointer (some ⟨w204.heap.size, 0, none⟩) := by rw [ha298, gPn (by decide), g296_6]
              have g298_9 : get a298 9 = .pointer (some ⟨e.ob, 0, none⟩) := by rw [ha298, gPn (by decide), g296_9]
              have g298_10 : get a298 10 = .pointer (some ⟨w263.heap.size, 0, none⟩) := by rw [ha298, gPn (by decide), g296_10]
              have g298_60 : get a298 60 = .slice lq ((l.take 32767).length) lcap := by rw [ha298, gPn (by decide), g296_60]
              have g298_61 : get a298 61 = .int .i64 (((l.take 32767).length : Nat) : Int) := by rw [ha298, gPn (by decide), g296_61]
              have g298_62 : get a298 62 = .int .i64 (j : Int) := by rw [ha298, gPn (by decide), g296_62]
              have g298_63 : get a298 63 = .bool (decide (((j : Int) : Int) < ((((l.take 32767).length : Nat) : Int) : Int))) := by rw [ha298, gPs (lt_sz hz296 (by decide))]
              clear ha298
              refine hK297 a298 w296 ?_
              refine wp_seq_k fun K299 hK299 => ?_
              refine wp_cond_split (t := decide (((j : Int) : Int) < ((((l.take 32767).length : Nat) : Int) : Int))) (by rw [eTm, g298_63]) (fun hc300 => ?_) (fun hc300 => ?_)
              · have hjl : j < (l.take 32767).length := by simpa using hc300
                obtain ⟨x, hx⟩ : ∃ x, (l.take 32767)[j]? = some x := ⟨_, List.getElem?_eq_getElem hjl⟩
                obtain ⟨lb, lo, lc, hlq, hlb, hlr, hlt⟩ := hle j x hx
                have hll := hlt.length
                have hlo := hlt.ones
                have htk := take_at (l := fl) (x := gO ver x) (by rw [hfl0, List.getElem?_map, hx]; rfl)
                have htl : (fl.take j).length = j := by simp; omega
                have hnob : ∀ b, B b → b ≠ e.ob := fun b hb h => by have := hga b (heA ▸ hb); have := hgm.ob0; omega
                refine wp_skip ?_
                refine hK299 a298 w296 ?_
                refine wp_seq_k fun K301 hK301 => ?_
                refine wp_blockT ?_
                refine wp_seq_k fun K302 hK302 => ?_
                refine wp_reg ?_
                rw [wCo]
                refine wp_ixN (b := lb) (o := lo) (i := j) hs_T23 (by rw [eTm, g298_60, hlq]) (by rw [eTm, g298_62]) hjl ?_
                rw [wCo]
                refine wp_loadFlat (cs := lc) (b := lb) (o := lo + j * 5) hFlT26 hll (by rw [eTm, gPs (lt_sz hz298 (by decide))]) (hf14.range hlr (.cons (.inl fun h => hnob _ hlb h.symm) .nil)) ?_
                rw [wCo]
                have hgs303 := hfl1.size
                have hgs304 := (Fr.refl [] w296).size
                refine wp_allocL hFlT26 ?_
                rintro w305 f305 sz305 r305 th305
                have hF306 : Fr [] w w305 := hfl1.tr f305
                have hL306_w296 : Fr [] w296 w305 := (Fr.refl [] w296).tr f305
                rw [wCo]
                refine wp_storeL (cs := lc) (o := 0) hFlT26 hll (by rw [eTm, gPs (lt_sz ((sPu _ _ _).trans ((sPu _ _ _).trans hz298)) (by decide))]) (by rw [eTm, gPn (by decide), gPs (lt_sz ((sPu _ _ _).trans hz298) (by decide))]) hlo th305 ?_
                rintro w307 f307 sz307 r307 th307
                have hF307 : Fr [] w w307 := hF306.trans f307 (fun r hr => .inl (by simp at hr; subst hr; have := hfl1.size; simp only; omega))
                have hL307_w296 : Fr [] w296 w307 := hL306_w296.trans f307 (fun r hr => .inl (by simp at hr; subst hr; have := (Fr.refl [] w296).size; simp only; omega))
                refine wEn fun a308 ha308 => ?_
                have hz308 : a308.tmps.size = 82 := by rw [ha308, pNo]; exact ((sPu _ _ _).trans ((sPu _ _ _).trans ((sPu _ _ _).trans hz298)))
                have hd308 : a308.defers = [] := by rw [ha308, pNo]; exact ((dPu _ _ _).trans ((dPu _ _ _).trans ((dPu _ _ _).trans hd298)))
                have g308_1 : get a308 1 = .int .i64 ver := by rw [ha308, pNo, gPn (by decide), gPn (by decide), gPn (by decide), g298_1]
                have g308_6 : get a308 6 = .pointer (some ⟨w204.heap.size, 0, none⟩) := by rw [ha308, pNo, gPn (by decide), gPn (by decide), gPn (by decide), g298_6]
                have g308_9 : get a308 9 = .pointer (some ⟨e.ob, 0, none⟩) := by rw [ha308, pNo, gPn (by decide), gPn (by decide), gPn (by decide), g298_9]
                have g308_10 : get a308 10 = .pointer (some ⟨w263.heap.size, 0, none⟩) := by rw [ha308, pNo, gPn (by decide), gPn (by decide), gPn (by decide), g298_10]
                have g308_12 : get a308 12 = .pointer (some ⟨w296.heap.size, 0, none⟩) := by rw [ha308, pNo, gPs (lt_sz ((sPu _ _ _).trans ((sPu _ _ _).trans hz298)) (by decide))]
                have g308_60 : get a308 60 = .slice lq ((l.take 32767).length) lcap := by rw [ha308, pNo, gPn (by decide), gPn (by decide), gPn (by decide), g298_60]
                have g308_61 : get a308 61 = .int .i64 (((l.take 32767).length : Nat) : Int) := by rw [ha308, pNo, gPn (by decide), gPn (by decide), gPn (by decide), g298_61]
                have g308_62 : get a308 62 = .int .i64 (j : Int) := by rw [ha308, pNo, gPn (by decide), gPn (by decide), gPn (by decide), g298_62]
                clear ha308
                refine hK302 a308 w307 ?_
                have hgm5 := hgm.kept hL307_w296 (by simp)
                have hgl5 := hgl.keep hL307_w296
                have hS5 : e.s1 ≤ w307.heap.size := Nat.le_trans hSl hL307_w296.size
                have hbl5 : ∀ b, blk lw = some b → b < w307.heap.size := fun b hb => by
                  rcases hgl5.1.blk_in hb with h | h
                  · have := hga b h; omega
                  · exact h.2
                have hlt5 := (hlt.kept hf14 (fun r hr hb => by simp at hr; subst hr; exact hnob _ hb rfl) (fun _ h => h)).kept hL307_w296 (by simp) (fun _ h => h)
                have hb10x := hL307_w296.range hb10r .nil
                refine wp_drawR (os := [⟨some 66, .fieldAddr T26 (.tmp 9) 3, t72, p72, e72, none⟩, ⟨some 67, .load T23 (.tmp 66), t73, p73, e73, none⟩, ⟨some 68, .load T46 (.tmp 10), t74, p74, e74, none⟩, ⟨some 69, .move (.tmp 1), t75, p75, e75, none⟩, ⟨some 70, .load T26 (.tmp 12), t76, p76, e76, none⟩, ⟨some 71, .call ⟨.value (.func f32), #[(.tmp 68), (.tmp 69), (.tmp 70)], ct4⟩, t77, p77, e77, none⟩, ⟨some 72, .buildSlice T23 1 #[(0, .tmp 71)], t78, p78, e78, none⟩]) (rest := [⟨some 73, .call ⟨.builtin .append, #[(.tmp 67), (.tmp 72)], #[T23, T23]⟩, t79, p79, e79, none⟩, ⟨some 74, .fieldAddr T26 (.tmp 9) 3, t80, p80, e80, none⟩, ⟨none, .store T23 (.tmp 74) (.tmp 73), t81, p81, e81, none⟩]) [spC [] (.pointer (some ⟨e.ob, 3, none⟩)), spC [0] (lw), spC [] (.agg ([.int .i64 fd.of, .int .i64 fd.fr, .int .i64 fd.to, .int .i64 (-1), .int .i64 (-1), .int .i64 fd.df, .int .i64 fd.of, fsv] : List Value).toArray), spC [] (.int .i64 ver), spC [] (.agg (lc).toArray), spR [2, 3, 4] (fun z w' => ∃ cs : List Value, z = .agg cs.toArray ∧ RepT w' (fun b => B b ∨ From w307.heap.size w' b) cs (gO ver x)), spR [5] (fun z w' => ∃ (xb : Nat) (cs : List Value), z = .slice (some ⟨xb, 0, none⟩) 1 1 ∧ w307.heap.size ≤ xb ∧ w'.rangeAt xb 0 cs ∧ RepT w' (fun b => B b ∨ From w307.heap.size w' b) cs (gO ver x))] 66 [] hmx he17 (by simp [shape]) (by simp [plainO]) (by simp [spC, spR]) (by simp; omega) ⟨lCc _ _ _, lCc _ _ _, lCc _ _ _, lCc _ _ _, lCc _ _ _, (fun v w1 w2 f h => by obtain ⟨cs, h1, h2⟩ := h; exact ⟨cs, h1, h2.kept f (by simp) (fun b hb => hb.imp (fun h => h) (From.mono f.size b))⟩), (fun v w1 w2 f h => by obtain ⟨xb, cs, h1, h2, h3, h4⟩ := h; exact ⟨xb, cs, h1, h2, f.range h3 .nil, h4.kept f (by simp) (fun b hb => hb.imp (fun h => h) (From.mono f.size b))⟩), trivial⟩ ?_ ?_
                · refine oCs ?_ ?_
                  · refine op_c fun a' w' hk' hf' hd' K' hK' => ?_
                    refine wFa (b := e.ob) (i := 0) (hFlT26.fld (by decide)) (by rw [eTm, hk'.get 9 (by omega), g308_9]) ?_
                    rw [show (0 + 3 : Nat) = 3 from rfl]
                    exact hK'
                  refine oCs ?_ ?_
                  · refine op_c fun a' w' hk' hf' hd' K' hK' => ?_
                    refine wp_load (b := e.ob) (o := 3) (v := lw) hcT23 (by rw [eTm]; exact hd'.c (nd' := []) 0 (by simp) rfl) ((hgm5.kept hf' (by simp)).ro 3 _ rfl) ?_
                    exact hK'
                  refine oCs ?_ ?_
                  · refine op_c fun a' w' hk' hf' hd' K' hK' => ?_
                    refine wp_loadFlat (cs := [.int .i64 fd.of, .int .i64 fd.fr, .int .i64 fd.to, .int .i64 (-1), .int .i64 (-1), .int .i64 fd.df, .int .i64 fd.of, fsv]) (b := w263.heap.size) (o := 0) hFlT46 rfl (by rw [eTm, hk'.get 10 (by omega), g308_10]) (hf'.range hb10x .nil) ?_
                    exact hK'
                  refine oCs ?_ ?_
                  · refine op_c fun a' w' hk' hf' hd' K' hK' => ?_
                    refine wMv (v := .int .i64 ver) (by rw [eTm, hk'.get 1 (by omega), g308_1]) ?_
                    exact hK'
                  refine oCs ?_ ?_
                  · refine op_c fun a' w' hk' hf' hd' K' hK' => ?_
                    refine wp_loadFlat (cs := lc) (b := w296.heap.size) (o := 0) hFlT26 hll (by rw [eTm, hk'.get 12 (by omega), g308_12]) ((hf'.range r307 .nil)) ?_
                    exact hK'
                  refine oCs ?_ ?_
                  · refine op_r fun a' w' hk' hf' hd' K' hK' => ?_
                    refine wCr (R := fun z wz => ∃ cs : List Value, z = .agg cs.toArray ∧ Fr [] w' wz ∧ RepT wz (fun b => B b ∨ From w'.heap.size wz b) cs (gO ver x)) (vs := #[.agg ([.int .i64 fd.of, .int .i64 fd.fr, .int .i64 fd.to, .int .i64 (-1), .int .i64 (-1), .int .i64 fd.df, .int .i64 fd.of, fsv] : List Value).toArray, .int .i64 ver, .agg (lc).toArray]) (hO hk11).enters (by simp only [List.map_toArray, List.map_cons, List.map_nil]; rw [show a'.eval (.tmp 68) = Value.agg ([.int .i64 fd.of, .int .i64 fd.fr, .int .i64 fd.to, .int .i64 (-1), .int .i64 (-1), .int .i64 fd.df, .int .i64 fd.of, fsv] : List Value).toArray from (by rw [eTm]; exact hd'.c (nd' := []) 2 (by simp) rfl), show a'.eval (.tmp 69) = Value.int .i64 ver from (by rw [eTm]; exact hd'.c (nd' := []) 3 (by simp) rfl), show a'.eval (.tmp 70) = Value.agg (lc).toArray from (by rw [eTm]; exact hd'.c (nd' := []) 4 (by simp) rfl)]) (((hO hk11).call w' A B ver _ lc x (hone.kept (hF307.tr hf') (by simp) (fun _ h => h)) (hlt5.kept hf' (by simp) (fun _ h => h)) (fun b hb => Nat.lt_of_lt_of_le (hA b hb) (hF307.tr hf').size) (fun b hb => Nat.lt_of_lt_of_le (hB b hb) (hF307.tr hf').size)).mono (by rintro e wz ⟨cs, rfl, h1, h2⟩; exact ⟨_, rfl, cs, rfl, h1, h2⟩)) ?_
                    rintro _ w309 ⟨cs, rfl, fr309, hct309⟩
                    exact hK' _ w309 ⟨cs, rfl, hct309.kept (Fr.refl [] _) (by simp) (fun b hb => hb.imp (fun h => h) (fun h => ⟨Nat.le_trans hf'.size h.1, h.2⟩))⟩ fr309
                  refine oCs ?_ ?_
                  · refine op_r fun a' w' hk' hf' hd' K' hK' => ?_
                    obtain ⟨cs, hcv, hct⟩ : ∃ cs : List Value, get a' 71 = .agg cs.toArray ∧ RepT w' (fun b => B b ∨ From w307.heap.size w' b) cs (gO ver x) := hd'.at (d := 5) (by simp) rfl
                    have hwf := hf'.size
                    refine wp_slice1 hs_T23 hz_T26 rfl (by omega) (cs := cs) (by rw [eTm, hcv]; rfl) hct.length fun _ => ?_
                    have hal := Fr.alloc [] w' (.cells cs.toArray T26)
                    exact hK' _ _ ⟨_, cs, rfl, hwf, range_new w' cs.toArray T26 (0, 0), hct.kept hal (by simp) (fun b hb => hb.imp (fun h => h) (From.mono hal.size b))⟩ hal
                  exact opsOk_nil
                intro a311 w311 k311 f311 hd_311
                have g311_1 : get a311 1 = .int .i64 ver := by rw [k311.get 1 (by omega), g308_1]
                have g311_6 : get a311 6 = .pointer (some ⟨w204.heap.size, 0, none⟩) := by rw [k311.get 6 (by omega), g308_6]
                have g311_9 : get a311 9 = .pointer (some ⟨e.ob, 0, none⟩) := by rw [k311.get 9 (by omega), g308_9]
                have g311_10 : get a311 10 = .pointer (some ⟨w263.heap.size, 0, none⟩) := by rw [k311.get 10 (by omega), g308_10]
                have g311_60 : get a311 60 = .slice lq ((l.take 32767).length) lcap := by rw [k311.get 60 (by omega), g308_60]
                have g311_61 : get a311 61 = .int .i64 (((l.take 32767).length : Nat) : Int) := by rw [k311.get 61 (by omega), g308_61]
                have g311_62 : get a311 62 = .int .i64 (j : Int) := by rw [k311.get 62 (by omega), g308_62]
                have hz311 : a311.tmps.size = 82 := k311.size.trans hz308
                have hd311 : a311.defers = [] := k311.defers.trans hd308
                have g311_67 : get a311 67 = lw := hd_311.c (nd' := [0]) 1 (by simp) rfl
                have hF312 : Fr [] w w311 := hF307.tr f311
                have hL312_w307 : Fr [] w307 w311 := (Fr.refl [] w307).tr f311
                have rb313 := f311.range r307 .nil
                obtain ⟨xb, cs, hxv, hxb, hxr, hxt2⟩ : ∃ (xb : Nat) (cs : List Value), get a311 72 = .slice (some ⟨xb, 0, none⟩) 1 1 ∧ w307.heap.size ≤ xb ∧ w311.rangeAt xb 0 cs ∧ RepT w311 (fun b => B b ∨ From w307.heap.size w311 b) cs (gO ver x) := hd_311.at (d := 6) (by simp) rfl
                rw [wCo]
                have hglN := hgl5.keep hL312_w307
                refine wp_gl (s := w307.heap.size) (y := (gO ver x)) hs_T23 hz_T26 hb_T23 (by rw [eTm, g311_67]) (by rw [eTm, hxv]) hglN (by omega) hga hg01 (Nat.le_trans hS5 hL312_w307.size) hxr (by rw [heA]; exact hxt2) hS5 hbl5 ?_
                rintro v314 wv314 fv314 hg314
                have hF314 : Fr [] w wv314 := hF312.trans fv314 (fun r hr => .inl (by have := hglN.2 _ (spare_blk r hr); omega))
                have hgmN := (hgm5.kept hL312_w307 (by simp)).kept fv314 (fun r hr => hglN.2 _ (spare_blk r hr))
                rw [wCo]
                refine wFa (b := e.ob) (i := 0) (hFlT26.fld (by decide)) (by rw [eTm, gPn (by decide), g311_9]) ?_
                rw [show (0 + 3 : Nat) = 3 from rfl]
                rw [wCo]
                refine wp_store (b := e.ob) (o := 3) (v := v314) hcT23 (by rw [eTm, gPs (lt_sz ((sPu _ _ _).trans hz311) (by decide))]) (by rw [eTm, gPn (by decide), gPs (lt_sz hz311 (by decide))]) hg314.1.one (there_part hgmN.to (by omega) (by omega)) ?_
                obtain ⟨hgmS, hfS⟩ := hgmN.setL v314
                have hgS := hg314.setO hga hgmN.ob0 hgmN.ob1 hfS
                have hFS : Fr [] w _ := hF314.trans hfS (fun r hr => .inl (by simp at hr; subst hr; have := hgmN.ob0; simp only; omega))
                generalize hwS : wv314.setCell ⟨e.ob, 3, none⟩ v314 = wS at hgmS hfS hgS hFS ⊢
                clear hwS
                have hf14S : Fr [⟨e.ob, 0, 5⟩] w287 wS := ((hf14.tr hL307_w296.nil).tr hL312_w307.nil).trans fv314 (fun r hr => by have := hglN.2 _ (spare_blk r hr); left; omega) |>.tr hfS
                have hb10S := ((hL312_w307.range hb10x .nil : World.rangeAt _ _ _ _) |> fun h => fv314.range h (fun r hr => .inl (by have := hglN.2 _ (spare_blk r hr); have := hb10.1; omega)))
                have hb10T := hfS.range hb10S (.cons (.inl (by simp only; exact fun h => hb10.2 h.symm)) .nil)
                refine wEn fun a315 ha315 => ?_
                have hz315 : a315.tmps.size = 82 := by rw [ha315, pNo]; exact ((sPu _ _ _).trans ((sPu _ _ _).trans hz311))
                have hd315 : a315.defers = [] := by rw [ha315, pNo]; exact ((dPu _ _ _).trans ((dPu _ _ _).trans hd311))
                have g315_1 : get a315 1 = .int .i64 ver := by rw [ha315, pNo, gPn (by decide), gPn (by decide), g311_1]
                have g315_6 : get a315 6 = .pointer (some ⟨w204.heap.size, 0, none⟩) := by rw [ha315, pNo, gPn (by decide), gPn (by decide), g311_6]
                have g315_9 : get a315 9 = .pointer (some ⟨e.ob, 0, none⟩) := by rw [ha315, pNo, gPn (by decide), gPn (by decide), g311_9]
                have g315_10 : get a315 10 = .pointer (some ⟨w263.heap.size, 0, none⟩) := by rw [ha315, pNo, gPn (by decide), gPn (by decide), g311_10]
                have g315_60 : get a315 60 = .slice lq ((l.take 32767).length) lcap := by rw [ha315, pNo, gPn (by decide), gPn (by decide), g311_60]
                have g315_61 : get a315 61 = .int .i64 (((l.take 32767).length : Nat) : Int) := by rw [ha315, pNo, gPn (by decide), gPn (by decide), g311_61]
                have g315_62 : get a315 62 = .int .i64 (j : Int) := by rw [ha315, pNo, gPn (by decide), gPn (by decide), g311_62]
                clear ha315
                refine hK301 a315 wS ?_
                refine wp_reg ?_
                rw [wCo]
                refine wp_add (k1 := .i64) (i := (j : Int)) (j := 1) (by rw [eTm, g315_62]) rfl ?_
                rw [show (IntKind.i64.wrap (((j : Int) : Int) + (1 : Int)) : Int) = (((j + 1 : Nat) : Int) : Int) from by simp only [IntKind.wrap, IntKind.bits, IntKind.signed]; simp; omega]
                rw [wCo]
                refine wMv (v := .int .i64 ((j + 1 : Nat) : Int)) (by rw [eTm, gPs (lt_sz hz315 (by decide))]) ?_
                refine wEn fun a316 ha316 => ?_
                have hz316 : a316.tmps.size = 82 := by rw [ha316]; exact ((sPu _ _ _).trans ((sPu _ _ _).trans hz315))
                have hd316 : a316.defers = [] := by rw [ha316]; exact ((dPu _ _ _).trans ((dPu _ _ _).trans hd315))
                have g316_1 : get a316 1 = .int .i64 ver := by rw [ha316, gPn (by decide), gPn (by decide), g315_1]
                have g316_6 : get a316 6 = .pointer (some ⟨w204.heap.size, 0, none⟩) := by rw [ha316, gPn (by decide), gPn (by decide), g315_6]
                have g316_9 : get a316 9 = .pointer (some ⟨e.ob, 0, none⟩) := by rw [ha316, gPn (by decide), gPn (by decide), g315_9]
                have g316_10 : get a316 10 = .pointer (some ⟨w263.heap.size, 0, none⟩) := by rw [ha316, gPn (by decide), gPn (by decide), g315_10]
                have g316_60 : get a316 60 = .slice lq ((l.take 32767).length) lcap := by rw [ha316, gPn (by decide), gPn (by decide), g315_60]
                have g316_61 : get a316 61 = .int .i64 (((l.take 32767).length : Nat) : Int) := by rw [ha316, gPn (by decide), gPn (by decide), g315_61]
                have g316_62 : get a316 62 = .int .i64 ((j + 1 : Nat) : Int) := by rw [ha316, gPs (lt_sz ((sPu _ _ _).trans hz315) (by decide))]
                clear ha316
                have hSz := hfS.size
                have hSv := fv314.size
                have hS5' := hL312_w307.size
                exact ⟨m - 1, by omega, j + 1, _, hz316, hd316, g316_1, g316_6, g316_9, g316_10, g316_60, g316_61, g316_62, by omega, hgmS, by rw [htk]; exact hgS, hFS, by omega, hb10T, hf14S⟩
              · have hj0 : j = (l.take 32767).length := by have hq := of_decide_eq_false hc300; omega
                rw [hj0, ← hfll, List.take_length] at hgl
                refine wp_exit ?_
                show K292 a298 w296
                refine hK292 a298 w296 ?_
                refine wp_seq_k fun K317 hK317 => ?_
                refine wp_reg ?_
                rw [wCo]
                refine wp_loadFlat (cs := [.int .i64 0, .slice none 0 0, .bool (nu || (decide (fd.tag ≥ 0) && (l.length == 0))), lw, .slice none 0 0]) (b := e.ob) (o := 0) hFlT26 rfl (by rw [eTm, g298_9]) hgm.ro ?_
                rw [wCo]
                refine wp_storeFlat (cs := [.int .i64 0, .slice none 0 0, .bool (nu || (decide (fd.tag ≥ 0) && (l.length == 0))), lw, .slice none 0 0]) (b := w204.heap.size) (o := 0) hFlT26 rfl (by rw [eTm, gPn (by decide), g298_6]) (by rw [eTm, gPs (lt_sz hz298 (by decide))]) (by intro y hy; simp at hy; rcases hy with rfl | rfl | rfl | rfl | rfl <;> first | rfl | exact hgl.1.one) (herb ▸ hgm.tr) ?_
                have f7 := Fr.sets w204.heap.size [.int .i64 0, .slice none 0 0, .bool (nu || (decide (fd.tag ≥ 0) && (l.length == 0))), lw, .slice none 0 0] w296 0
                have r7 := World.rangeAt_setCells_same (w := w296) w204.heap.size 0 [.int .i64 0, .slice none 0 0, .bool (nu || (decide (fd.tag ≥ 0) && (l.length == 0))), lw, .slice none 0 0] (herb ▸ hgm.tr)
                have hFa := hfl1
                have hfra := hfa11
                generalize hw7 : w296.setCells w204.heap.size 0 [.int .i64 0, .slice none 0 0, .bool (nu || (decide (fd.tag ≥ 0) && (l.length == 0))), lw, .slice none 0 0] = wr at f7 r7 ⊢
                clear hw7
                refine wEn fun a318 ha318 => ?_
                have hz318 : a318.tmps.size = 82 := by rw [ha318, pNo]; exact ((sPu _ _ _).trans hz298)
                have hd318 : a318.defers = [] := by rw [ha318, pNo]; exact ((dPu _ _ _).trans hd298)
                have g318_6 : get a318 6 = .pointer (some ⟨w204.heap.size, 0, none⟩) := by rw [ha318, pNo, gPn (by decide), g298_6]
                clear ha318
                refine hK317 a318 wr ?_
                refine wp_ret ?_
                have hs7 := f7.size
                have hsa := hfra.size
                refine ⟨hd318, _, results_cellL (cs := [.int .i64 0, .slice none 0 0, .bool (nu || (decide (fd.tag ≥ 0) && (l.length == 0))), lw, .slice none 0 0]) hres hFlT26 rfl g318_6 r7, _, rfl, hFa.trans f7 (fun r hr => .inl (by simp at hr; subst hr; simp only; omega)), ?_⟩
                rw [show fitK gS gO fd ver (.mk n s nl l u) = .mk 0 [] (nu || (decide (fd.tag ≥ 0) && (l.length == 0))) fl [] from by unfold fitK; rw [if_neg hn89, if_neg hn10, if_pos hk11, hfl0, hnu]; rfl]
                have hrb0 := hgm.rb0
                have hrb1 := hgm.rb1
                refine repT_iff.2 ⟨_, _, _, rfl, by omega, .nil, ?_, .inl ⟨.inl rfl, rfl⟩⟩
                refine (LOwn.things (by omega) hgl.1).kept f7 (by intro r hr hC; simp at hr; subst hr; rcases hC with hC | hC; have := hga _ hC; simp only at this; omega; have := hC.1; simp only at this; omega) (fun b hb => ?_)
                rcases hb with hb | hb; exact .inl (heA ▸ hb); exact .inr ⟨by have := hb.1; omega, by have := hb.2; omega⟩
          have hw11 := hL215_w208.size
          rcases Bool.eq_false_or_eq_true nu with hnt | hnf
          · rw [hnt] at g260_7
            refine wp_regG ?_
            refine gCn ?_
            refine wMv (v := .bool true) (by rw [eTm, g260_7]) ?_
            refine gCn ?_
            refine wMv (v := .bool true) (by rw [eTm, gPs (lt_sz hz260 (by decide))]) ?_
            refine wg_noF (dj := 40) rfl (lt_sz ((sPu _ _ _).trans ((sPu _ _ _).trans hz260)) (by decide)) (by rw [gPs (lt_sz ((sPu _ _ _).trans hz260) (by decide))]) ?_
            refine wg_noF (dj := 40) rfl (lt_sz ((sPu _ _ _).trans ((sPu _ _ _).trans ((sPu _ _ _).trans hz260))) (by decide)) (by rw [gPn (by decide), gPs (lt_sz ((sPu _ _ _).trans hz260) (by decide))]) ?_
            refine wg_noF (dj := 40) rfl (lt_sz ((sPu _ _ _).trans ((sPu _ _ _).trans ((sPu _ _ _).trans ((sPu _ _ _).trans hz260)))) (by decide)) (by rw [gPn (by decide), gPn (by decide), gPs (lt_sz ((sPu _ _ _).trans hz260) (by decide))]) ?_
            refine wg_noF (dj := 40) rfl (lt_sz ((sPu _ _ _).trans ((sPu _ _ _).trans ((sPu _ _ _).trans ((sPu _ _ _).trans ((sPu _ _ _).trans hz260))))) (by decide)) (by rw [gPn (by decide), gPn (by decide), gPn (by decide), gPs (lt_sz ((sPu _ _ _).trans hz260) (by decide))]) ?_
            refine wg_un (dj := 44) rfl (by rw [gPs (lt_sz ((sPu _ _ _).trans ((sPu _ _ _).trans ((sPu _ _ _).trans ((sPu _ _ _).trans ((sPu _ _ _).trans hz260))))) (by decide))]) ?_
            refine wg_un (dj := 44) rfl (by rw [gPn (by decide), gPs (lt_sz ((sPu _ _ _).trans ((sPu _ _ _).trans ((sPu _ _ _).trans ((sPu _ _ _).trans ((sPu _ _ _).trans hz260))))) (by decide))]) ?_
            refine wg_un (dj := 44) rfl (by rw [gPn (by decide), gPn (by decide), gPs (lt_sz ((sPu _ _ _).trans ((sPu _ _ _).trans ((sPu _ _ _).trans ((sPu _ _ _).trans ((sPu _ _ _).trans hz260))))) (by decide))]) ?_
            refine wg_un (dj := 44) rfl (by rw [gPn (by decide), gPn (by decide), gPn (by decide), gPs (lt_sz ((sPu _ _ _).trans ((sPu _ _ _).trans ((sPu _ _ _).trans ((sPu _ _ _).trans ((sPu _ _ _).trans hz260))))) (by decide))]) ?_
            refine wg_noF (dj := 40) rfl (lt_sz ((sPu _ _ _).trans ((sPu _ _ _).trans ((sPu _ _ _).trans ((sPu _ _ _).trans ((sPu _ _ _).trans ((sPu _ _ _).trans ((sPu _ _ _).trans ((sPu _ _ _).trans ((sPu _ _ _).trans ((sPu _ _ _).trans hz260)))))))))) (by decide)) (by rw [gPn (by decide), gPn (by decide), gPn (by decide), gPn (by decide), gPn (by decide), gPn (by decide), gPn (by decide), gPn (by decide), gPs (lt_sz ((sPu _ _ _).trans hz260) (by decide))]) ?_
            refine gCn ?_
            refine wp_pickYes (v := .bool true) (by rw [eTm, gPn (by decide), gPn (by decide), gPn (by decide), gPn (by decide), gPn (by decide), gPn (by decide), gPn (by decide), gPn (by decide), gPn (by decide), gPs (lt_sz ((sPu _ _ _).trans hz260) (by decide))]) rfl ?_
            refine gCn ?_
            refine wp_buildC (z := zT) (ps := [(2, .tmp 50)]) (vs := [(2, .bool true)]) (cs := [.int .i64 0, .slice none 0 0, .bool true, .slice none 0 0, .slice none 0 0]) hFlT26 (by simp only [List.map_nil, List.map_cons]; rw [show ((((((((((((a260.put (some 39) (.bool true)).put (some 40) (.bool true)).put (some 41) undef).put (some 42) undef).put (some 43) undef).put (some 44) undef).put (some 45) undef).put (some 46) undef).put (some 47) undef).put (some 48) undef).put (some 49) undef).put (some 50) (.bool true)).eval (.tmp 50) = Value.bool true from (by rw [eTm, gPs (lt_sz ((sPu _ _ _).trans ((sPu _ _ _).trans ((sPu _ _ _).trans ((sPu _ _ _).trans ((sPu _ _ _).trans ((sPu _ _ _).trans ((sPu _ _ _).trans ((sPu _ _ _).trans ((sPu _ _ _).trans ((sPu _ _ _).trans ((sPu _ _ _).trans hz260))))))))))) (by decide))])]) (by intro p hp; simp at hp; subst hp; exact ⟨by simp [zT], rfl⟩) rfl ?_
            refine gCn ?_
            have hgs319 := hF215.size
            have hgs320 := hL215_w208.size
            refine wp_allocL hFlT26 ?_
            rintro w321 f321 sz321 r321 th321
            have hF322 : Fr [] w w321 := hF215.tr f321
            have hL322_w208 : Fr [] w208 w321 := hL215_w208.tr f321
            have rb323 := f321.range rb216 .nil
            have rb324 := f321.range rb217 .nil
            refine gCn ?_
            refine wp_storeL (cs := [.int .i64 0, .slice none 0 0, .bool true, .slice none 0 0, .slice none 0 0]) (o := 0) hFlT26 rfl (by rw [eTm, gPs (lt_sz ((sPu _ _ _).trans ((sPu _ _ _).trans ((sPu _ _ _).trans ((sPu _ _ _).trans ((sPu _ _ _).trans ((sPu _ _ _).trans ((sPu _ _ _).trans ((sPu _ _ _).trans ((sPu _ _ _).trans ((sPu _ _ _).trans ((sPu _ _ _).trans ((sPu _ _ _).trans ((sPu _ _ _).trans hz260))))))))))))) (by decide))]) (by rw [eTm, gPn (by decide), gPs (lt_sz ((sPu _ _ _).trans ((sPu _ _ _).trans ((sPu _ _ _).trans ((sPu _ _ _).trans ((sPu _ _ _).trans ((sPu _ _ _).trans ((sPu _ _ _).trans ((sPu _ _ _).trans ((sPu _ _ _).trans ((sPu _ _ _).trans ((sPu _ _ _).trans ((sPu _ _ _).trans hz260)))))))))))) (by decide))]) (by intro u hu; simp at hu; rcases hu with rfl | rfl | rfl | rfl | rfl <;> rfl) th321 ?_
            rintro w325 f325 sz325 r325 th325
            have hF325 : Fr [] w w325 := hF322.trans f325 (fun r hr => .inl (by simp at hr; subst hr; have := hF215.size; simp only; omega))
            have rb326 := f325.range rb323 (.cons (.inl (by simp only; omega)) .nil)
            have rb327 := f325.range rb324 (.cons (.inl (by simp only; omega)) .nil)
            have hL325_w208 : Fr [] w208 w325 := hL322_w208.trans f325 (fun r hr => .inl (by simp at hr; subst hr; have := hL215_w208.size; simp only; omega))
            refine wg_end fun a328 ha328 => ?_
            have hz328 : a328.tmps.size = 82 := by rw [ha328, pNo]; exact ((sPu _ _ _).trans ((sPu _ _ _).trans ((sPu _ _ _).trans ((sPu _ _ _).trans ((sPu _ _ _).trans ((sPu _ _ _).trans ((sPu _ _ _).trans ((sPu _ _ _).trans ((sPu _ _ _).trans ((sPu _ _ _).trans ((sPu _ _ _).trans ((sPu _ _ _).trans ((sPu _ _ _).trans ((sPu _ _ _).trans hz260))))))))))))))
            have hd328 : a328.defers = [] := by rw [ha328, pNo]; exact ((dPu _ _ _).trans ((dPu _ _ _).trans ((dPu _ _ _).trans ((dPu _ _ _).trans ((dPu _ _ _).trans ((dPu _ _ _).trans ((dPu _ _ _).trans ((dPu _ _ _).trans ((dPu _ _ _).trans ((dPu _ _ _).trans ((dPu _ _ _).trans ((dPu _ _ _).trans ((dPu _ _ _).trans ((dPu _ _ _).trans hd260))))))))))))))
            have g328_1 : get a328 1 = .int .i64 ver := by rw [ha328, pNo, gPn (by decide), gPn (by decide), gPn (by decide), gPn (by decide), gPn (by decide), gPn (by decide), gPn (by decide), gPn (by decide), gPn (by decide), gPn (by decide), gPn (by decide), gPn (by decide), gPn (by decide), gPn (by decide), g260_1]
            have g328_3 : get a328 3 = .pointer (some ⟨w.heap.size, 0, none⟩) := by rw [ha328, pNo, gPn (by decide), gPn (by decide), gPn (by decide), gPn (by decide), gPn (by decide), gPn (by decide), gPn (by decide), gPn (by decide), gPn (by decide), gPn (by decide), gPn (by decide), gPn (by decide), gPn (by decide), gPn (by decide), g260_3]
            have g328_5 : get a328 5 = .pointer (some ⟨w202.heap.size, 0, none⟩) := by rw [ha328, pNo, gPn (by decide), gPn (by decide), gPn (by decide), gPn (by decide), gPn (by decide), gPn (by decide), gPn (by decide), gPn (by decide), gPn (by decide), gPn (by decide), gPn (by decide), gPn (by decide), gPn (by decide), gPn (by decide), g260_5]
            have g328_6 : get a328 6 = .pointer (some ⟨w204.heap.size, 0, none⟩) := by rw [ha328, pNo, gPn (by decide), gPn (by decide), gPn (by decide), gPn (by decide), gPn (by decide), gPn (by decide), gPn (by decide), gPn (by decide), gPn (by decide), gPn (by decide), gPn (by decide), gPn (by decide), gPn (by decide), gPn (by decide), g260_6]
            have g328_9 : get a328 9 = .pointer (some ⟨w214.heap.size, 0, none⟩) := by rw [ha328, pNo, gPs (lt_sz ((sPu _ _ _).trans ((sPu _ _ _).trans ((sPu _ _ _).trans ((sPu _ _ _).trans ((sPu _ _ _).trans ((sPu _ _ _).trans ((sPu _ _ _).trans ((sPu _ _ _).trans ((sPu _ _ _).trans ((sPu _ _ _).trans ((sPu _ _ _).trans ((sPu _ _ _).trans ((sPu _ _ _).trans hz260))))))))))))) (by decide))]
            clear ha328
            have hnx : (nu || (decide (fd.tag ≥ 0) && (l.length == 0))) = true := by rw [hnt]; rfl
            exact hJ263 a328 w325 ⟨hz328, hd328, g328_1, g328_3, g328_5, g328_6, g328_9, by rw [hnx]; exact r325, th325, hF325, hL325_w208, rb326, rb327, by omega⟩
          · rw [hnf] at g260_7
            by_cases htg0 : fd.tag ≥ 0
            by_cases hl0 : l.length = 0
            · refine wp_regG ?_
              refine gCn ?_
              refine wMv (v := .bool false) (by rw [eTm, g260_7]) ?_
              refine gCn ?_
              refine wMv (v := .bool false) (by rw [eTm, gPs (lt_sz hz260 (by decide))]) ?_
              refine wg_yes (dj := 40) rfl (lt_sz ((sPu _ _ _).trans ((sPu _ _ _).trans hz260)) (by decide)) (by rw [gPs (lt_sz ((sPu _ _ _).trans hz260) (by decide))]) ?_
              refine wFa (b := w.heap.size) (i := 0) (hFlT46.fld (by decide)) (by rw [eTm, gPn (by decide), gPn (by decide), g260_3]) ?_
              rw [show (0 + 4 : Nat) = 4 from rfl]
              refine wg_yes (dj := 40) rfl (lt_sz ((sPu _ _ _).trans ((sPu _ _ _).trans ((sPu _ _ _).trans hz260))) (by decide)) (by rw [gPn (by decide), gPs (lt_sz ((sPu _ _ _).trans hz260) (by decide))]) ?_
              refine wL0 (j := 4) (v := .int .i64 fd.tag) hcT3 (by rw [eTm, gPs (lt_sz ((sPu _ _ _).trans ((sPu _ _ _).trans hz260)) (by decide))]) rb216 rfl ?_
              refine wg_yes (dj := 40) rfl (lt_sz ((sPu _ _ _).trans ((sPu _ _ _).trans ((sPu _ _ _).trans ((sPu _ _ _).trans hz260)))) (by decide)) (by rw [gPn (by decide), gPn (by decide), gPs (lt_sz ((sPu _ _ _).trans hz260) (by decide))]) ?_
              refine wp_geqT (k1 := .i64) (i := fd.tag) (j := 0) htg0 (by rw [eTm, gPs (lt_sz ((sPu _ _ _).trans ((sPu _ _ _).trans ((sPu _ _ _).trans hz260))) (by decide))]) rfl ?_
              refine wg_yes (dj := 40) rfl (lt_sz ((sPu _ _ _).trans ((sPu _ _ _).trans ((sPu _ _ _).trans ((sPu _ _ _).trans ((sPu _ _ _).trans hz260))))) (by decide)) (by rw [gPn (by decide), gPn (by decide), gPn (by decide), gPs (lt_sz ((sPu _ _ _).trans hz260) (by decide))]) ?_
              refine wMv (v := .bool true) (by rw [eTm, gPs (lt_sz ((sPu _ _ _).trans ((sPu _ _ _).trans ((sPu _ _ _).trans ((sPu _ _ _).trans hz260)))) (by decide))]) ?_
              refine wg_yes (dj := 44) rfl (lt_sz ((sPu _ _ _).trans ((sPu _ _ _).trans ((sPu _ _ _).trans ((sPu _ _ _).trans ((sPu _ _ _).trans ((sPu _ _ _).trans hz260)))))) (by decide)) (by rw [gPs (lt_sz ((sPu _ _ _).trans ((sPu _ _ _).trans ((sPu _ _ _).trans ((sPu _ _ _).trans ((sPu _ _ _).trans hz260))))) (by decide))]) ?_
              refine wFa (b := w202.heap.size) (i := 0) (hFlT26.fld (by decide)) (by rw [eTm, gPn (by decide), gPn (by decide), gPn (by decide), gPn (by decide), gPn (by decide), gPn (by decide), g260_5]) ?_
              rw [show (0 + 3 : Nat) = 3 from rfl]
              refine wg_yes (dj := 44) rfl (lt_sz ((sPu _ _ _).trans ((sPu _ _ _).trans ((sPu _ _ _).trans ((sPu _ _ _).trans ((sPu _ _ _).trans ((sPu _ _ _).trans ((sPu _ _ _).trans hz260))))))) (by decide)) (by rw [gPn (by decide), gPs (lt_sz ((sPu _ _ _).trans ((sPu _ _ _).trans ((sPu _ _ _).trans ((sPu _ _ _).trans ((sPu _ _ _).trans hz260))))) (by decide))]) ?_
              refine wL0 (j := 3) (v := lv) hcT23 (by rw [eTm, gPs (lt_sz ((sPu _ _ _).trans ((sPu _ _ _).trans ((sPu _ _ _).trans ((sPu _ _ _).trans ((sPu _ _ _).trans ((sPu _ _ _).trans hz260)))))) (by decide))]) rb217 rfl ?_
              refine wg_yes (dj := 44) rfl (lt_sz ((sPu _ _ _).trans ((sPu _ _ _).trans ((sPu _ _ _).trans ((sPu _ _ _).trans ((sPu _ _ _).trans ((sPu _ _ _).trans ((sPu _ _ _).trans ((sPu _ _ _).trans hz260)))))))) (by decide)) (by rw [gPn (by decide), gPn (by decide), gPs (lt_sz ((sPu _ _ _).trans ((sPu _ _ _).trans ((sPu _ _ _).trans ((sPu _ _ _).trans ((sPu _ _ _).trans hz260))))) (by decide))]) ?_
              obtain ⟨lq0, lc0, hlv0, -⟩ := (hl.kept hF215 (by simp) (fun _ h => h)).sl2
              refine wp_lenS (q := lq0) (n := l.length) (cap := lc0) hsT23 (by rw [← hlv0]; exact (by rw [eTm, gPs (lt_sz ((sPu _ _ _).trans ((sPu _ _ _).trans ((sPu _ _ _).trans ((sPu _ _ _).trans ((sPu _ _ _).trans ((sPu _ _ _).trans ((sPu _ _ _).trans hz260))))))) (by decide))])) ?_
              refine wg_yes (dj := 44) rfl (lt_sz ((sPu _ _ _).trans ((sPu _ _ _).trans ((sPu _ _ _).trans ((sPu _ _ _).trans ((sPu _ _ _).trans ((sPu _ _ _).trans ((sPu _ _ _).trans ((sPu _ _ _).trans ((sPu _ _ _).trans hz260))))))))) (by decide)) (by rw [gPn (by decide), gPn (by decide), gPn (by decide), gPs (lt_sz ((sPu _ _ _).trans ((sPu _ _ _).trans ((sPu _ _ _).trans ((sPu _ _ _).trans ((sPu _ _ _).trans hz260))))) (by decide))]) ?_
              refine wp_eqlT (k1 := .i64) (i := ((l.length : Nat) : Int)) (j := 0) (by omega) (by rw [eTm, gPs (lt_sz ((sPu _ _ _).trans ((sPu _ _ _).trans ((sPu _ _ _).trans ((sPu _ _ _).trans ((sPu _ _ _).trans ((sPu _ _ _).trans ((sPu _ _ _).trans ((sPu _ _ _).trans hz260)))))))) (by decide))]) rfl ?_
              refine wg_yes (dj := 40) rfl (lt_sz ((sPu _ _ _).trans ((sPu _ _ _).trans ((sPu _ _ _).trans ((sPu _ _ _).trans ((sPu _ _ _).trans ((sPu _ _ _).trans ((sPu _ _ _).trans ((sPu _ _ _).trans ((sPu _ _ _).trans ((sPu _ _ _).trans hz260)))))))))) (by decide)) (by rw [gPn (by decide), gPn (by decide), gPn (by decide), gPn (by decide), gPn (by decide), gPn (by decide), gPn (by decide), gPn (by decide), gPs (lt_sz ((sPu _ _ _).trans hz260) (by decide))]) ?_
              refine wp_pickYes (v := .bool true) (by rw [eTm, gPn (by decide), gPn (by decide), gPn (by decide), gPn (by decide), gPs (lt_sz ((sPu _ _ _).trans ((sPu _ _ _).trans ((sPu _ _ _).trans ((sPu _ _ _).trans ((sPu _ _ _).trans hz260))))) (by decide))]) (by rw [eTm, gPs (lt_sz ((sPu _ _ _).trans ((sPu _ _ _).trans ((sPu _ _ _).trans ((sPu _ _ _).trans ((sPu _ _ _).trans ((sPu _ _ _).trans ((sPu _ _ _).trans ((sPu _ _ _).trans ((sPu _ _ _).trans hz260))))))))) (by decide))]) ?_
              refine gCn ?_
              refine wp_pickNo (v := .bool true) (by rw [eTm, gPn (by decide), gPn (by decide), gPn (by decide), gPn (by decide), gPn (by decide), gPn (by decide), gPn (by decide), gPn (by decide), gPn (by decide), gPs (lt_sz ((sPu _ _ _).trans hz260) (by decide))]) (by rw [eTm, gPs (lt_sz ((sPu _ _ _).trans ((sPu _ _ _).trans ((sPu _ _ _).trans ((sPu _ _ _).trans ((sPu _ _ _).trans ((sPu _ _ _).trans ((sPu _ _ _).trans ((sPu _ _ _).trans ((sPu _ _ _).trans ((sPu _ _ _).trans hz260)))))))))) (by decide))]) ?_
              refine gCn ?_
              refine wp_buildC (z := zT) (ps := [(2, .tmp 50)]) (vs := [(2, .bool true)]) (cs := [.int .i64 0, .slice none 0 0, .bool true, .slice none 0 0, .slice none 0 0]) hFlT26 (by simp only [List.map_nil, List.map_cons]; rw [show ((((((((((((a260.put (some 39) (.bool false)).put (some 40) (.bool false)).put (some 41) (.pointer (some ⟨w.heap.size, 4, none⟩))).put (some 42) (.int .i64 fd.tag)).put (some 43) (.bool true)).put (some 44) (.bool true)).put (some 45) (.pointer (some ⟨w202.heap.size, 3, none⟩))).put (some 46) lv).put (some 47) (.int .i64 ((l.length : Nat) : Int))).put (some 48) (.bool true)).put (some 49) (.bool true)).put (some 50) (.bool true)).eval (.tmp 50) = Value.bool true from (by rw [eTm, gPs (lt_sz ((sPu _ _ _).trans ((sPu _ _ _).trans ((sPu _ _ _).trans ((sPu _ _ _).trans ((sPu _ _ _).trans ((sPu _ _ _).trans ((sPu _ _ _).trans ((sPu _ _ _).trans ((sPu _ _ _).trans ((sPu _ _ _).trans ((sPu _ _ _).trans hz260))))))))))) (by decide))])]) (by intro p hp; simp at hp; subst hp; exact ⟨by simp [zT], rfl⟩) rfl ?_
              refine gCn ?_
              have hgs329 := hF215.size
              have hgs330 := hL215_w208.size
              refine wp_allocL hFlT26 ?_
              rintro w331 f331 sz331 r331 th331
              have hF332 : Fr [] w w331 := hF215.tr f331
              have hL332_w208 : Fr [] w208 w331 := hL215_w208.tr f331
              have rb333 := f331.range rb216 .nil
              have rb334 := f331.range rb217 .nil
              refine gCn ?_
              refine wp_storeL (cs := [.int .i64 0, .slice none 0 0, .bool true, .slice none 0 0, .slice none 0 0]) (o := 0) hFlT26 rfl (by rw [eTm, gPs (lt_sz ((sPu _ _ _).trans ((sPu _ _ _).trans ((sPu _ _ _).trans ((sPu _ _ _).trans ((sPu _ _ _).trans ((sPu _ _ _).trans ((sPu _ _ _).trans ((sPu _ _ _).trans ((sPu _ _ _).trans ((sPu _ _ _).trans ((sPu _ _ _).trans ((sPu _ _ _).trans ((sPu _ _ _).trans hz260))))))))))))) (by decide))]) (by rw [eTm, gPn (by decide), gPs (lt_sz ((sPu _ _ _).trans ((sPu _ _ _).trans ((sPu _ _ _).trans ((sPu _ _ _).trans ((sPu _ _ _).trans ((sPu _ _ _).trans ((sPu _ _ _).trans ((sPu _ _ _).trans ((sPu _ _ _).trans ((sPu _ _ _).trans ((sPu _ _ _).trans ((sPu _ _ _).trans hz260)))))))))))) (by decide))]) (by intro u hu; simp at hu; rcases hu with rfl | rfl | rfl | rfl | rfl <;> rfl) th331 ?_
              rintro w335 f335 sz335 r335 th335
              have hF335 : Fr [] w w335 := hF332.trans f335 (fun r hr => .inl (by simp at hr; subst hr; have := hF215.size; simp only; omega))
              have rb336 := f335.range rb333 (.cons (.inl (by simp only; omega)) .nil)
              have rb337 := f335.range rb334 (.cons (.inl (by simp only; omega)) .nil)
              have hL335_w208 : Fr [] w208 w335 := hL332_w208.trans f335 (fun r hr => .inl (by simp at hr; subst hr; have := hL215_w208.size; simp only; omega))
              refine wg_end fun a338 ha338 => ?_
              have hz338 : a338.tmps.size = 82 := by rw [ha338, pNo]; exact ((sPu _ _ _).trans ((sPu _ _ _).trans ((sPu _ _ _).trans ((sPu _ _ _).trans ((sPu _ _ _).trans ((sPu _ _ _).trans ((sPu _ _ _).trans ((sPu _ _ _).trans ((sPu _ _ _).trans ((sPu _ _ _).trans ((sPu _ _ _).trans ((sPu _ _ _).trans ((sPu _ _ _).trans ((sPu _ _ _).trans hz260))))))))))))))
              have hd338 : a338.defers = [] := by rw [ha338, pNo]; exact ((dPu _ _ _).trans ((dPu _ _ _).trans ((dPu _ _ _).trans ((dPu _ _ _).trans ((dPu _ _ _).trans ((dPu _ _ _).trans ((dPu _ _ _).trans ((dPu _ _ _).trans ((dPu _ _ _).trans ((dPu _ _ _).trans ((dPu _ _ _).trans ((dPu _ _ _).trans ((dPu _ _ _).trans ((dPu _ _ _).trans hd260))))))))))))))
              have g338_1 : get a338 1 = .int .i64 ver := by rw [ha338, pNo, gPn (by decide), gPn (by decide), gPn (by decide), gPn (by decide), gPn (by decide), gPn (by decide), gPn (by decide), gPn (by decide), gPn (by decide), gPn (by decide), gPn (by decide), gPn (by decide), gPn (by decide), gPn (by decide), g260_1]
              have g338_3 : get a338 3 = .pointer (some ⟨w.heap.size, 0, none⟩) := by rw [ha338, pNo, gPn (by decide), gPn (by decide), gPn (by decide), gPn (by decide), gPn (by decide), gPn (by decide), gPn (by decide), gPn (by decide), gPn (by decide), gPn (by decide), gPn (by decide), gPn (by decide), gPn (by decide), gPn (by decide), g260_3]
              have g338_5 : get a338 5 = .pointer (some ⟨w202.heap.size, 0, none⟩) := by rw [ha338, pNo, gPn (by decide), gPn (by decide), gPn (by decide), gPn (by decide), gPn (by decide), gPn (by decide), gPn (by decide), gPn (by decide), gPn (by decide), gPn (by decide), gPn (by decide), gPn (by decide), gPn (by decide), gPn (by decide), g260_5]
              have g338_6 : get a338 6 = .pointer (some ⟨w204.heap.size, 0, none⟩) := by rw [ha338, pNo, gPn (by decide), gPn (by decide), gPn (by decide), gPn (by decide), gPn (by decide), gPn (by decide), gPn (by decide), gPn (by decide), gPn (by decide), gPn (by decide), gPn (by decide), gPn (by decide), gPn (by decide), gPn (by decide), g260_6]
              have g338_9 : get a338 9 = .pointer (some ⟨w214.heap.size, 0, none⟩) := by rw [ha338, pNo, gPs (lt_sz ((sPu _ _ _).trans ((sPu _ _ _).trans ((sPu _ _ _).trans ((sPu _ _ _).trans ((sPu _ _ _).trans ((sPu _ _ _).trans ((sPu _ _ _).trans ((sPu _ _ _).trans ((sPu _ _ _).trans ((sPu _ _ _).trans ((sPu _ _ _).trans ((sPu _ _ _).trans ((sPu _ _ _).trans hz260))))))))))))) (by decide))]
              clear ha338
              have hnx : (nu || (decide (fd.tag ≥ 0) && (l.length == 0))) = true := by rw [hnf]; simp [htg0, hl0]
              exact hJ263 a338 w335 ⟨hz338, hd338, g338_1, g338_3, g338_5, g338_6, g338_9, by rw [hnx]; exact r335, th335, hF335, hL335_w208, rb336, rb337, by omega⟩
            · refine wp_regG ?_
              refine gCn ?_
              refine wMv (v := .bool false) (by rw [eTm, g260_7]) ?_
              refine gCn ?_
              refine wMv (v := .bool false) (by rw [eTm, gPs (lt_sz hz260 (by decide))]) ?_
              refine wg_yes (dj := 40) rfl (lt_sz ((sPu _ _ _).trans ((sPu _ _ _).trans hz260)) (by decide)) (by rw [gPs (lt_sz ((sPu _ _ _).trans hz260) (by decide))]) ?_
              refine wFa (b := w.heap.size) (i := 0) (hFlT46.fld (by decide)) (by rw [eTm, gPn (by decide), gPn (by decide), g260_3]) ?_
              rw [show (0 + 4 : Nat) = 4 from rfl]
              refine wg_yes (dj := 40) rfl (lt_sz ((sPu _ _ _).trans ((sPu _ _ _).trans ((sPu _ _ _).trans hz260))) (by decide)) (by rw [gPn (by decide), gPs (lt_sz ((sPu _ _ _).trans hz260) (by decide))]) ?_
              refine wL0 (j := 4) (v := .int .i64 fd.tag) hcT3 (by rw [eTm, gPs (lt_sz ((sPu _ _ _).trans ((sPu _ _ _).trans hz260)) (by decide))]) rb216 rfl ?_
              refine wg_yes (dj := 40) rfl (lt_sz ((sPu _ _ _).trans ((sPu _ _ _).trans ((sPu _ _ _).trans ((sPu _ _ _).trans hz260)))) (by decide)) (by rw [gPn (by decide), gPn (by decide), gPs (lt_sz ((sPu _ _ _).trans hz260) (by decide))]) ?_
              refine wp_geqT (k1 := .i64) (i := fd.tag) (j := 0) htg0 (by rw [eTm, gPs (lt_sz ((sPu _ _ _).trans ((sPu _ _ _).trans ((sPu _ _ _).trans hz260))) (by decide))]) rfl ?_
              refine wg_yes (dj := 40) rfl (lt_sz ((sPu _ _ _).trans ((sPu _ _ _).trans ((sPu _ _ _).trans ((sPu _ _ _).trans ((sPu _ _ _).trans hz260))))) (by decide)) (by rw [gPn (by decide), gPn (by decide), gPn (by decide), gPs (lt_sz ((sPu _ _ _).trans hz260) (by decide))]) ?_
              refine wMv (v := .bool true) (by rw [eTm, gPs (lt_sz ((sPu _ _ _).trans ((sPu _ _ _).trans ((sPu _ _ _).trans ((sPu _ _ _).trans hz260)))) (by decide))]) ?_
              refine wg_yes (dj := 44) rfl (lt_sz ((sPu _ _ _).trans ((sPu _ _ _).trans ((sPu _ _ _).trans ((sPu _ _ _).trans ((sPu _ _ _).trans ((sPu _ _ _).trans hz260)))))) (by decide)) (by rw [gPs (lt_sz ((sPu _ _ _).trans ((sPu _ _ _).trans ((sPu _ _ _).trans ((sPu _ _ _).trans ((sPu _ _ _).trans hz260))))) (by decide))]) ?_
              refine wFa (b := w202.heap.size) (i := 0) (hFlT26.fld (by decide)) (by rw [eTm, gPn (by decide), gPn (by decide), gPn (by decide), gPn (by decide), gPn (by decide), gPn (by decide), g260_5]) ?_
              rw [show (0 + 3 : Nat) = 3 from rfl]
              refine wg_yes (dj := 44) rfl (lt_sz ((sPu _ _ _).trans ((sPu _ _ _).trans ((sPu _ _ _).trans ((sPu _ _ _).trans ((sPu _ _ _).trans ((sPu _ _ _).trans ((sPu _ _ _).trans hz260))))))) (by decide)) (by rw [gPn (by decide), gPs (lt_sz ((sPu _ _ _).trans ((sPu _ _ _).trans ((sPu _ _ _).trans ((sPu _ _ _).trans ((sPu _ _ _).trans hz260))))) (by decide))]) ?_
              refine wL0 (j := 3) (v := lv) hcT23 (by rw [eTm, gPs (lt_sz ((sPu _ _ _).trans ((sPu _ _ _).trans ((sPu _ _ _).trans ((sPu _ _ _).trans ((sPu _ _ _).trans ((sPu _ _ _).trans hz260)))))) (by decide))]) rb217 rfl ?_
              refine wg_yes (dj := 44) rfl (lt_sz ((sPu _ _ _).trans ((sPu _ _ _).trans ((sPu _ _ _).trans ((sPu _ _ _).trans ((sPu _ _ _).trans ((sPu _ _ _).trans ((sPu _ _ _).trans ((sPu _ _ _).trans hz260)))))))) (by decide)) (by rw [gPn (by decide), gPn (by decide), gPs (lt_sz ((sPu _ _ _).trans ((sPu _ _ _).trans ((sPu _ _ _).trans ((sPu _ _ _).trans ((sPu _ _ _).trans hz260))))) (by decide))]) ?_
              obtain ⟨lq0, lc0, hlv0, -⟩ := (hl.kept hF215 (by simp) (fun _ h => h)).sl2
              refine wp_lenS (q := lq0) (n := l.length) (cap := lc0) hsT23 (by rw [← hlv0]; exact (by rw [eTm, gPs (lt_sz ((sPu _ _ _).trans ((sPu _ _ _).trans ((sPu _ _ _).trans ((sPu _ _ _).trans ((sPu _ _ _).trans ((sPu _ _ _).trans ((sPu _ _ _).trans hz260))))))) (by decide))])) ?_
              refine wg_yes (dj := 44) rfl (lt_sz ((sPu _ _ _).trans ((sPu _ _ _).trans ((sPu _ _ _).trans ((sPu _ _ _).trans ((sPu _ _ _).trans ((sPu _ _ _).trans ((sPu _ _ _).trans ((sPu _ _ _).trans ((sPu _ _ _).trans hz260))))))))) (by decide)) (by rw [gPn (by decide), gPn (by decide), gPn (by decide), gPs (lt_sz ((sPu _ _ _).trans ((sPu _ _ _).trans ((sPu _ _ _).trans ((sPu _ _ _).trans ((sPu _ _ _).trans hz260))))) (by decide))]) ?_
              refine wp_eqlF (k1 := .i64) (i := ((l.length : Nat) : Int)) (j := 0) (by omega) (by rw [eTm, gPs (lt_sz ((sPu _ _ _).trans ((sPu _ _ _).trans ((sPu _ _ _).trans ((sPu _ _ _).trans ((sPu _ _ _).trans ((sPu _ _ _).trans ((sPu _ _ _).trans ((sPu _ _ _).trans hz260)))))))) (by decide))]) rfl ?_
              refine wg_yes (dj := 40) rfl (lt_sz ((sPu _ _ _).trans ((sPu _ _ _).trans ((sPu _ _ _).trans ((sPu _ _ _).trans ((sPu _ _ _).trans ((sPu _ _ _).trans ((sPu _ _ _).trans ((sPu _ _ _).trans ((sPu _ _ _).trans ((sPu _ _ _).trans hz260)))))))))) (by decide)) (by rw [gPn (by decide), gPn (by decide), gPn (by decide), gPn (by decide), gPn (by decide), gPn (by decide), gPn (by decide), gPn (by decide), gPs (lt_sz ((sPu _ _ _).trans hz260) (by decide))]) ?_
              refine wp_pickYes (v := .bool false) (by rw [eTm, gPn (by decide), gPn (by decide), gPn (by decide), gPn (by decide), gPs (lt_sz ((sPu _ _ _).trans ((sPu _ _ _).trans ((sPu _ _ _).trans ((sPu _ _ _).trans ((sPu _ _ _).trans hz260))))) (by decide))]) (by rw [eTm, gPs (lt_sz ((sPu _ _ _).trans ((sPu _ _ _).trans ((sPu _ _ _).trans ((sPu _ _ _).trans ((sPu _ _ _).trans ((sPu _ _ _).trans ((sPu _ _ _).trans ((sPu _ _ _).trans ((sPu _ _ _).trans hz260))))))))) (by decide))]) ?_
              refine gCn ?_
              refine wp_pickNo (v := .bool false) (by rw [eTm, gPn (by decide), gPn (by decide), gPn (by decide), gPn (by decide), gPn (by decide), gPn (by decide), gPn (by decide), gPn (by decide), gPn (by decide), gPs (lt_sz ((sPu _ _ _).trans hz260) (by decide))]) (by rw [eTm, gPs (lt_sz ((sPu _ _ _).trans ((sPu _ _ _).trans ((sPu _ _ _).trans ((sPu _ _ _).trans ((sPu _ _ _).trans ((sPu _ _ _).trans ((sPu _ _ _).trans ((sPu _ _ _).trans ((sPu _ _ _).trans ((sPu _ _ _).trans hz260)))))))))) (by decide))]) ?_
              refine gCn ?_
              refine wp_buildC (z := zT) (ps := [(2, .tmp 50)]) (vs := [(2, .bool false)]) (cs := [.int .i64 0, .slice none 0 0, .bool false, .slice none 0 0, .slice none 0 0]) hFlT26 (by simp only [List.map_nil, List.map_cons]; rw [show ((((((((((((a260.put (some 39) (.bool false)).put (some 40) (.bool false)).put (some 41) (.pointer (some ⟨w.heap.size, 4, none⟩))).put (some 42) (.int .i64 fd.tag)).put (some 43) (.bool true)).put (some 44) (.bool true)).put (some 45) (.pointer (some ⟨w202.heap.size, 3, none⟩))).put (some 46) lv).put (some 47) (.int .i64 ((l.length : Nat) : Int))).put (some 48) (.bool false)).put (some 49) (.bool false)).put (some 50) (.bool false)).eval (.tmp 50) = Value.bool false from (by rw [eTm, gPs (lt_sz ((sPu _ _ _).trans ((sPu _ _ _).trans ((sPu _ _ _).trans ((sPu _ _ _).trans ((sPu _ _ _).trans ((sPu _ _ _).trans ((sPu _ _ _).trans ((sPu _ _ _).trans ((sPu _ _ _).trans ((sPu _ _ _).trans ((sPu _ _ _).trans hz260))))))))))) (by decide))])]) (by intro p hp; simp at hp; subst hp; exact ⟨by simp [zT], rfl⟩) rfl ?_
              refine gCn ?_
              have hgs339 := hF215.size
              have hgs340 := hL215_w208.size
              refine wp_allocL hFlT26 ?_
              rintro w341 f341 sz341 r341 th341
              have hF342 : Fr [] w w341 := hF215.tr f341
              have hL342_w208 : Fr [] w208 w341 := hL215_w208.tr f341
              have rb343 := f341.range rb216 .nil
              have rb344 := f341.range rb217 .nil
              refine gCn ?_
              refine wp_storeL (cs := [.int .i64 0, .slice none 0 0, .bool false, .slice none 0 0, .slice none 0 0]) (o := 0) hFlT26 rfl (by rw [eTm, gPs (lt_sz ((sPu _ _ _).trans ((sPu _ _ _).trans ((sPu _ _ _).trans ((sPu _ _ _).trans ((sPu _ _ _).trans ((sPu _ _ _).trans ((sPu _ _ _).trans ((sPu _ _ _).trans ((sPu _ _ _).trans ((sPu _ _ _).trans ((sPu _ _ _).trans ((sPu _ _ _).trans ((sPu _ _ _).trans hz260))))))))))))) (by decide))]) (by rw [eTm, gPn (by decide), gPs (lt_sz ((sPu _ _ _).trans ((sPu _ _ _).trans ((sPu _ _ _).trans ((sPu _ _ _).trans ((sPu _ _ _).trans ((sPu _ _ _).trans ((sPu _ _ _).trans ((sPu _ _ _).trans ((sPu _ _ _).trans ((sPu _ _ _).trans ((sPu _ _ _).trans ((sPu _ _ _).trans hz260)))))))))))) (by decide))]) (by intro u hu; simp at hu; rcases hu with rfl | rfl | rfl | rfl | rfl <;> rfl) th341 ?_
              rintro w345 f345 sz345 r345 th345
              have hF345 : Fr [] w w345 := hF342.trans f345 (fun r hr => .inl (by simp at hr; subst hr; have := hF215.size; simp only; omega))
              have rb346 := f345.range rb343 (.cons (.inl (by simp only; omega)) .nil)
              have rb347 := f345.range rb344 (.cons (.inl (by simp only; omega)) .nil)
              have hL345_w208 : Fr [] w208 w345 := hL342_w208.trans f345 (fun r hr => .inl (by simp at hr; subst hr; have := hL215_w208.size; simp only; omega))
              refine wg_end fun a348 ha348 => ?_
              have hz348 : a348.tmps.size = 82 := by rw [ha348, pNo]; exact ((sPu _ _ _).trans ((sPu _ _ _).trans ((sPu _ _ _).trans ((sPu _ _ _).trans ((sPu _ _ _).trans ((sPu _ _ _).trans ((sPu _ _ _).trans ((sPu _ _ _).trans ((sPu _ _ _).trans ((sPu _ _ _).trans ((sPu _ _ _).trans ((sPu _ _ _).trans ((sPu _ _ _).trans ((sPu _ _ _).trans hz260))))))))))))))
              have hd348 : a348.defers = [] := by rw [ha348, pNo]; exact ((dPu _ _ _).trans ((dPu _ _ _).trans ((dPu _ _ _).trans ((dPu _ _ _).trans ((dPu _ _ _).trans ((dPu _ _ _).trans ((dPu _ _ _).trans ((dPu _ _ _).trans ((dPu _ _ _).trans ((dPu _ _ _).trans ((dPu _ _ _).trans ((dPu _ _ _).trans ((dPu _ _ _).trans ((dPu _ _ _).trans hd260))))))))))))))
              have g348_1 : get a348 1 = .int .i64 ver := by rw [ha348, pNo, gPn (by decide), gPn (by decide), gPn (by decide), gPn (by decide), gPn (by decide), gPn (by decide), gPn (by decide), gPn (by decide), gPn (by decide), gPn (by decide), gPn (by decide), gPn (by decide), gPn (by decide), gPn (by decide), g260_1]
              have g348_3 : get a348 3 = .pointer (some ⟨w.heap.size, 0, none⟩) := by rw [ha348, pNo, gPn (by decide), gPn (by decide), gPn (by decide), gPn (by decide), gPn (by decide), gPn (by decide), gPn (by decide), gPn (by decide), gPn (by decide), gPn (by decide), gPn (by decide), gPn (by decide), gPn (by decide), gPn (by decide), g260_3]
              have g348_5 : get a348 5 = .pointer (some ⟨w202.heap.size, 0, none⟩) := by rw [ha348, pNo, gPn (by decide), gPn (by decide), gPn (by decide), gPn (by decide), gPn (by decide), gPn (by decide), gPn (by decide), gPn (by decide), gPn (by decide), gPn (by decide), gPn (by decide), gPn (by decide), gPn (by decide), gPn (by decide), g260_5]
              have g348_6 : get a348 6 = .pointer (some ⟨w204.heap.size, 0, none⟩) := by rw [ha348, pNo, gPn (by decide), gPn (by decide), gPn (by decide), gPn (by decide), gPn (by decide), gPn (by decide), gPn (by decide), gPn (by decide), gPn (by decide), gPn (by decide), gPn (by decide), gPn (by decide), gPn (by decide), gPn (by decide), g260_6]
              have g348_9 : get a348 9 = .pointer (some ⟨w214.heap.size, 0, none⟩) := by rw [ha348, pNo, gPs (lt_sz ((sPu _ _ _).trans ((sPu _ _ _).trans ((sPu _ _ _).trans ((sPu _ _ _).trans ((sPu _ _ _).trans ((sPu _ _ _).trans ((sPu _ _ _).trans ((sPu _ _ _).trans ((sPu _ _ _).trans ((sPu _ _ _).trans ((sPu _ _ _).trans ((sPu _ _ _).trans ((sPu _ _ _).trans hz260))))))))))))) (by decide))]
              clear ha348
              have hnx : (nu || (decide (fd.tag ≥ 0) && (l.length == 0))) = false := by rw [hnf]; simp [hl0]
              exact hJ263 a348 w345 ⟨hz348, hd348, g348_1, g348_3, g348_5, g348_6, g348_9, by rw [hnx]; exact r345, th345, hF345, hL345_w208, rb346, rb347, by omega⟩
            · refine wp_regG ?_
              refine gCn ?_
              refine wMv (v := .bool false) (by rw [eTm, g260_7]) ?_
              refine gCn ?_
              refine wMv (v := .bool false) (by rw [eTm, gPs (lt_sz hz260 (by decide))]) ?_
              refine wg_yes (dj := 40) rfl (lt_sz ((sPu _ _ _).trans ((sPu _ _ _).trans hz260)) (by decide)) (by rw [gPs (lt_sz ((sPu _ _ _).trans hz260) (by decide))]) ?_
              refine wFa (b := w.heap.size) (i := 0) (hFlT46.fld (by decide)) (by rw [eTm, gPn (by decide), gPn (by decide), g260_3]) ?_
              rw [show (0 + 4 : Nat) = 4 from rfl]
              refine wg_yes (dj := 40) rfl (lt_sz ((sPu _ _ _).trans ((sPu _ _ _).trans ((sPu _ _ _).trans hz260))) (by decide)) (by rw [gPn (by decide), gPs (lt_sz ((sPu _ _ _).trans hz260) (by decide))]) ?_
              refine wL0 (j := 4) (v := .int .i64 fd.tag) hcT3 (by rw [eTm, gPs (lt_sz ((sPu _ _ _).trans ((sPu _ _ _).trans hz260)) (by decide))]) rb216 rfl ?_
              refine wg_yes (dj := 40) rfl (lt_sz ((sPu _ _ _).trans ((sPu _ _ _).trans ((sPu _ _ _).trans ((sPu _ _ _).trans hz260)))) (by decide)) (by rw [gPn (by decide), gPn (by decide), gPs (lt_sz ((sPu _ _ _).trans hz260) (by decide))]) ?_
              refine wp_geqF (k1 := .i64) (i := fd.tag) (j := 0) htg0 (by rw [eTm, gPs (lt_sz ((sPu _ _ _).trans ((sPu _ _ _).trans ((sPu _ _ _).trans hz260))) (by decide))]) rfl ?_
              refine wg_yes (dj := 40) rfl (lt_sz ((sPu _ _ _).trans ((sPu _ _ _).trans ((sPu _ _ _).trans ((sPu _ _ _).trans ((sPu _ _ _).trans hz260))))) (by decide)) (by rw [gPn (by decide), gPn (by decide), gPn (by decide), gPs (lt_sz ((sPu _ _ _).trans hz260) (by decide))]) ?_
              refine wMv (v := .bool false) (by rw [eTm, gPs (lt_sz ((sPu _ _ _).trans ((sPu _ _ _).trans ((sPu _ _ _).trans ((sPu _ _ _).trans hz260)))) (by decide))]) ?_
              refine wg_noT (dj := 44) rfl (lt_sz ((sPu _ _ _).trans ((sPu _ _ _).trans ((sPu _ _ _).trans ((sPu _ _ _).trans ((sPu _ _ _).trans ((sPu _ _ _).trans hz260)))))) (by decide)) (by rw [gPs (lt_sz ((sPu _ _ _).trans ((sPu _ _ _).trans ((sPu _ _ _).trans ((sPu _ _ _).trans ((sPu _ _ _).trans hz260))))) (by decide))]) ?_
              refine wg_noT (dj := 44) rfl (lt_sz ((sPu _ _ _).trans ((sPu _ _ _).trans ((sPu _ _ _).trans ((sPu _ _ _).trans ((sPu _ _ _).trans ((sPu _ _ _).trans ((sPu _ _ _).trans hz260))))))) (by decide)) (by rw [gPn (by decide), gPs (lt_sz ((sPu _ _ _).trans ((sPu _ _ _).trans ((sPu _ _ _).trans ((sPu _ _ _).trans ((sPu _ _ _).trans hz260))))) (by decide))]) ?_
              refine wg_noT (dj := 44) rfl (lt_sz ((sPu _ _ _).trans ((sPu _ _ _).trans ((sPu _ _ _).trans ((sPu _ _ _).trans ((sPu _ _ _).trans ((sPu _ _ _).trans ((sPu _ _ _).trans ((sPu _ _ _).trans hz260)))))))) (by decide)) (by rw [gPn (by decide), gPn (by decide), gPs (lt_sz ((sPu _ _ _).trans ((sPu _ _ _).trans ((sPu _ _ _).trans ((sPu _ _ _).trans ((sPu _ _ _).trans hz260))))) (by decide))]) ?_
              refine wg_noT (dj := 44) rfl (lt_sz ((sPu _ _ _).trans ((sPu _ _ _).trans ((sPu _ _ _).trans ((sPu _ _ _).trans ((sPu _ _ _).trans ((sPu _ _ _).trans ((sPu _ _ _).trans ((sPu _ _ _).trans ((sPu _ _ _).trans hz260))))))))) (by decide)) (by rw [gPn (by decide), gPn (by decide), gPn (by decide), gPs (lt_sz ((sPu _ _ _).trans ((sPu _ _ _).trans ((sPu _ _ _).trans ((sPu _ _ _).trans ((sPu _ _ _).trans hz260))))) (by decide))]) ?_
              refine wg_yes (dj := 40) rfl (lt_sz ((sPu _ _ _).trans ((sPu _ _ _).trans ((sPu _ _ _).trans ((sPu _ _ _).trans ((sPu _ _ _).trans ((sPu _ _ _).trans ((sPu _ _ _).trans ((sPu _ _ _).trans ((sPu _ _ _).trans ((sPu _ _ _).trans hz260)))))))))) (by decide)) (by rw [gPn (by decide), gPn (by decide), gPn (by decide), gPn (by decide), gPn (by decide), gPn (by decide), gPn (by decide), gPn (by decide), gPs (lt_sz ((sPu _ _ _).trans hz260) (by decide))]) ?_
              refine wp_pickNo (v := .bool false) (by rw [eTm, gPn (by decide), gPn (by decide), gPn (by decide), gPn (by decide), gPs (lt_sz ((sPu _ _ _).trans ((sPu _ _ _).trans ((sPu _ _ _).trans ((sPu _ _ _).trans ((sPu _ _ _).trans hz260))))) (by decide))]) rfl ?_
              refine gCn ?_
              refine wp_pickNo (v := .bool false) (by rw [eTm, gPn (by decide), gPn (by decide), gPn (by decide), gPn (by decide), gPn (by decide), gPn (by decide), gPn (by decide), gPn (by decide), gPn (by decide), gPs (lt_sz ((sPu _ _ _).trans hz260) (by decide))]) (by rw [eTm, gPs (lt_sz ((sPu _ _ _).trans ((sPu _ _ _).trans ((sPu _ _ _).trans ((sPu _ _ _).trans ((sPu _ _ _).trans ((sPu _ _ _).trans ((sPu _ _ _).trans ((sPu _ _ _).trans ((sPu _ _ _).trans ((sPu _ _ _).trans hz260)))))))))) (by decide))]) ?_
              refine gCn ?_
              refine wp_buildC (z := zT) (ps := [(2, .tmp 50)]) (vs := [(2, .bool false)]) (cs := [.int .i64 0, .slice none 0 0, .bool false, .slice none 0 0, .slice none 0 0]) hFlT26 (by simp only [List.map_nil, List.map_cons]; rw [show ((((((((((((a260.put (some 39) (.bool false)).put (some 40) (.bool false)).put (some 41) (.pointer (some ⟨w.heap.size, 4, none⟩))).put (some 42) (.int .i64 fd.tag)).put (some 43) (.bool false)).put (some 44) (.bool false)).put (some 45) undef).put (some 46) undef).put (some 47) undef).put (some 48) undef).put (some 49) (.bool false)).put (some 50) (.bool false)).eval (.tmp 50) = Value.bool false from (by rw [eTm, gPs (lt_sz ((sPu _ _ _).trans ((sPu _ _ _).trans ((sPu _ _ _).trans ((sPu _ _ _).trans ((sPu _ _ _).trans ((sPu _ _ _).trans ((sPu _ _ _).trans ((sPu _ _ _).trans ((sPu _ _ _).trans ((sPu _ _ _).trans ((sPu _ _ _).trans hz260))))))))))) (by decide))])]) (by intro p hp; simp at hp; subst hp; exact ⟨by simp [zT], rfl⟩) rfl ?_
              refine gCn ?_
              have hgs349 := hF215.size
              have hgs350 := hL215_w208.size
              refine wp_allocL hFlT26 ?_
              rintro w351 f351 sz351 r351 th351
              have hF352 : Fr [] w w351 := hF215.tr f351
              have hL352_w208 : Fr [] w208 w351 := hL215_w208.tr f351
              have rb353 := f351.range rb216 .nil
              have rb354 := f351.range rb217 .nil
              refine gCn ?_
              refine wp_storeL (cs := [.int .i64 0, .slice none 0 0, .bool false, .slice none 0 0, .slice none 0 0]) (o := 0) hFlT26 rfl (by rw [eTm, gPs (lt_sz ((sPu _ _ _).trans ((sPu _ _ _).trans ((sPu _ _ _).trans ((sPu _ _ _).trans ((sPu _ _ _).trans ((sPu _ _ _).trans ((sPu _ _ _).trans ((sPu _ _ _).trans ((sPu _ _ _).trans ((sPu _ _ _).trans ((sPu _ _ _).trans ((sPu _ _ _).trans ((sPu _ _ _).trans hz260))))))))))))) (by decide))]) (by rw [eTm, gPn (by decide), gPs (lt_sz ((sPu _ _ _).trans ((sPu _ _ _).trans ((sPu _ _ _).trans ((sPu _ _ _).trans ((sPu _ _ _).trans ((sPu _ _ _).trans ((sPu _ _ _).trans ((sPu _ _ _).trans ((sPu _ _ _).trans ((sPu _ _ _).trans ((sPu _ _ _).trans ((sPu _ _ _).trans hz260)))))))))))) (by decide))]) (by intro u hu; simp at hu; rcases hu with rfl | rfl | rfl | rfl | rfl <;> rfl) th351 ?_
              rintro w355 f355 sz355 r355 th355
              have hF355 : Fr [] w w355 := hF352.trans f355 (fun r hr => .inl (by simp at hr; subst hr; have := hF215.size; simp only; omega))
              have rb356 := f355.range rb353 (.cons (.inl (by simp only; omega)) .nil)
              have rb357 := f355.range rb354 (.cons (.inl (by simp only; omega)) .nil)
              have hL355_w208 : Fr [] w208 w355 := hL352_w208.trans f355 (fun r hr => .inl (by simp at hr; subst hr; have := hL215_w208.size; simp only; omega))
              refine wg_end fun a358 ha358 => ?_
              have hz358 : a358.tmps.size = 82 := by rw [ha358, pNo]; exact ((sPu _ _ _).trans ((sPu _ _ _).trans ((sPu _ _ _).trans ((sPu _ _ _).trans ((sPu _ _ _).trans ((sPu _ _ _).trans ((sPu _ _ _).trans ((sPu _ _ _).trans ((sPu _ _ _).trans ((sPu _ _ _).trans ((sPu _ _ _).trans ((sPu _ _ _).trans ((sPu _ _ _).trans ((sPu _ _ _).trans hz260))))))))))))))
              have hd358 : a358.defers = [] := by rw [ha358, pNo]; exact ((dPu _ _ _).trans ((dPu _ _ _).trans ((dPu _ _ _).trans ((dPu _ _ _).trans ((dPu _ _ _).trans ((dPu _ _ _).trans ((dPu _ _ _).trans ((dPu _ _ _).trans ((dPu _ _ _).trans ((dPu _ _ _).trans ((dPu _ _ _).trans ((dPu _ _ _).trans ((dPu _ _ _).trans ((dPu _ _ _).trans hd260))))))))))))))
              have g358_1 : get a358 1 = .int .i64 ver := by rw [ha358, pNo, gPn (by decide), gPn (by decide), gPn (by decide), gPn (by decide), gPn (by decide), gPn (by decide), gPn (by decide), gPn (by decide), gPn (by decide), gPn (by decide), gPn (by decide), gPn (by decide), gPn (by decide), gPn (by decide), g260_1]
              have g358_3 : get a358 3 = .pointer (some ⟨w.heap.size, 0, none⟩) := by rw [ha358, pNo, gPn (by decide), gPn (by decide), gPn (by decide), gPn (by decide), gPn (by decide), gPn (by decide), gPn (by decide), gPn (by decide), gPn (by decide), gPn (by decide), gPn (by decide), gPn (by decide), gPn (by decide), gPn (by decide), g260_3]
              have g358_5 : get a358 5 = .pointer (some ⟨w202.heap.size, 0, none⟩) := by rw [ha358, pNo, gPn (by decide), gPn (by decide), gPn (by decide), gPn (by decide), gPn (by decide), gPn (by decide), gPn (by decide), gPn (by decide), gPn (by decide), gPn (by decide), gPn (by decide), gPn (by decide), gPn (by decide), gPn (by decide), g260_5]
              have g358_6 : get a358 6 = .pointer (some ⟨w204.heap.size, 0, none⟩) := by rw [ha358, pNo, gPn (by decide), gPn (by decide), gPn (by decide), gPn (by decide), gPn (by decide), gPn (by decide), gPn (by decide), gPn (by decide), gPn (by decide), gPn (by decide), gPn (by decide), gPn (by decide), gPn (by decide), gPn (by decide), g260_6]
              have g358_9 : get a358 9 = .pointer (some ⟨w214.heap.size, 0, none⟩) := by rw [ha358, pNo, gPs (lt_sz ((sPu _ _ _).trans ((sPu _ _ _).trans ((sPu _ _ _).trans ((sPu _ _ _).trans ((sPu _ _ _).trans ((sPu _ _ _).trans ((sPu _ _ _).trans ((sPu _ _ _).trans ((sPu _ _ _).trans ((sPu _ _ _).trans ((sPu _ _ _).trans ((sPu _ _ _).trans ((sPu _ _ _).trans hz260))))))))))))) (by decide))]
              clear ha358
              have hnx : (nu || (decide (fd.tag ≥ 0) && (l.length == 0))) = false := by rw [hnf]; simp [htg0]
              exact hJ263 a358 w355 ⟨hz358, hd358, g358_1, g358_3, g358_5, g358_6, g358_9, by rw [hnx]; exact r355, th355, hF355, hL355_w208, rb356, rb357, by omega⟩
        · have hn11 : fd.kind ≠ 11 := by simpa using hc261
          refine wp_skip ?_
          refine hK219 a260 w214 (tUp ?_)
          refine tId (wp_seq_k fun K359 hK359 => ?_)
          refine wp_reg ?_
          rw [wCo]
          refine wFa (b := w202.heap.size) (i := 0) (hFlT26.fld (by decide)) (by rw [eTm, g260_5]) ?_
          rw [show (0 + 0 : Nat) = 0 from rfl]
          rw [wCo]
          refine wL0 (j := 0) (v := .int .i64 n) hcT2 (by rw [eTm, gPs (lt_sz hz260 (by decide))]) rb217 rfl ?_
          rw [wCo]
          refine wFa (b := w202.heap.size) (i := 0) (hFlT26.fld (by decide)) (by rw [eTm, gPn (by decide), gPn (by decide), g260_5]) ?_
          rw [show (0 + 1 : Nat) = 1 from rfl]
          rw [wCo]
          refine wL0 (j := 1) (v := sv) hcT22 (by rw [eTm, gPs (lt_sz ((sPu _ _ _).trans ((sPu _ _ _).trans hz260)) (by decide))]) rb217 rfl ?_
          rw [wCo]
          refine wp_buildC (z := zT) (ps := [(0, .tmp 78), (1, .tmp 80)]) (vs := [(0, .int .i64 n), (1, sv)]) (cs := [.int .i64 n, sv, .bool false, .slice none 0 0, .slice none 0 0]) hFlT26 (by simp only [List.map_nil, List.map_cons]; rw [show ((((a260.put (some 77) (.pointer (some ⟨w202.heap.size, 0, none⟩))).put (some 78) (.int .i64 n)).put (some 79) (.pointer (some ⟨w202.heap.size, 1, none⟩))).put (some 80) sv).eval (.tmp 78) = Value.int .i64 n from (by rw [eTm, gPn (by decide), gPn (by decide), gPs (lt_sz ((sPu _ _ _).trans hz260) (by decide))]), show ((((a260.put (some 77) (.pointer (some ⟨w202.heap.size, 0, none⟩))).put (some 78) (.int .i64 n)).put (some 79) (.pointer (some ⟨w202.heap.size, 1, none⟩))).put (some 80) sv).eval (.tmp 80) = sv from (by rw [eTm, gPs (lt_sz ((sPu _ _ _).trans ((sPu _ _ _).trans ((sPu _ _ _).trans hz260))) (by decide))])]) (by intro p hp; simp at hp; rcases hp with rfl | rfl; exact ⟨by simp [zT], rfl⟩; exact ⟨by simp [zT], hs.one⟩) rfl ?_
          rw [wCo]
          have hthR := (hL215_w208).there th208
          refine wp_storeFlat (cs := [.int .i64 n, sv, .bool false, .slice none 0 0, .slice none 0 0]) (b := w204.heap.size) (o := 0) hFlT26 rfl (by rw [eTm, gPn (by decide), gPn (by decide), gPn (by decide), gPn (by decide), gPn (by decide), g260_6]) (by rw [eTm, gPs (lt_sz ((sPu _ _ _).trans ((sPu _ _ _).trans ((sPu _ _ _).trans ((sPu _ _ _).trans hz260)))) (by decide))]) (by intro y hy; simp at hy; rcases hy with rfl | rfl | rfl | rfl | rfl <;> first | rfl | exact hs.one) hthR ?_
          have f7 := Fr.sets w204.heap.size [.int .i64 n, sv, .bool false, .slice none 0 0, .slice none 0 0] w214 0
          have r7 := World.rangeAt_setCells_same (w := w214) w204.heap.size 0 [.int .i64 n, sv, .bool false, .slice none 0 0, .slice none 0 0] hthR
          have hFa := hF215
          have hfra := hL215_w208
          generalize hw7 : w214.setCells w204.heap.size 0 [.int .i64 n, sv, .bool false, .slice none 0 0, .slice none 0 0] = wr at f7 r7 ⊢
          clear hw7
          refine wEn fun a360 ha360 => ?_
          have hz360 : a360.tmps.size = 82 := by rw [ha360, pNo]; exact ((sPu _ _ _).trans ((sPu _ _ _).trans ((sPu _ _ _).trans ((sPu _ _ _).trans ((sPu _ _ _).trans hz260)))))
          have hd360 : a360.defers = [] := by rw [ha360, pNo]; exact ((dPu _ _ _).trans ((dPu _ _ _).trans ((dPu _ _ _).trans ((dPu _ _ _).trans ((dPu _ _ _).trans hd260)))))
          have g360_6 : get a360 6 = .pointer (some ⟨w204.heap.size, 0, none⟩) := by rw [ha360, pNo, gPn (by decide), gPn (by decide), gPn (by decide), gPn (by decide), gPn (by decide), g260_6]
          clear ha360
          refine hK359 a360 wr (tUp ?_)
          refine wp_ret ?_
          have hs7 := f7.size
          have hsa := hfra.size
          refine ⟨hd360, _, results_cellL (cs := [.int .i64 n, sv, .bool false, .slice none 0 0, .slice none 0 0]) hres hFlT26 rfl g360_6 r7, _, rfl, hFa.trans f7 (fun r hr => .inl (by simp at hr; subst hr; simp only; omega)), ?_⟩
          rw [show fitK gS gO fd ver (.mk n s nl l u) = .mk n s false [] [] from by unfold fitK; rw [if_neg hn89, if_neg hn10, if_neg hn11]; rfl]
          exact repT_iff.2 ⟨_, _, _, rfl, hn, (hs.kept hFa (by simp) (fun _ h => h)).kept f7 (by intro r hr hC; simp at hr; subst hr; have := hB _ hC; simp only at this; omega) (fun b hb => .inl hb), .inl ⟨.inl rfl, rfl⟩, .inl ⟨.inl rfl, rfl⟩⟩
end Go.Kq

namespace Go.Kq
open Go
mutual
/-- The cells of a type at nought. -/
def Ty.zc : Ty → List Value
  | .int k => [.int k 0]
  | .bool => [.bool false]
  | .f64 => [.float .f64 0]
  | .str => [.string ⟨#[]⟩]
  | .pstr => [.pointer none]
  | .bytes => [.slice none 0 0]
  | .uuid => octets (List.replicate 16 0)
  | .tags => [.map none]
  | .arr _ => [.slice none 0 0]
  | .st fs => Ty.zcs fs
  | .ptr _ => [.pointer none]
def Ty.zcs : List Ty → List Value
  | [] => []
  | t :: ts => t.zc ++ Ty.zcs ts
end
mutual
/-- What it says. -/
def Ty.zv : Ty → V
  | .int _ => .n 0
  | .bool => .n 0
  | .f64 => .n 0
  | .str => .s []
  | .pstr => .nil
  | .bytes => .nil
  | .uuid => .s (List.replicate 16 0)
  | .tags => .nil
  | .arr _ => .nil
  | .st fs => .l (Ty.zvs fs)
  | .ptr _ => .nil
def Ty.zvs : List Ty → List V
  | [] => []
  | t :: ts => t.zv :: Ty.zvs ts
end
mutual
theorem rep_zero {w : World} {A : Nat → Prop} : ∀ (t : Ty), Rep w A t t.zc t.zv
  | .int k => ⟨0, rfl, rfl, by cases k <;> simp [IntKind.min, IntKind.signed, IntKind.bits], by cases k <;> simp [IntKind.max, IntKind.signed, IntKind.bits]⟩
  | .bool => ⟨false, rfl, rfl⟩
  | .f64 => ⟨0, rfl, rfl, by omega⟩
  | .str => ⟨⟨#[]⟩, rfl, rfl, by simp⟩
  | .pstr => .inl ⟨rfl, rfl⟩
  | .bytes => ⟨.slice none 0 0, none, rfl, .inl ⟨rfl, rfl⟩, rfl⟩
  | .uuid => ⟨List.replicate 16 0, by simp, rfl, rfl⟩
  | .tags => .inl ⟨rfl, rfl⟩
  | .arr _ => .inl ⟨rfl, rfl⟩
  | .st fs => ⟨Ty.zvs fs, rfl, reps_zero fs⟩
  | .ptr _ => .inl ⟨rfl, rfl⟩
theorem reps_zero {w : World} {A : Nat → Prop} : ∀ (ts : List Ty), Reps w A ts (Ty.zcs ts) (Ty.zvs ts)
  | [] => ⟨rfl, rfl⟩
  | t :: ts => ⟨t.zc, Ty.zcs ts, t.zv, Ty.zvs ts, rfl, rfl, rep_zero t, reps_zero ts⟩
end
end Go.Kq

namespace Go.Kq
open Go Go.Proofs
structure NewM (P : Program) (f : FuncId) (tys : List Ty) (ds : List V) : Prop where
  enters : Enters P f
  call : ∀ w, Calls P f #[] w fun e w' => ∃ pb z, e = .returned (.pointer (some ⟨pb, 0, none⟩)) ∧ w.heap.size ≤ pb ∧ pb < w'.heap.size ∧ Fr [] w w' ∧ w'.rangeAt pb 0 z ∧ Reps w' NoFoot tys z ds ∧ w'.there pb 0 (Ty.sizes tys)
theorem new_m {P : Program} {f fd : FuncId} {fn : Func} {TM : TypeId} {tys : List Ty} {d : List V → List V} {i0 i1 i2 i3 : Nat} {ats : Array TypeId} {x0 : Value}
    {t0 t1 t2 t3 : TypeId} {p0 p1 p2 p3 : String} {e0 e1 e2 e3 : Array Edge} (hf : P.funcs[f]? = some fn) (hname : (fn.name == "runtime.NumGoroutine") = false) (hres : fn.results = #[.tmp 0]) (hN : fn.ntmps = 3)
    (hbody : fn.body = some (.seq (Code.region i0 ⟨[⟨some 0, .assign (.const x0), t0, p0, e0, none⟩]⟩ false)
      (.seq (Code.region i1 ⟨[⟨some 1, .alloc TM, t1, p1, e1, none⟩]⟩ false)
      (.seq (Code.region i2 ⟨[⟨some 2, .call ⟨.value (.func fd), #[.tmp 1], ats⟩, t2, p2, e2, none⟩]⟩ false)
      (.seq (Code.region i3 ⟨[⟨some 0, .assign (.tmp 1), t3, p3, e3, none⟩]⟩ false) .ret)))))
    (hz : zeroIs P TM (Ty.zcs tys)) (hd : DefM P fd tys d) (hn : 0 < Ty.sizes tys) : NewM P f tys (d (Ty.zvs tys)) := by
  refine ⟨enters_of hf hname hbody, fun w => ?_⟩
  obtain ⟨i, v, hi, hzv, hcs⟩ := hz
  refine calls_of_wp hf hbody ?_
  generalize ha0 : ({ tmps := #[] ++ Array.replicate (fn.ntmps - #[].size) undef, defers := [] } : Act) = a0
  have hsz : a0.tmps.size = 3 := by subst ha0; simp [hN]
  have hd0 : a0.defers = [] := by subst ha0; rfl
  refine tId (wp_seq_k fun K1 hK1 => ?_)
  refine r_const (m := 0) (by omega) (by omega) fun a1 k1 _ => hK1 a1 w (tUp ?_)
  have hz1 := k1.size
  refine wT fun K2 hK2 => ?_
  refine wC (wp_alloc ⟨i, hi, hzv⟩ ?_)
  rw [wNi]
  have f1 := Fr.alloc [] w (.cells v.cells TM)
  have rg1 := range_new w v.cells TM (0, 0)
  have th1 := there_new w v.cells TM
  have sz1 := size_alloc w (.cells v.cells TM)
  rw [hcs] at rg1
  have hlen : (Ty.zcs tys).length = Ty.sizes tys := (reps_zero (w := w) (A := NoFoot) tys).length
  have hcl : v.cells.size = Ty.sizes tys := by rw [← hlen, ← hcs, Array.length_toList]
  rw [hcl] at th1
  generalize w.alloc (.cells v.cells TM) = w1 at f1 rg1 th1 sz1 ⊢
  have g1 : get (a1.put (some 1) (.pointer (some ⟨w.heap.size, 0, none⟩))) 1 = .pointer (some ⟨w.heap.size, 0, none⟩) := gQ
  have k2 : Kept 0 a1 (a1.put (some 1) (.pointer (some ⟨w.heap.size, 0, none⟩))) := Kept.put0 (by omega) _
  generalize a1.put (some 1) (.pointer (some ⟨w.heap.size, 0, none⟩)) = a2 at g1 k2 ⊢
  have hz2 := k2.size
  refine hK2 a2 w1 (tUp ?_)
  refine wT fun K3 hK3 => ?_
  rw [wCo]
  refine wp_calls (R := fun _ w' => (∃ z', w'.rangeAt w.heap.size 0 z' ∧ Reps w' NoFoot tys z' (d (Ty.zvs tys))) ∧ Fr [⟨w.heap.size, 0, 0 + (Ty.zcs tys).length⟩] w1 w') hd.enters (vs := #[.pointer (some ⟨w.heap.size, 0, none⟩)]) (by simp [eTm, g1])
    ((hd.call w1 w.heap.size 0 _ _ rg1 (by rw [hlen]; exact th1) (reps_zero tys)).mono (by rintro e' w' ⟨x, h1, h2, h3⟩; exact ⟨x, h1, h2, h3⟩)) ?_
  rintro x w2 ⟨⟨z', hz', hr'⟩, f2⟩
  rw [wNi]
  have hz3 := f2.size
  refine hK3 _ w2 (tUp ?_)
  refine wT fun K4 hK4 => ?_
  rw [wCo, wAg, eTm, gR, g1, wNi]
  refine hK4 _ w2 (wp_ret ?_)
  refine ⟨by rw [dPu, dPu, k2.defers, k1.defers, hd0], _, results_one hres, w.heap.size, z', by rw [gQ], Nat.le_refl _, by omega, ?_, hz', hr', f2.there th1⟩
  refine f1.trans f2 ?_
  intro r hr; simp at hr; subst hr; exact .inl (Nat.le_refl _)
structure SetM (P : Program) (f : FuncId) : Prop where
  enters : Enters P f
  call : ∀ w pb ver, w.there pb 0 1 → Calls P f #[.pointer (some ⟨pb, 0, none⟩), .int .i16 ver] w fun e w' => (∃ x, e = .returned x) ∧ w' = w.setCell ⟨pb, 0, none⟩ (.int .i16 ver)
theorem set_m {P : Program} {f : FuncId} {fn : Func} {S Tv kv : Nat} {i0 : Nat} {t0 t1 t2 t3 t4 : TypeId} {p0 p1 p2 p3 p4 : String} {e0 e1 e2 e3 e4 : Array Edge}
    (hf : P.funcs[f]? = some fn) (hname : (fn.name == "runtime.NumGoroutine") = false) (hres : fn.results = #[]) (hN : fn.ntmps = 8)
    (hbody : fn.body = some (Code.region i0 ⟨[⟨some 4, .move (.tmp 0), t0, p0, e0, none⟩, ⟨some 5, .move (.tmp 1), t1, p1, e1, none⟩, ⟨some 6, .nilCheck (.tmp 4), t2, p2, e2, none⟩, ⟨some 7, .fieldAddr S (.tmp 6) kv, t3, p3, e3, none⟩, ⟨none, .store Tv (.tmp 7) (.tmp 5), t4, p4, e4, none⟩]⟩ false))
    (hS : fieldOf P S kv 0 = true) (hTv : scal P Tv = true) : SetM P f := by
  refine ⟨enters_of hf hname hbody, fun w pb ver ht => ?_⟩
  refine calls_of_wp hf hbody ?_
  generalize ha0 : ({ tmps := #[Value.pointer (some ⟨pb, 0, none⟩), Value.int .i16 ver] ++ Array.replicate (fn.ntmps - #[Value.pointer (some ⟨pb, 0, none⟩), Value.int .i16 ver].size) undef, defers := [] } : Act) = a0
  have hsz : a0.tmps.size = 8 := by subst ha0; simp [hN]
  have hd0 : a0.defers = [] := by subst ha0; rfl
  have g0 : get a0 0 = .pointer (some ⟨pb, 0, none⟩) := by subst ha0; exact gAr rfl
  have g1 : get a0 1 = .int .i16 ver := by subst ha0; exact gAr rfl
  refine wp_reg ?_
  rw [wCo, wMw, eTm, g0, wCo, wMw, eTm, gR, g1, wCo]
  refine wNc (q := ⟨pb, 0, none⟩) (by rw [eTm, gR, gQ]) ?_
  refine wC (wFa (b := pb) (i := 0) hS (by rw [eTm, gQ]) ?_)
  refine wC (wp_store hTv (b := pb) (o := 0) (v := .int .i16 ver) (by rw [eTm, gQ]) (by rw [eTm, gR, gR, gQ]) rfl ht ?_)
  rw [wNi]
  exact ⟨by simp only [dPu]; exact hd0, .tuple #[], by simp [results, hres], ⟨_, rfl⟩, rfl⟩
end Go.Kq

namespace Go.Kq
open Go Go.Proofs
theorem wp_rem {P : Program} {a : Act} {w : World} {K : Act → World → Prop} {Q : Exit → Act → World → Prop} {d : Option Tmp} {t : TypeId} {p : String} {af : Array Edge} {g : Option (Nat × Bool)} {s u : TypeId} {x y : Operand} {k1 : IntKind} {i j : Int} (hj : j ≠ 0) (hx : a.eval x = .int k1 i) (hy : a.eval y = .int k1 j) (k : K (a.put d (.int k1 (i.tmod j))) w) :
    OW P ⟨d, .binOp .rem s x y u, t, p, af, g⟩ a w K Q := wp_val (by simp [execOp, hx, hy, eqGuard, binOp, Op.intDiv, hj]) k
theorem version_m {P : Program} {f : FuncId} {fn : Func} {T1 T2 T3 T4 T5 T6 i0 i1 : Nat} {x0 : Value} {t0 t1 t2 t3 t4 t5 t6 : TypeId} {p0 p1 p2 p3 p4 p5 p6 : String} {e0 e1 e2 e3 e4 e5 e6 : Array Edge}
    (hf : P.funcs[f]? = some fn) (hname : (fn.name == "runtime.NumGoroutine") = false) (hres : fn.results = #[.tmp 4]) (hN : fn.ntmps = 10)
    (hbody : fn.body = some (.seq (Code.region i0 ⟨[⟨some 4, .assign (.const x0), t0, p0, e0, none⟩]⟩ false)
      (.seq (Code.region i1 ⟨[⟨some 5, .move (.tmp 0), t1, p1, e1, none⟩, ⟨some 6, .convert T1 T2 (.tmp 5), t2, p2, e2, none⟩, ⟨some 7, .move (.tmp 1), t3, p3, e3, none⟩, ⟨some 8, .binOp .add T3 (.tmp 7) (.const (.int .i64 1)) T4, t4, p4, e4, none⟩,
        ⟨some 9, .binOp .rem T5 (.tmp 6) (.tmp 8) T6, t5, p5, e5, none⟩, ⟨some 4, .assign (.tmp 9), t6, p6, e6, none⟩]⟩ false) .ret)))
    (h1 : intOf P T1 .u8 = true) (h2 : intOf P T2 .i64 = true) : Enters P f ∧ ∀ (w : World) (n : Nat) (most : Nat), n < 256 → most < 32768 → Calls P f #[.int .u8 n, .int .i64 most] w fun e w' => e = .returned (.int .i64 ((n % (most + 1) : Nat) : Int)) ∧ w' = w := by
  refine ⟨enters_of hf hname hbody, fun w n most hn hm => ?_⟩
  refine calls_of_wp hf hbody ?_
  generalize ha0 : ({ tmps := #[Value.int .u8 (n : Int), Value.int .i64 (most : Int)] ++ Array.replicate (fn.ntmps - #[Value.int .u8 (n : Int), Value.int .i64 (most : Int)].size) undef, defers := [] } : Act) = a0
  have hsz : a0.tmps.size = 10 := by subst ha0; simp [hN]
  have hd0 : a0.defers = [] := by subst ha0; rfl
  have g0 : get a0 0 = .int .u8 n := by subst ha0; exact gAr rfl
  have g1 : get a0 1 = .int .i64 most := by subst ha0; exact gAr rfl
  refine tId (wp_seq_k fun K1 hK1 => ?_)
  refine r_const (m := 4) (by omega) (by omega) fun a1 k1 _ => hK1 a1 w (tUp ?_)
  have hz1 := k1.size
  refine wT fun K2 hK2 => ?_
  rw [wCo, wMw, eTm, k1.get 0 (by omega), g0, wCo]
  refine wCv (k1 := .u8) (i := n) h1 h2 (by rw [eTm, gQ]) ?_
  rw [wrap64 (by omega)]
  rw [wCo, wMw, eTm, gR, gR, k1.get 1 (by omega), g1, wCo]
  refine wp_add (k1 := .i64) (i := most) (j := 1) (by rw [eTm, gQ]) rfl ?_
  rw [wrap64 (by omega), wCo]
  refine wp_rem (k1 := .i64) (i := n) (j := (most : Int) + 1) (by omega) (by rw [eTm, gR, gR, gQ]) (by rw [eTm, gQ]) ?_
  rw [wCo, wAg, eTm, gQ, wNi]
  refine hK2 _ w (wp_ret ?_)
  refine ⟨by simp only [dPu]; rw [k1.defers, hd0], _, results_one hres, ?_, rfl⟩
  rw [gQ]
  congr 2
theorem maxv_m {P : Program} {f : FuncId} {fn : Func} {i0 i1 : Nat} {x0 : Value} {mx : Int} {t0 t1 : TypeId} {p0 p1 : String} {e0 e1 : Array Edge}
    (hf : P.funcs[f]? = some fn) (hname : (fn.name == "runtime.NumGoroutine") = false) (hres : fn.results = #[.tmp 2]) (hN : fn.ntmps = 3)
    (hbody : fn.body = some (.seq (Code.region i0 ⟨[⟨some 2, .assign (.const x0), t0, p0, e0, none⟩]⟩ false) (.seq (Code.region i1 ⟨[⟨some 2, .assign (.const (.int .i16 mx)), t1, p1, e1, none⟩]⟩ false) .ret))) :
    Enters P f ∧ ∀ (w : World) (v : Value), Calls P f #[v] w fun e w' => e = .returned (.int .i16 mx) ∧ w' = w := by
  refine ⟨enters_of hf hname hbody, fun w v => ?_⟩
  refine calls_of_wp hf hbody ?_
  generalize ha0 : ({ tmps := #[v] ++ Array.replicate (fn.ntmps - #[v].size) undef, defers := [] } : Act) = a0
  have hsz : a0.tmps.size = 3 := by subst ha0; simp [hN]
  have hd0 : a0.defers = [] := by subst ha0; rfl
  refine tId (wp_seq_k fun K1 hK1 => ?_)
  refine r_const (m := 2) (by omega) (by omega) fun a1 k1 _ => hK1 a1 w (tUp ?_)
  have hz1 := k1.size
  refine tId (wp_seq_k fun K2 hK2 => ?_)
  refine r_const (m := 2) (by omega) (by omega) fun a2 k2 g2 => hK2 a2 w (tUp ?_)
  refine wp_ret ?_
  exact ⟨by rw [k2.defers, k1.defers, hd0], _, results_one hres, by rw [g2], rfl⟩
theorem maxd_m {P : Program} {f fnw fmx : FuncId} {fn : Func} {T1 T2 i0 i1 : Nat} {tys : List Ty} {ds : List V} {ats1 ats2 : Array TypeId} {mx : Int} {t0 t1 t2 t3 t4 : TypeId} {p0 p1 p2 p3 p4 : String} {e0 e1 e2 e3 e4 : Array Edge} {x0 : Value}
    (hf : P.funcs[f]? = some fn) (hname : (fn.name == "runtime.NumGoroutine") = false) (hres : fn.results = #[.tmp 0]) (hN : fn.ntmps = 4)
    (hbody : fn.body = some (.seq (Code.region i0 ⟨[⟨some 0, .assign (.const x0), t0, p0, e0, none⟩]⟩ false)
      (.seq (Code.region i1 ⟨[⟨some 1, .call ⟨.value (.func fnw), #[], ats1⟩, t1, p1, e1, none⟩, ⟨some 2, .call ⟨.value (.func fmx), #[.tmp 1], ats2⟩, t2, p2, e2, none⟩, ⟨some 3, .convert T1 T2 (.tmp 2), t3, p3, e3, none⟩, ⟨some 0, .assign (.tmp 3), t4, p4, e4, none⟩]⟩ false) .ret)))
    (hn : NewM P fnw tys ds) (hm : Enters P fmx ∧ ∀ (w : World) (v : Value), Calls P fmx #[v] w fun e w' => e = .returned (.int .i16 mx) ∧ w' = w) (hmx : -32768 ≤ mx ∧ mx ≤ 32767) (h1 : intOf P T1 .i16 = true) (h2 : intOf P T2 .i64 = true) :
    Enters P f ∧ ∀ (w : World), Calls P f #[] w fun e w' => e = .returned (.int .i64 mx) ∧ Fr [] w w' := by
  refine ⟨enters_of hf hname hbody, fun w => ?_⟩
  refine calls_of_wp hf hbody ?_
  generalize ha0 : ({ tmps := #[] ++ Array.replicate (fn.ntmps - #[].size) undef, defers := [] } : Act) = a0
  have hsz : a0.tmps.size = 4 := by subst ha0; simp [hN]
  have hd0 : a0.defers = [] := by subst ha0; rfl
  refine tId (wp_seq_k fun K1 hK1 => ?_)
  refine r_const (m := 0) (by omega) (by omega) fun a1 k1 _ => hK1 a1 w (tUp ?_)
  have hz1 := k1.size
  refine wT fun K2 hK2 => ?_
  refine wC (wp_calls (R := fun _ w' => Fr [] w w') hn.enters (vs := #[]) (by simp) ((hn.call w).mono (by rintro e' w' ⟨pb, z, rfl, _, _, h, _⟩; exact ⟨_, rfl, h⟩)) ?_)
  intro v w1 f1
  refine wC (wp_calls (R := fun x w' => x = .int .i16 mx ∧ w' = w1) hm.1 (vs := #[v]) (by simp [eTm, gPs (a := a1) (d := 1) (v := v) (by omega)]) ((hm.2 w1 v).mono (by rintro e' w' ⟨rfl, rfl⟩; exact ⟨_, rfl, rfl, rfl⟩)) ?_)
  rintro x w2 ⟨rfl, rfl⟩
  refine wC (wCv (k1 := .i16) (i := mx) h1 h2 (by rw [eTm, gQ]) ?_)
  rw [wrap64 (by omega), wCo, wAg, eTm, gQ, wNi]
  refine hK2 _ w2 (wp_ret ?_)
  exact ⟨by simp only [dPu]; rw [k1.defers, hd0], _, results_one hres, by rw [gQ], f1⟩
end Go.Kq

namespace Go.Kq
open Go Go.Proofs
section
variable {P : Program} {a : Act} {w : World} {K : Act → World → Prop} {Q : Exit → Act → World → Prop} {d : Option Tmp} {t : TypeId} {p : String} {af : Array Edge} {g : Option (Nat × Bool)}
theorem wp_build0 {s : TypeId} {z : List Value} (h : Flat P s z) (k : K (a.put d (.agg z.toArray)) w) :
    OW P ⟨d, .build s #[], t, p, af, g⟩ a w K Q := by
  refine wp_val (v := .agg z.toArray) (w' := w) ?_ k
  have := run_build (P := P) (t := s) (z := z) (w := w) (ps := []) h (by simp)
  have h2 : (Instr.build s #[]).run P w = .ok (.agg z.toArray) w := by simpa [laid] using this
  simp [execOp, h2]
end
end Go.Kq

namespace Go.Kq
open Go Go.Proofs
theorem wp_extract {P : Program} {a : Act} {w : World} {K : Act → World → Prop} {Q : Exit → Act → World → Prop} {d : Option Tmp} {t : TypeId} {p : String} {af : Array Edge} {g : Option (Nat × Bool)} {x : Operand} {i : Nat} {vs : Array Value} {v : Value}
    (hx : a.eval x = .tuple vs) (hv : vs[i]? = some v) (k : K (a.put d v) w) : OW P ⟨d, .extract x i, t, p, af, g⟩ a w K Q :=
  wp_val (v := v) (w' := w) (by simp [execOp, hx, Instr.extract, hv]) k
abbrev MaxM (P : Program) (f : FuncId) (mx : Nat) : Prop := Enters P f ∧ ∀ (w : World), Calls P f #[] w fun e w' => e = .returned (.int .i64 mx) ∧ Fr [] w w'
abbrev VerM (P : Program) (f : FuncId) : Prop := Enters P f ∧ ∀ (w : World) (n : Nat) (most : Nat), n < 256 → most < 32768 → Calls P f #[.int .u8 n, .int .i64 most] w fun e w' => e = .returned (.int .i64 ((n % (most + 1) : Nat) : Int)) ∧ w' = w
end Go.Kq

namespace Go.Kq
open Go Go.Proofs Go.ChangeShapes Go.WideShapes Go.RowKit
section
variable {H : Type} {enc : TypeId × Value → H} {P : Program}
theorem octs_of_ints {w : World} {b o : Nat} : ∀ (zs : List Int), (∀ i, i < zs.length → w.cell? ⟨b, o + i, none⟩ = some (.int .u8 (zs.getD i 0))) → (∀ n ∈ zs, (Lit.int .u8 n).wf = true) →
    w.rangeAt b o (octets (zs.map fun z => UInt8.ofNat z.toNat)) := by
  intro zs h hw j v hv
  simp only [octets, List.map_map, List.getElem?_map, Option.map_eq_some_iff] at hv
  obtain ⟨z, hz, rfl⟩ := hv
  have hj : j < zs.length := (List.getElem?_eq_some_iff.1 hz).1
  rw [h j hj]
  have hzz : zs.getD j 0 = z := by rw [List.getD, hz]; rfl
  have hwz := hw z (List.mem_of_getElem? hz)
  simp only [Lit.wf] at hwz
  have hb : 0 ≤ z ∧ z ≤ 255 := by simpa [IntKind.min, IntKind.max, IntKind.signed, IntKind.bits] using hwz
  rw [hzz]
  simp only [Function.comp_apply, UInt8.toNat_ofNat', Option.some.injEq, Value.int.injEq, true_and]
  omega
theorem trodAll_stays (hl : laidOutB P = true) {W W' : World} {base : Nat} {sp' : Nat → Bool} :
    ∀ {ts : List TypeId} {vs : List Value} {ds : List (DataW H)} {ps : List MemPlace}, (∀ t ∈ ts, P.readableRec t = true ∧ t < P.types.size) → DataW.TrodAll enc P W base (fun _ => true) true ts vs ds ps →
      (∀ p ∈ ps, W.sameAt W' p) → (∀ p ∈ ps, sp' p.block = true) → DataW.TrodAll enc P W' base sp' true ts vs ds ps
  | [], _, _, _, _, h, _, _ => by
    obtain ⟨rfl, rfl, rfl⟩ := trodAll_nil h
    exact h
  | t :: ts, _, _, _, ht, h, hs, hp => by
    obtain ⟨v, vs1, d, ds1, a, b, rfl, rfl, rfl, h1, h2⟩ := trodAll_cons h
    exact ⟨a, b, WideElems.Trod_stays hl (ht t (by simp)).1 (ht t (by simp)).2 h1 (fun p hp' => hs p (List.mem_append_left _ hp')) (fun p hp' => hp p (List.mem_append_left _ hp')),
      trodAll_stays hl (fun t ht' => ht t (by simp [ht'])) h2 (fun p hp' => hs p (List.mem_append_right _ hp')) (fun p hp' => hp p (List.mem_append_right _ hp')), rfl⟩
theorem post_true (hl : laidOutB P = true) {f : Func} {s : ChangeSpec} {apart fresh handsOn again : Bool} {W W' : World} {args : Array Value} {ds gs : List (DataW H)} {before p : List MemPlace} {rt : TypeId}
    (hW : DataW.Whole enc P f.params.toList s.vars apart W args.toList ds gs before) (hv : s.vars = []) (hA : DataW.TrodAll enc P W 0 (fun _ => true) true f.params.toList args.toList ds p) (hbp : before = p) (hgs : gs = [])
    (hs : s.fn H (ds ++ gs) = { results := [.lit (.bool true)], args := ds }) (hrt : f.resultTypes = #[rt]) (hb : P.underlying rt = some .bool)
    (hrd : ∀ t ∈ f.params.toList, P.readableRec t = true ∧ t < P.types.size) (hF : Fr [] W W') :
    s.post enc P f apart fresh handsOn again W args (.bool true) W' := by
  subst hbp
  have hbl := hF.below
  have hlt : ∀ x ∈ before, x.block < W.heap.size := fun x hx => hW.lt x hx
  have hold : ∀ x ∈ before, (fun b => decide (b < W.heap.size)) x.block = true := fun x hx => by simpa using hlt x hx
  have hres : ∀ (b : Nat) (sp : Nat → Bool) (hd : Bool), DataW.TrodAll enc P W' b sp hd f.resultTypes.toList ((Value.bool true).resultList f.resultTypes.size) (s.fn H (ds ++ gs)).results [] := by
    intro b sp hd
    rw [hs, hrt]
    exact trodAll_cons_mk (shut_bool hb true) trodAll_mk0
  have hargs : ∀ sp : Nat → Bool, (∀ x ∈ before, sp x.block = true) → DataW.TrodAll enc P W' 0 sp true f.params.toList args.toList (s.fn H (ds ++ gs)).args before := by
    intro sp hsp
    rw [hs]
    exact trodAll_stays hl hrd hA (fun x hx => hbl.same (hlt x hx)) hsp
  have hvars : ∀ sp : Nat → Bool, DataW.TrodVars enc P W' sp s.vars (s.fn H (ds ++ gs)).vars [] := by
    intro sp
    rw [hv, hs]
    exact (rfl : ([] : List MemPlace) = [])
  refine ⟨ds, gs, before, [], before, [], hW, hres _ _ _, hargs _ hold, hvars _, World.keptBut_mono (fun x hx => ⟨hx, ?_⟩) (hbl.frame (· ∈ before)), fun _ => ?_⟩
  · exact Or.inr (Or.inl hx)
  · obtain ⟨_, _, _, _, _, hz, hn⟩ := hW
    refine ⟨?_, _, _, ([] ++ before) ++ [], ⟨[] ++ before, [], trodAll_append (hargs _ (fun _ _ => rfl)) (hres _ _ _), hvars _, rfl, ?_, ?_⟩, ?_⟩
    · exact ok_one (by rw [hrt]) rfl (okWide_bool_mk hb _)
    · intro b off hp
      have hin : MemPlace.cell b off ∈ before := by simpa using hp
      rw [hbl.frozen (hlt _ hin)]
      exact hz b off hin
    · intro ha
      simpa using hn ha
    · intro x hx _
      simpa using hx
end
end Go.Kq

namespace Go.Kq
open Go Go.Proofs Go.ChangeShapes Go.WideShapes Go.RowKit
theorem cell_in {w : World} {a : Addr} {v : Value} (h : w.cell? a = some v) : a.spot = none ∧ a.block < w.heap.size := by
  unfold World.cell? at h
  split at h
  · rename_i c e f hb
    refine ⟨?_, lt_of_block hb⟩
    cases hs : a.spot with
    | none => rfl
    | some x => simp [hs] at h
  · simp at h
theorem cells_in {w : World} {base : Nat} {a : Addr} {n : Nat} {cs : List Value} (h : w.cells? base a n = some cs) (hn : 0 < n) : a.spot = none ∧ a.block < w.heap.size := by
  obtain ⟨_, h1, h2⟩ := World.cells?_some h
  have h3 := h2 0 hn
  have h4 : ∃ v, cs[0]? = some v := ⟨cs[0]'(by omega), by simp⟩
  obtain ⟨v, hv⟩ := h4
  rw [hv] at h3
  exact cell_in (a := a.add 0) h3
structure Bulk {H : Type} (bk : DataW H → Nat) (bks : List (DataW H) → Nat) : Prop where
  lit : ∀ l, 1 ≤ bk (.lit l)
  nil : 1 ≤ bk .nil
  sl : ∀ es ss, bk (.slice es ss) = bks es + bks ss + 1
  agg : ∀ ps, bk (.agg ps) = bks ps + 1
  n : bks [] = 0
  c : ∀ d r, bks (d :: r) = bk d + bks r
theorem Bulk.lits {H : Type} {bk : DataW H → Nat} {bks : List (DataW H) → Nat} (h : Bulk bk bks) (k : IntKind) : ∀ zs : List Int, zs.length ≤ bks (lits k zs)
  | [] => by simp [ChangeShapes.lits, h.n]
  | z :: zs => by
    have h1 := Bulk.lits h k zs
    have h2 := h.lit (.int k z)
    simp only [ChangeShapes.lits, List.map_cons, h.c, List.length_cons] at h1 ⊢
    omega
section
variable {H : Type} {enc : TypeId × Value → H} {P : Program} {bk : DataW H → Nat} {bks : List (DataW H) → Nat}
theorem oct_of_trod {W : World} {t e : TypeId} {fuel : Nat} {cs : List Value} {x : DataW H × List MemPlace} (hbk : Bulk bk bks) (ht : P.underlying t = some (.slice e)) (he : P.underlying e = some (.int .u8)) (hc : P.cellsOf e = 1)
    (h : DataW.trod enc P W 0 (fun _ => true) true fuel t cs = some x) (hb : bk x.1 ≤ 4294967296) : ∃ v xs, cs = [v] ∧ OctE W (fun b => b < W.heap.size) v xs ∧ xs.length + 1 ≤ bk x.1 := by
  rcases open_ints ht he hc h with ⟨rfl, rfl⟩ | ⟨a, len, cap, zs, rfl, _, hl, hm, hz, rfl, hcell, hwz⟩
  · exact ⟨_, [], rfl, .nil, by simpa using hbk.nil⟩
  · simp only [if_true] at hz
    by_cases hc0 : cap = 0
    · subst hc0
      obtain rfl : len = 0 := by omega
      exact ⟨_, [], rfl, .inr ⟨⟨a, rfl⟩, rfl⟩, by simp only [hbk.sl, List.length_nil]; omega⟩
    obtain ⟨hsp, hbl⟩ : a.spot = none ∧ a.block < W.heap.size := cell_in (a := a.add 0) (hcell 0 (by omega))
    obtain ⟨b, o, spot⟩ := a
    simp only at hsp hbl
    subst hsp
    have hr := octs_of_ints (b := b) (o := o) zs (fun i hi => by have := hcell i hi; rwa [Addr.add_lit] at this) hwz
    have h1 := hbk.lits .u8 (zs.take len)
    have h2 := hbk.sl (lits .u8 (zs.take len)) (lits .u8 (zs.drop len))
    have hlen : (zs.take len).length = len := by simp; omega
    simp only [h2] at hb
    refine ⟨_, (zs.take len).map fun z => UInt8.ofNat z.toNat, rfl, .inl ⟨some _, .inr ⟨b, o, cap, _, hbl, ?_, ⟨?_, ?_⟩, ?_, rfl⟩, rfl⟩, ?_⟩
    · rw [List.length_map, hlen]
    · rw [List.length_map, hlen]; exact hl
    · rw [List.length_map]; omega
    · have := range_part hr 0 len
      simpa [octets_take, octets_drop, List.map_take] using this
    · rw [List.length_map, h2]; omega
theorem bks_get (hbk : Bulk bk bks) : ∀ {l : List (DataW H)} {i : Nat} {d : DataW H}, l[i]? = some d → bk d ≤ bks l
  | [], _, _, h => by simp at h
  | e :: l, 0, d, h => by simp at h; subst h; rw [hbk.c]; omega
  | e :: l, i + 1, d, h => by have := bks_get hbk (l := l) (i := i) (by simpa using h); rw [hbk.c]; omega
theorem elems_of_trod {W : World} {t e : TypeId} {fuel : Nat} {v : Value} {x : DataW H × List MemPlace} (hbk : Bulk bk bks) (ht : P.underlying t = some (.slice e))
    (hpos : 0 < P.cellsOf e) (h : DataW.trod enc P W 0 (fun _ => true) true fuel t [v] = some x) :
    ((v = .slice none 0 0 ∨ Void v) ∧ 1 ≤ bk x.1) ∨ ∃ b o len cap n, ∃ ds : List (DataW H × List MemPlace), fuel = n + 1 ∧ v = .slice (some ⟨b, o, none⟩) len cap ∧ b < W.heap.size ∧ len ≤ cap ∧ ds.length = len ∧ bks (ds.map (·.1)) + 1 ≤ bk x.1 ∧
      ∀ i, i < len → ∃ es d, W.rangeAt b (o + i * P.cellsOf e) es ∧ es.length = P.cellsOf e ∧ ds[i]? = some d ∧ DataW.trod enc P W 0 (fun _ => true) true n e es = some d := by
  rcases DataW.trod_slice ht h with ⟨h1, rfl⟩ | ⟨a, len, cap, elems, rest, n, rfl, hv, rfl, hb, hl, hm, hlen, hel, hsr, _⟩
  · left; simp at h1; exact ⟨.inl h1, hbk.nil⟩
  · simp at hv; subst hv
    by_cases hc0 : cap = 0
    · subst hc0
      obtain rfl : len = 0 := by omega
      exact .inl ⟨.inr ⟨a, rfl⟩, by simp only [hbk.sl]; omega⟩
    right
    obtain ⟨hsp, hbl⟩ : a.spot = none ∧ a.block < W.heap.size := by
      by_cases hl0 : len = 0
      · obtain ⟨h1, h2⟩ := hsr rfl
        have h3 := h2 0 (by omega)
        have h4 : ∃ y, rest[0]? = some y := ⟨rest[0]'(by omega), by simp⟩
        obtain ⟨y, hy⟩ := h4
        rw [hy, Option.bind_eq_some_iff] at h3
        obtain ⟨es, h5, _⟩ := h3
        exact cells_in (a := a) (by simpa [hl0, Addr.add] using h5) hpos
      · have h3 := hel 0 (by omega)
        have h4 : ∃ y, elems[0]? = some y := ⟨elems[0]'(by omega), by simp⟩
        obtain ⟨y, hy⟩ := h4
        rw [hy, Option.bind_eq_some_iff] at h3
        obtain ⟨es, h5, _⟩ := h3
        exact cells_in (a := a) (by simpa [Addr.add] using h5) hpos
    obtain ⟨b, o, spot⟩ := a
    simp only at hsp hbl
    subst hsp
    refine ⟨b, o, len, cap, n, elems, rfl, rfl, hbl, hl, hlen, by rw [hbk.sl]; omega, fun i hi => ?_⟩
    have h2 := hel i hi
    have hge : elems[i]? = some elems[i] := by simp [hlen, hi]
    rw [hge, Option.bind_eq_some_iff] at h2
    obtain ⟨es, h3, h4⟩ := h2
    obtain ⟨_, h5, h6⟩ := World.cells?_some h3
    refine ⟨es, elems[i], fun j u hj => ?_, h5, hge, h4⟩
    have hjl := (List.getElem?_eq_some_iff.1 hj).1
    have := h6 j (by omega)
    rw [Addr.add_mid, Addr.add_mid] at this
    rw [this]; exact hj
theorem list_of {α : Type} : ∀ {len : Nat} {R : Nat → α → Prop}, (∀ i, i < len → ∃ y, R i y) → ∃ l : List α, l.length = len ∧ ∀ i y, l[i]? = some y → R i y
  | 0, R, _ => ⟨[], rfl, by simp⟩
  | n + 1, R, h => by
    obtain ⟨y, hy⟩ := h 0 (by omega)
    obtain ⟨l, h1, h2⟩ := list_of (len := n) (R := fun i y => R (i + 1) y) fun i hi => h (i + 1) (by omega)
    refine ⟨y :: l, by simp [h1], fun i z hz => ?_⟩
    cases i with
    | zero => simp at hz; subst hz; exact hy
    | succ i => exact h2 i z (by simpa using hz)
theorem sum_le (hbk : Bulk bk bks) {α : Type} {f : α → Nat} : ∀ {l : List α} {ds : List (DataW H × List MemPlace)}, l.length = ds.length → (∀ (i : Nat) (y : α) (d : DataW H × List MemPlace), l[i]? = some y → ds[i]? = some d → f y ≤ bk d.1) → (l.map f).sum ≤ bks (ds.map (·.1))
  | [], [], _, _ => by simp [hbk.n]
  | [], _ :: _, h, _ => by simp at h
  | _ :: _, [], h, _ => by simp at h
  | y :: l, d :: ds, h, hl => by
    have h1 := hl 0 y d rfl rfl
    have h2 := sum_le hbk (l := l) (ds := ds) (by simpa using h) fun i y d hy hd => hl (i + 1) y d (by simpa using hy) (by simpa using hd)
    simp only [List.map_cons, List.sum_cons, hbk.c]; omega
def tagWt (u : List (Nat × List UInt8)) : Nat := (u.map fun p => p.2.length + 1).sum
theorem tags_of_trod {W : World} {t e t32 tS e8 : TypeId} {fs : Array Field} {fuel : Nat} {v : Value} {x : DataW H × List MemPlace} (hbk : Bulk bk bks) (ht : P.underlying t = some (.slice e)) (he : P.underlying e = some (.struct fs)) (hc : P.cellsOf e = 2)
    (hf0 : fs[0]?.map (fun f => (f.type, f.offset)) = some (t32, 0)) (hf1 : fs[1]?.map (fun f => (f.type, f.offset)) = some (tS, 1)) (hc0 : P.cellsOf t32 = 1) (hc1 : P.cellsOf tS = 1) (h32 : P.underlying t32 = some (.int .u32))
    (hS : P.underlying tS = some (.slice e8)) (h8 : P.underlying e8 = some (.int .u8)) (hc8 : P.cellsOf e8 = 1)
    (h : DataW.trod enc P W 0 (fun _ => true) true fuel t [v] = some x) (hb : bk x.1 ≤ 4294967296) : ∃ u, TagsR W (fun b => b < W.heap.size) v u ∧ tagWt u + 1 ≤ bk x.1 ∧ ∀ p ∈ u, p.1 < 4294967296 := by
  rcases elems_of_trod hbk ht (by omega) h with ⟨hv0, h1⟩ | ⟨b, o, len, cap, n, ds, rfl, rfl, hbl, hl, hdl, hbd, hel⟩
  · exact ⟨[], .inl ⟨hv0, rfl⟩, by simpa [tagWt] using h1, by simp⟩
  · have each : ∀ i, i < len → ∃ y : Nat × List UInt8, y.1 < 4294967296 ∧ (∃ xv, W.rangeAt b (o + i * 2) [.int .u32 y.1, xv] ∧ OctE W (fun b => b < W.heap.size) xv y.2) ∧ ∀ d, ds[i]? = some d → y.2.length + 1 ≤ bk d.1 := by
      intro i hi
      obtain ⟨es, d, hr, hle, hd, htr⟩ := hel i hi
      rw [hc] at hr hle
      match es, hle with
      | [c0, c1], _ =>
        obtain ⟨xs, m, rfl, rfl, _, hxl, hxs⟩ := DataW.trod_struct he htr
        obtain ⟨f0, hf0', e0⟩ := Option.map_eq_some_iff.1 hf0
        obtain ⟨f1, hf1', e1⟩ := Option.map_eq_some_iff.1 hf1
        simp only [Prod.mk.injEq] at e0 e1
        have q0 := hxs 0 f0 hf0'
        have q1 := hxs 1 f1 hf1'
        rw [e0.1, e0.2, hc0] at q0
        rw [e1.1, e1.2, hc1] at q1
        simp only [List.drop_zero, List.take_succ_cons, List.take_zero, List.drop_succ_cons] at q0 q1
        have hn0 : ∃ y0, xs[0]? = some y0 := by
          have := (Array.getElem?_eq_some_iff.1 hf0').1
          exact ⟨xs[0]'(by omega), by simp⟩
        have hn1 : ∃ y1, xs[1]? = some y1 := by
          have := (Array.getElem?_eq_some_iff.1 hf1').1
          exact ⟨xs[1]'(by omega), by simp⟩
        obtain ⟨y0, hy0⟩ := hn0
        obtain ⟨y1, hy1⟩ := hn1
        rw [hy0] at q0
        rw [hy1] at q1
        obtain ⟨k, hk, _, hw⟩ := DataW.trod_int h32 q0
        simp at hk; subst hk
        have hdb : bk (DataW.agg (xs.map (·.1))) ≤ 4294967296 := by
          have h5 := bks_get hbk (l := ds.map (·.1)) (i := i) (d := DataW.agg (xs.map (·.1))) (by rw [List.getElem?_map, hd]; rfl)
          omega
        have hy1b : bk y1.1 + 1 ≤ bk (DataW.agg (xs.map (·.1))) := by
          rw [hbk.agg]
          have := bks_get hbk (l := xs.map (·.1)) (i := 1) (d := y1.1) (by rw [List.getElem?_map, hy1]; rfl)
          omega
        rw [range_cons, range_one] at hr
        obtain ⟨v1, xs1, hv1, ho, hl1⟩ := oct_of_trod hbk hS h8 hc8 q1 (by omega)
        simp at hv1; subst hv1
        have hk0 : 0 ≤ k ∧ k < 4294967296 := by
          simp [Lit.wf, IntKind.min, IntKind.max, IntKind.signed, IntKind.bits] at hw; omega
        obtain ⟨k', rfl⟩ := Int.eq_ofNat_of_zero_le hk0.1
        refine ⟨(k', xs1), by simp only; omega, ⟨c1, by rw [range_cons, range_one]; exact hr, ho⟩, ?_⟩
        intro d' hd'
        rw [hd] at hd'
        cases hd'
        simp only; omega
    obtain ⟨u, hu1, hu2⟩ := list_of each
    have hsum := sum_le hbk (f := fun p : Nat × List UInt8 => p.2.length + 1) (l := u) (ds := ds) (by omega) fun i y d hy hd => (hu2 i y hy).2.2 d hd
    have hlen : u.length ≤ (u.map fun p => p.2.length + 1).sum := by
      clear hu1 hu2 hsum
      induction u with
      | nil => simp
      | cons p u ih => simp only [List.map_cons, List.sum_cons, List.length_cons]; omega
    refine ⟨u, .inr ⟨b, o, cap, hbl, by rw [hu1], ⟨by omega, by omega⟩, fun i k xx hi => ?_⟩, by simp only [tagWt]; omega, ?_⟩
    · obtain ⟨g1, ⟨xv, g2, g3⟩, _⟩ := hu2 i _ hi
      exact ⟨xv, g1, g2, g3⟩
    · intro p hp
      obtain ⟨i, hi⟩ := List.getElem?_of_mem hp
      exact (hu2 i p hi).1
end
mutual
/-- How much a tree weighs. -/
def tw : T → Nat
  | .mk _ s _ l u => 1 + s.length + tws l + tagWt u
def tws : List T → Nat
  | [] => 0
  | t :: r => tw t + tws r
end
theorem tws_sum : ∀ l : List T, tws l = (l.map tw).sum
  | [] => rfl
  | t :: r => by rw [tws, tws_sum r]; simp
inductive KeysOk : T → Prop where
  | mk {n : Int} {s : List UInt8} {nl : Bool} {l : List T} {u : List (Nat × List UInt8)} (hu : ∀ p ∈ u, p.1 < 4294967296) (hl : ∀ y ∈ l, KeysOk y) : KeysOk (.mk n s nl l u)
structure TIds (P : Program) (TT TL tN tS tB tU tG t32 t8 : TypeId) (fs gs : Array Field) : Prop where
  tt : P.underlying TT = some (.struct fs)
  c5 : P.cellsOf TT = 5
  sz : fs.size = 5
  f0 : fs[0]?.map (fun f => (f.type, f.offset)) = some (tN, 0)
  f1 : fs[1]?.map (fun f => (f.type, f.offset)) = some (tS, 1)
  f2 : fs[2]?.map (fun f => (f.type, f.offset)) = some (tB, 2)
  f3 : fs[3]?.map (fun f => (f.type, f.offset)) = some (TL, 3)
  f4 : fs[4]?.map (fun f => (f.type, f.offset)) = some (tU, 4)
  cN : P.cellsOf tN = 1
  cS : P.cellsOf tS = 1
  cB : P.cellsOf tB = 1
  cL : P.cellsOf TL = 1
  cU : P.cellsOf tU = 1
  n : P.underlying tN = some (.int .i64)
  s : P.underlying tS = some (.slice t8)
  b : P.underlying tB = some .bool
  l : P.underlying TL = some (.slice TT)
  u : P.underlying tU = some (.slice tG)
  u8 : P.underlying t8 = some (.int .u8)
  c8 : P.cellsOf t8 = 1
  g : P.underlying tG = some (.struct gs)
  cG : P.cellsOf tG = 2
  g0 : gs[0]?.map (fun f => (f.type, f.offset)) = some (t32, 0)
  g1 : gs[1]?.map (fun f => (f.type, f.offset)) = some (tS, 1)
  c32 : P.cellsOf t32 = 1
  u32 : P.underlying t32 = some (.int .u32)
section
variable {H : Type} {enc : TypeId × Value → H} {P : Program} {bk : DataW H → Nat} {bks : List (DataW H) → Nat}
theorem fld_of {fs : Array Field} {cs : List Value} {xs : List (DataW H × List MemPlace)} {W : World} {m i o : Nat} {t : TypeId} (h : fs[i]?.map (fun f => (f.type, f.offset)) = some (t, o)) (hc : P.cellsOf t = 1) (hl : xs.length = fs.size)
    (hxs : ∀ (i : Nat) (f : Field), fs[i]? = some f → DataW.trod enc P W 0 (fun _ => true) true m f.type ((cs.drop f.offset).take (P.cellsOf f.type)) = xs[i]?) : ∃ y, xs[i]? = some y ∧ DataW.trod enc P W 0 (fun _ => true) true m t ((cs.drop o).take 1) = some y := by
  obtain ⟨f, hf, e⟩ := Option.map_eq_some_iff.1 h
  simp only [Prod.mk.injEq] at e
  have q := hxs i f hf
  rw [e.1, e.2, hc] at q
  have := (Array.getElem?_eq_some_iff.1 hf).1
  exact ⟨xs[i]'(by omega), by simp, by rw [q]; simp⟩
theorem tree_of_trod {TT TL tN tS tB tU tG t32 t8 : TypeId} {fs gs : Array Field} {W : World} (hbk : Bulk bk bks) (I : TIds P TT TL tN tS tB tU tG t32 t8 fs gs) :
    ∀ (fuel : Nat) (cs : List Value) (x : DataW H × List MemPlace), DataW.trod enc P W 0 (fun _ => true) true fuel TT cs = some x → bk x.1 ≤ 4294967296 → ∃ t, RepT W (fun b => b < W.heap.size) cs t ∧ tw t ≤ bk x.1 ∧ KeysOk t := by
  intro fuel
  induction fuel using Nat.strongRecOn with
  | _ fuel ih =>
    intro cs x h hb
    obtain ⟨xs, m, rfl, rfl, hcl, hxl, hxs⟩ := DataW.trod_struct I.tt h
    rw [I.c5] at hcl
    match cs, hcl with
    | [c0, c1, c2, c3, c4], _ =>
      obtain ⟨y0, hy0, q0⟩ := fld_of (P := P) I.f0 I.cN hxl hxs
      obtain ⟨y1, hy1, q1⟩ := fld_of (P := P) I.f1 I.cS hxl hxs
      obtain ⟨y2, hy2, q2⟩ := fld_of (P := P) I.f2 I.cB hxl hxs
      obtain ⟨y3, hy3, q3⟩ := fld_of (P := P) I.f3 I.cL hxl hxs
      obtain ⟨y4, hy4, q4⟩ := fld_of (P := P) I.f4 I.cU hxl hxs
      simp only [List.drop_zero, List.take_succ_cons, List.take_zero, List.drop_succ_cons] at q0 q1 q2 q3 q4
      rw [I.sz] at hxl
      have hxe : xs = [y0, y1, y2, y3, y4] := by
        match xs, hxl with
        | [a0, a1, a2, a3, a4], _ => simp at hy0 hy1 hy2 hy3 hy4; simp [hy0, hy1, hy2, hy3, hy4]
      subst hxe
      simp only [List.map_cons, List.map_nil, hbk.agg, hbk.c, hbk.n] at hb ⊢
      obtain ⟨n, hn, _, hwn⟩ := DataW.trod_int I.n q0
      simp at hn; subst hn
      obtain ⟨nl, hnl, _⟩ := DataW.trod_bool I.b q2
      simp at hnl; subst hnl
      obtain ⟨v1, s, hv1, ho, hsl⟩ := oct_of_trod hbk I.s I.u8 I.c8 q1 (by omega)
      simp at hv1; subst hv1
      obtain ⟨u, hu, huw, huk⟩ := tags_of_trod hbk I.u I.g I.cG I.g0 I.g1 I.c32 I.cS I.u32 I.s I.u8 I.c8 q4 (by omega)
      have hn64 : -9223372036854775808 ≤ n ∧ n ≤ 9223372036854775807 := by
        simpa [Lit.wf, IntKind.min, IntKind.max, IntKind.signed, IntKind.bits] using hwn
      have hL : ∃ l, Things W (fun b => b < W.heap.size) c3 l ∧ tws l + 1 ≤ bk y3.1 ∧ ∀ y ∈ l, KeysOk y := by
        rcases elems_of_trod hbk I.l (by rw [I.c5]; omega) q3 with ⟨hv0, h1⟩ | ⟨b, o, len, cap, k, ds, rfl, rfl, hbl, hl, hdl, hbd, hel⟩
        · exact ⟨[], .inl ⟨hv0, rfl⟩, by simpa [tws] using h1, by simp⟩
        · have each : ∀ i, i < len → ∃ t, (RepT W (fun b => b < W.heap.size) (cellsAt W b (o + i * 5) 5) t ∧ W.rangeAt b (o + i * 5) (cellsAt W b (o + i * 5) 5)) ∧ (∀ d, ds[i]? = some d → tw t ≤ bk d.1) ∧ KeysOk t := by
            intro i hi
            obtain ⟨es, d, hr, hle, hd, htr⟩ := hel i hi
            rw [I.c5] at hr hle
            have hd5 := bks_get hbk (l := ds.map (·.1)) (i := i) (d := d.1) (by rw [List.getElem?_map, hd]; rfl)
            obtain ⟨t, h1, h2, h3⟩ := ih k (by omega) es d htr (by omega)
            have hce := range_cellsAt hr
            rw [hle] at hce
            rw [← hce]
            exact ⟨t, ⟨h1, hr⟩, fun d' hd' => by rw [hd] at hd'; cases hd'; exact h2, h3⟩
          obtain ⟨l, hl1, hl2⟩ := list_of each
          have hsum := sum_le hbk (f := tw) (l := l) (ds := ds) (by omega) fun i y d hy hd => (hl2 i y hy).2.1 d hd
          have hlen : l.length ≤ (l.map tw).sum := by
            clear hl1 hl2 hsum
            induction l with
            | nil => simp
            | cons p l ih =>
              have : 1 ≤ tw p := by cases p; rw [tw]; omega
              simp only [List.map_cons, List.sum_cons, List.length_cons]; omega
          rw [← tws_sum] at hsum hlen
          refine ⟨l, .inr ⟨b, o, cap, hbl, by rw [hl1], ⟨by omega, by omega⟩, fun i => cellsAt W b (o + i * 5) 5, fun i y hi => (hl2 i y hi).1.2, fun i y hi => (hl2 i y hi).1.1⟩, by omega, fun y hy => ?_⟩
          obtain ⟨i, hi⟩ := List.getElem?_of_mem hy
          exact (hl2 i y hi).2.2
      obtain ⟨l, hl, hlw, hlk⟩ := hL
      refine ⟨.mk n s nl l u, repT_iff.2 ⟨_, _, _, rfl, hn64, ho, hl, hu⟩, ?_, .mk huk hlk⟩
      rw [tw]; omega
end
end Go.Kq

namespace Go.Kq
open Go Go.Proofs
def Apd (w : World) (A : Nat → Prop) (dst : Value) (zs : List UInt8) (e : Ending) (w' : World) : Prop :=
  ∃ u, e = .returned u ∧ Fr (spare dst 1) w w' ∧ Own w' (fun b => A b ∨ (w.heap.size ≤ b ∧ b < w'.heap.size)) 1 u zs.length (octets zs) ∧ ∀ r ∈ spare u 1, r.In (spare dst 1) w
theorem Apd.ret {P : Program} {f : FuncId} {vs : Array Value} {w : World} {A : Nat → Prop} {dst : Value} {zs : List UInt8} (h : Calls P f vs w (Apd w A dst zs)) :
    Calls P f vs w fun e w' => ∃ u, e = .returned u ∧ (Fr (spare dst 1) w w' ∧ Own w' (fun b => A b ∨ (w.heap.size ≤ b ∧ b < w'.heap.size)) 1 u zs.length (octets zs) ∧ ∀ r ∈ spare u 1, r.In (spare dst 1) w) := h
theorem Rng.in_trans {r : Rng} {l l' : List Rng} {w w' : World} (h : r.In l' w') (hl : ∀ x ∈ l', x.In l w) (hs : w.heap.size ≤ w'.heap.size) : r.In l w := by
  rcases h with h | ⟨x, hx, e, h1, h2⟩
  · exact .inl (by omega)
  · rcases hl x hx with h3 | ⟨y, hy, e', h3, h4⟩
    · exact .inl (by omega)
    · exact .inr ⟨y, hy, e'.trans e, by omega, by omega⟩
theorem own_or {w0 w1 w2 : World} {A : Nat → Prop} (h01 : w0.heap.size ≤ w1.heap.size) (h12 : w1.heap.size ≤ w2.heap.size) (b : Nat) (hb : (A b ∨ (w0.heap.size ≤ b ∧ b < w1.heap.size)) ∨ (w1.heap.size ≤ b ∧ b < w2.heap.size)) : A b ∨ (w0.heap.size ≤ b ∧ b < w2.heap.size) := by
  rcases hb with (hb | hb) | hb
  · exact .inl hb
  · exact .inr ⟨hb.1, by omega⟩
  · exact .inr ⟨by omega, hb.2⟩
section
variable {P : Program} {a : Act} {w : World} {K : Act → World → Prop} {Q : Exit → Act → World → Prop} {d : Option Tmp} {t : TypeId} {p : String} {af : Array Edge} {g : Option (Nat × Bool)}
theorem wp_litN {T e : TypeId} {n : Nat} {xs : List Operand} {cs : List UInt8} (hT : sliceOf P T e 1 1 = true) (hx : xs.map a.eval = cs.map fun c => .int .u8 (c.toNat : Int)) (hn : n = cs.length) (h0 : 0 < n) (h1 : n ≤ 16777216)
    (k : ∀ w' u, Fr [] w w' → OctE w' (fun b => b = w.heap.size) u cs → K (a.put d u) w') :
    OW P ⟨d, .buildSlice T n ((xs.zipIdx 0).map fun x => (x.2, x.1)).toArray, t, p, af, g⟩ a w K Q := by
  have hfl : (cs.map fun c => [Value.int .u8 (c.toNat : Int)]).flatten = octets cs := by
    have : ∀ (l : List UInt8), (l.map fun c => [Value.int .u8 (c.toNat : Int)]).flatten = octets l := by
      intro l
      induction l with
      | nil => rfl
      | cons c l ih => rw [List.map_cons, List.flatten_cons, ih]; rfl
    exact this cs
  have hr := range_new w (octets cs).toArray e (0, 0)
  refine wp_sliceL (css := cs.map fun c => [.int .u8 (c.toNat : Int)]) hT (by simpa using hn) h0 (by omega) (by rw [hx]; simp only [List.map_map]; congr 1) (by intro c hc; simp at hc; obtain ⟨_, _, rfl⟩ := hc; rfl) (k _ _ (Fr.alloc _ _ _) ?_)
  rw [hfl, hn]
  exact .inl ⟨some cs, .inr ⟨w.heap.size, 0, cs.length, cs, rfl, rfl, ⟨Nat.le_refl _, by omega⟩, by simpa using hr, rfl⟩, rfl⟩
theorem wp_appA {T e : TypeId} {A B : Nat → Prop} {v u : Value} {xs ys : List UInt8} {x y : Operand} (hT : sliceOf P T e 1 1 = true) (hz : zeroIs P e [.int .u8 0])
    (hx : a.eval x = v) (hy : a.eval y = u) (h : Own w A 1 v xs.length (octets xs)) (hu : OctE w B u ys) (hb : xs.length + ys.length ≤ 4294967296)
    (k : ∀ v' w', (∀ e', e' = .returned v' → Apd w A v (xs ++ ys) e' w') → K (a.put d v') w') :
    OW P ⟨d, .call ⟨.builtin .append, #[x, y], #[T, T]⟩, t, p, af, g⟩ a w K Q :=
  wp_appO hT hz hx hy h hu hb fun v' w' f ho hin _ => k v' w' fun e' he => ⟨v', he, f, ho, hin⟩
theorem wp_lenStr {T : TypeId} {x : Operand} {s : ByteArray} (hT : strTy P T = true) (hx : a.eval x = .string s) (k : K (a.put d (.int .i64 s.data.toList.length)) w) : OW P ⟨d, .call ⟨.builtin .len, #[x], #[T]⟩, t, p, af, g⟩ a w K Q := by
  refine wp_val (v := .int .i64 s.data.toList.length) (w' := w) ?_ k
  have := under_str hT
  simp [execOp, resolve, invoke, builtin, Builtin.len_, hx, run_underlying this, goInt, str_len]
theorem wp_strIx {T : TypeId} {x y : Operand} {s : ByteArray} {k1 : IntKind} {i : Nat} {c : UInt8} (hT : strTy P T = true) (hx : a.eval x = .string s) (hy : a.eval y = .int k1 (i : Int)) (hc : s[i]? = some c) (k : K (a.put d (.int .u8 (c.toNat : Int))) w) :
    OW P ⟨d, .index T x y, t, p, af, g⟩ a w K Q := by
  refine wp_val (v := .int .u8 (c.toNat : Int)) (w' := w) ?_ k
  simp [execOp, hx, hy, Instr.index, asIntOf, run_underlying (under_str hT), hc]
theorem octets_str (s : ByteArray) : Lib.strCells s = octets s.data.toList := rfl
theorem wp_appStr {T S e : TypeId} {A : Nat → Prop} {v : Value} {xs : List UInt8} {s : ByteArray} {x y : Operand} (hT : sliceOf P T e 1 1 = true) (hS : strTy P S = true) (hz : zeroIs P e [.int .u8 0])
    (hx : a.eval x = v) (hy : a.eval y = .string s) (h : Own w A 1 v xs.length (octets xs)) (hb : xs.length + s.data.toList.length ≤ 4294967296)
    (k : ∀ v' w', (∀ e', e' = .returned v' → Apd w A v (xs ++ s.data.toList) e' w') → K (a.put d v') w') :
    OW P ⟨d, .call ⟨.builtin .append, #[x, y], #[T, S]⟩, t, p, af, g⟩ a w K Q := by
  obtain ⟨hut, i, z0, hi, hs', hby, hzz, hsz⟩ := under_slice hT
  obtain ⟨i', v0, hi', hz', hzc⟩ := hz
  rw [hi] at hi'; obtain rfl := Option.some.inj hi'
  rw [hzz] at hz'; obtain rfl := Option.some.inj hz'
  have hus := under_str hS
  have hss := str_len s
  have key : ∃ v' w', (Builtin.append_ #[T, S] t #[v, .string s]).run P w = .ok v' w' ∧ Fr (spare v 1) w w' ∧ Own w' (fun b => A b ∨ (w.heap.size ≤ b ∧ b < w'.heap.size)) 1 v' (xs ++ s.data.toList).length (octets (xs ++ s.data.toList)) ∧ ∀ r ∈ spare v' 1, r.In (spare v 1) w := by
    by_cases h0 : s.size = 0
    · have hnil : s.data.toList = [] := List.eq_nil_of_length_eq_zero (by omega)
      obtain ⟨q', cap', rfl⟩ := h.sl
      have hle : xs.length ≤ cap' := by
        obtain ⟨_, ⟨hv, h0⟩ | ⟨g, o, cap, hg, hv, hc, _⟩⟩ := h
        · omega
        · cases hv; exact hc
      have hr : (Builtin.append_ #[T, S] t #[.slice q' xs.length cap', .string s]).run P w = .ok (.slice q' xs.length cap') w := by
        cases q' <;> simp [Builtin.append_, run_underlying hut, run_underlying hus, sizeOf, typeInfo, hi, Builtin.lenOf, Builtin.firstCells, storeCells, hle, h0]
      refine ⟨_, w, hr, Fr.refl _ _, ?_, fun r hr => Rng.in_self hr⟩
      rw [hnil, List.append_nil]; exact h.upTo (Fr.refl _ _) fun _ h => .inl h
    · have hpos : 0 < s.size := Nat.pos_of_ne_zero h0
      obtain ⟨hxl, ⟨rfl, hn⟩ | ⟨g, o, cap, hg, rfl, hnc, hcm, hr, ht⟩⟩ := h
      · have hxs : xs = [] := List.eq_nil_of_length_eq_zero hn
        subst hxs
        have hrun := run_append_nil_string (P := P) w T S t e i z0 hut hus hi hzz s hpos (by omega) (by rw [hby]; omega)
        have hge := grownCap_ge w s.size 0 e
        have hcells : (s.data.map fun b => Value.int .u8 b.toNat).toList = octets s.data.toList := by simp [octets]
        refine ⟨_, _, hrun, (Fr.drew _ w).tr (Fr.alloc _ w.drew _), ⟨by rw [lOc, Nat.mul_one], .inr ⟨w.heap.size, 0, grownCap w s.size 0 e, .inr ⟨Nat.le_refl _, by rw [size_alloc]; exact Nat.lt_succ_self _⟩, by rw [List.nil_append, hss], by rw [List.nil_append, hss]; exact hge, grownCap_le_maxLen w s.size 0 e (by simp only [maxLen]; omega), ?_, ?_⟩⟩, fun r hr => by rw [spare_some] at hr; simp at hr; subst hr; exact .inl (Nat.le_refl _)⟩
        · have := range_new w.drew ((s.data.map fun b => Value.int .u8 b.toNat) ++ Builtin.zeroCells z0.cells (grownCap w s.size 0 e - s.size)) e (0, 0)
          rw [Array.toList_append, range_append, hcells] at this
          exact this.1
        · refine there_part (there_new w.drew _ e) (Nat.le_refl _) ?_
          simp [Builtin.zeroCells]
          have hz1 : z0.cells.size = 1 := by have := congrArg List.length hzc; simpa using this
          rw [hz1]; omega
      · by_cases hroom : xs.length + s.size ≤ cap
        · have hths : w.there g (o + xs.length * 1) (Lib.strCells s).length := there_part ht (by omega) (by rw [Lib.strCells_length]; omega)
          have hf := Lib.run_firstCells_string (P := P) w 1 s
          have hst := run_storeCells_cells (P := P) g (o + xs.length * 1) (Lib.strCells s) 0 w (fun j hj => by simpa using (hths j hj).1) (fun j hj => by simpa using (hths j hj).2) (Lib.strCells_oneCell s)
          simp only [Nat.add_zero] at hst
          have hrun : (Builtin.append_ #[T, S] t #[.slice (some ⟨g, o, none⟩) xs.length cap, .string s]).run P w = .ok (.slice (some ⟨g, o, none⟩) (xs.length + s.size) cap) (w.setCells g (o + xs.length * 1) (Lib.strCells s)) := by
            simp only [Nat.mul_one] at hst ⊢
            simp [Builtin.append_, run_underlying hut, run_underlying hus, sizeOf, typeInfo, hi, hs', Builtin.lenOf, hroom, hf, Addr.add_lit, hst]
          have hfr := Fr.sets g (Lib.strCells s) w (o + xs.length * 1)
          refine ⟨_, _, hrun, ?_, ⟨by rw [lOc, Nat.mul_one], .inr ⟨g, o, cap, .inl hg, by rw [List.length_append, hss], by rw [List.length_append, hss]; exact hroom, hcm, ?_, hfr.there ht⟩⟩, fun r hr => by rw [spare_some] at hr ⊢; simp at hr; subst hr; exact .inr ⟨⟨g, o + xs.length * 1, o + cap * 1⟩, by simp, rfl, by simp only; omega, by simp only; omega⟩⟩
          · rw [spare_some]
            refine hfr.mono ?_
            intro r hr
            simp at hr; subst hr
            exact .inr ⟨⟨g, o + xs.length * 1, o + cap * 1⟩, by simp, rfl, by simp only; omega, by simp only [Lib.strCells_length]; omega⟩
          · rw [octets_append, range_append, lOc]
            refine ⟨hfr.range hr (.cons (.inr (.inl (by rw [lOc]; simp only; omega))) .nil), ?_⟩
            have := World.rangeAt_setCells_same w g (o + xs.length * 1) (Lib.strCells s) hths
            rw [Nat.mul_one, octets_str] at this
            rw [Nat.mul_one]; exact this
        · have hgr : cap < xs.length + s.size := by omega
          have hrun := Lib.run_append_grow_string (P := P) w T S t e i z0 hut hus hi hzz ⟨g, o, none⟩ xs.length cap (octets xs) (by rw [lOc, hs', Nat.mul_one]) (fun j u hj => by rw [Addr.add_mid]; exact hr j u hj) s hgr (by omega) (growslice_fits hgr (by rw [hby]; omega))
          have hge := grownCap_ge w (xs.length + s.size) cap e
          refine ⟨_, _, hrun, (Fr.drew _ w).tr (Fr.alloc _ w.drew _), ⟨by rw [lOc, Nat.mul_one], .inr ⟨w.heap.size, 0, grownCap w (xs.length + s.size) cap e, .inr ⟨Nat.le_refl _, by rw [size_alloc]; exact Nat.lt_succ_self _⟩, by rw [List.length_append, hss], by rw [List.length_append, hss]; exact hge, grownCap_le_maxLen w (xs.length + s.size) cap e (by simp only [maxLen]; omega), ?_, ?_⟩⟩, fun r hr => by rw [spare_some] at hr; simp at hr; subst hr; exact .inl (Nat.le_refl _)⟩
          · have := range_new w.drew ((octets xs).toArray ++ (Lib.strCells s).toArray ++ Builtin.zeroCells z0.cells (grownCap w (xs.length + s.size) cap e - (xs.length + s.size))) e (0, 0)
            rw [Array.toList_append, Array.toList_append, range_append] at this
            rw [octets_append]
            exact this.1
          · refine there_part (there_new w.drew _ e) (Nat.le_refl _) ?_
            have hz1 : z0.cells.size = 1 := by have := congrArg List.length hzc; simpa using this
            have hsc := Lib.strCells_length s
            simp [Builtin.zeroCells, lOc, hz1, hsc]
            omega
  obtain ⟨v', w', hr, hf, ho, hin⟩ := key
  refine wp_val (v := v') (w' := w') ?_ (k v' w' fun e' he => ⟨v', he, hf, ho, hin⟩)
  simp [execOp, resolve, invoke, builtin, hx, hy, hr]
end
theorem fixedW_mod4 (i : Int) : fxW (i % 4294967296) 4 = fxW i 4 := by
  simp only [fxW, Nat.reduceMul, Nat.reducePow, List.cons.injEq, and_true]
  refine ⟨?_, ?_, ?_, ?_⟩ <;> congr 2 <;> omega
theorem fixedW_mod2 (i : Int) : fxW (i % 65536) 2 = fxW i 2 := by
  simp only [fxW, Nat.reduceMul, Nat.reducePow, List.cons.injEq, and_true]
  refine ⟨?_, ?_⟩ <;> congr 2 <;> omega
theorem fixedW_mod8 (i : Int) : fxW (i % 18446744073709551616) 8 = fxW i 8 := by
  simp only [fxW, Nat.reduceMul, Nat.reducePow, List.cons.injEq, and_true]
  refine ⟨?_, ?_, ?_, ?_, ?_, ?_, ?_, ?_⟩ <;> congr 2 <;> omega
end Go.Kq
