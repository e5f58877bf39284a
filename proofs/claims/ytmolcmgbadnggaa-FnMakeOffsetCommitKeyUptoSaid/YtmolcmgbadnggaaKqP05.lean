/- A part of the library: rules of reasoning about the program's operations and what its shared functions do. -/
import Derived.Test.YtmolcmgbadnggaaKqP04
import Derived.Test.YtmolcmgbadnggaaKqP01
import Derived.Deep.LoopGhost
import Derived.Deep.Upon
import Derived.Maps.RangeRun
import Derived.Lib.EndianBits
import Derived.ScopeJumps
import Derived.Laws.IdiomCopy
import Derived.Test.YtmolcmgbadnggaaKqP02
import Derived.Lib.SliceRun
import Derived.Test.YtmolcmgbadnggaaKqP03
set_option linter.unusedVariables false
set_option linter.unusedSimpArgs false
namespace Go.Kq
open Go Go.Proofs
structure ApI (P : Program) (f : FuncId) (k : IntKind) (n : Nat) : Prop where
  enters : Enters P f
  call : ∀ (w : World) (A : Nat → Prop) (dst : Value) (xs : List UInt8) (i : Int), Own w A 1 dst xs.length (octets xs) → k.min ≤ i → i ≤ k.max → xs.length + n ≤ 4294967296 → Calls P f #[dst, .int k i] w (Apd w A dst (xs ++ fxW i n))
structure ApV (P : Program) (f : FuncId) (ty : Ty) (g : V → List UInt8) : Prop where
  enters : Enters P f
  call : ∀ (w : World) (A B : Nat → Prop) (dst : Value) (xs : List UInt8) (c : Value) (x : V), Own w A 1 dst xs.length (octets xs) → Rep w B ty [c] x → (∀ b, A b → ¬ B b) → (∀ b, B b → b < w.heap.size) → (xs ++ g x).length < 4294967296 →
    Calls P f #[dst, c] w (Apd w A dst (xs ++ g x))
def apStr (x : V) : List UInt8 := fxW x.octs.length 2 ++ x.octs
theorem w16 (i : Int) : IntKind.i16.min ≤ IntKind.i16.wrap i ∧ IntKind.i16.wrap i ≤ IntKind.i16.max := by
  simp [IntKind.min, IntKind.max, IntKind.wrap, IntKind.signed, IntKind.bits]; split <;> omega
theorem w32 (i : Int) : IntKind.i32.min ≤ IntKind.i32.wrap i ∧ IntKind.i32.wrap i ≤ IntKind.i32.max := by
  simp [IntKind.min, IntKind.max, IntKind.wrap, IntKind.signed, IntKind.bits]; split <;> omega
theorem fixedW_w16 (i : Int) : fxW (IntKind.i16.wrap i) 2 = fxW i 2 := by
  have h : IntKind.i16.wrap i % 65536 = i % 65536 := by simp [IntKind.wrap, IntKind.signed, IntKind.bits]; split <;> omega
  rw [← fixedW_mod2, h, fixedW_mod2]
theorem fixedW_w32 (i : Int) : fxW (IntKind.i32.wrap i) 4 = fxW i 4 := by
  have h : IntKind.i32.wrap i % 4294967296 = i % 4294967296 := by simp [IntKind.wrap, IntKind.signed, IntKind.bits]; split <;> omega
  rw [← fixedW_mod4, h, fixedW_mod4]
theorem ap_u16 {P : Program} {f : FuncId} {fn : Func} {T5 T22 T93 T101 : TypeId} {i0 i1 : Nat} {t0 t1 t2 t3 t4 t5 t6 t7 t8 t9 : TypeId} {p0 p1 p2 p3 p4 p5 p6 p7 p8 p9 : String} {e0 e1 e2 e3 e4 e5 e6 e7 e8 e9 : Array Edge} {te : TypeId}
    (hf : P.funcs[f]? = some fn) (hname : (fn.name == "runtime.NumGoroutine") = false) (hres : fn.results = #[.tmp 4]) (hN : fn.ntmps = 13)
    (hbody : fn.body = some (.seq (Code.region i0 ⟨[⟨some 4, .assign (.const (.slice none 0 0)), t0, p0, e0, none⟩]⟩ false)
  (.seq (Code.region i1 ⟨[⟨some 5, .move (.tmp 0), t1, p1, e1, none⟩,
    ⟨some 6, .move (.tmp 1), t2, p2, e2, none⟩,
    ⟨some 7, .binOp .shr T101 (.tmp 6) (.const (.int .u64 8)) T93, t3, p3, e3, none⟩,
    ⟨some 8, .convert T101 T5 (.tmp 7), t4, p4, e4, none⟩,
    ⟨some 9, .move (.tmp 1), t5, p5, e5, none⟩,
    ⟨some 10, .convert T101 T5 (.tmp 9), t6, p6, e6, none⟩,
    ⟨some 11, .buildSlice T22 2 #[(0, .tmp 8), (1, .tmp 10)], t7, p7, e7, none⟩,
    ⟨some 12, .call ⟨.builtin .append, #[(.tmp 5), (.tmp 11)], #[T22, T22]⟩, t8, p8, e8, none⟩,
    ⟨some 4, .assign (.tmp 12), t9, p9, e9, none⟩]⟩ false)
  .ret)))
    (hT101_u16 : intOf P T101 .u16 = true) (hT5_u8 : intOf P T5 .u8 = true) (hs_T22 : sliceOf P T22 te 1 1 = true) (hz_T22 : zeroIs P te [.int .u8 0])  : ApI P f .u16 2 := by
  refine ⟨enters_of hf hname hbody, ?_⟩
  intro w A dst xs i own lo hi hb
  refine calls_of_wp hf hbody ?_
  generalize ha0 : ({ tmps := #[dst, Value.int .u16 i] ++ Array.replicate (fn.ntmps - (#[dst, Value.int .u16 i] : Array Value).size) undef, defers := [] } : Act) = a0
  have hz0 : a0.tmps.size = 13 := by subst ha0; simp [hN]
  have hd0 : a0.defers = [] := by subst ha0; rfl
  have g0_0 : get a0 0 = dst := by subst ha0; exact gAr rfl
  have g0_1 : get a0 1 = .int .u16 i := by subst ha0; exact gAr rfl
  have hi0 : ∀ r ∈ spare dst 1, r.In (spare dst 1) w := fun r h => Rng.in_self h
  have ho0 : Own w (fun b => A b ∨ (w.heap.size ≤ b ∧ b < w.heap.size)) 1 dst xs.length (octets xs) := own.imp_A fun _ h => .inl h
  refine wT fun K1 hK1 => ?_
  refine wC (wAs (v := .slice none 0 0) rfl ?_)
  refine wEn fun a2 ha2 => ?_
  have hz2 := kS ha2 hz0
  have hd2 := kD ha2 hd0
  have g2_0 := kP ha2 g0_0
  have g2_1 := kP ha2 g0_1
  refine hK1 a2 w (tUp ?_)
  refine wT fun K3 hK3 => ?_
  refine wC (wMv (v := dst) (eK g2_0) ?_)
  refine wC (wMv (v := .int .u16 i) (eK g2_1) ?_)
  refine wC (wp_shr (k1 := .u16) (i := i) (n := 8) (eS hz2) rfl (by decide) ?_)
  refine wC (wCv (k1 := .u16) (i := i / (2 ^ 8 : Nat)) hT101_u16 hT5_u8 (eS hz2) ?_)
  rw [show (IntKind.u8.wrap (i / (2 ^ 8 : Nat) : Int)) = (((UInt8.ofNat ((i / (2 ^ 8 : Nat)) % 256).toNat).toNat : Int) : Int) from wrap_u8_toNat _]
  refine wC (wMv (v := .int .u16 i) (eK g2_1) ?_)
  refine wC (wCv (k1 := .u16) (i := i) hT101_u16 hT5_u8 (eS hz2) ?_)
  rw [show (IntKind.u8.wrap (i : Int)) = (((UInt8.ofNat (i % 256).toNat).toNat : Int) : Int) from wrap_u8_toNat _]
  refine wC (wp_litN (xs := [.tmp 8, .tmp 10]) (cs := [UInt8.ofNat ((i / (2 ^ 8 : Nat)) % 256).toNat, UInt8.ofNat (i % 256).toNat]) hs_T22 (lX2 (eS hz2) (eS hz2)) rfl (by decide) (by decide) ?_)
  intro w4 u4 fr4 ou4
  have h5 : Fr (spare dst 1) w w4 := (Fr.refl (spare dst 1) w).tr fr4.nil
  have o5 : Own w4 (fun b => A b ∨ (w.heap.size ≤ b ∧ b < w4.heap.size)) 1 dst (xs).length (octets (xs)) := ho0.upTo fr4 (fun b hb => hb.imp id fun h => ⟨h.1, Nat.lt_of_lt_of_le h.2 fr4.size⟩)
  refine wC (wp_appA (xs := xs) (ys := [UInt8.ofNat ((i / (2 ^ 8 : Nat)) % 256).toNat, UInt8.ofNat (i % 256).toNat]) hs_T22 hz_T22 (eS hz2) (eS hz2) o5 ou4 (by simpa using hb) ?_)
  intro v6 w6 ha6
  obtain ⟨_, hv6, f6, ho6, hi6⟩ := ha6 _ rfl
  cases hv6
  have h7 : Fr (spare dst 1) w w6 := h5.trans f6 hi0
  have o7 : Own w6 (fun b => A b ∨ (w.heap.size ≤ b ∧ b < w6.heap.size)) 1 v6 (xs ++ [UInt8.ofNat ((i / (2 ^ 8 : Nat)) % 256).toNat, UInt8.ofNat (i % 256).toNat]).length (octets (xs ++ [UInt8.ofNat ((i / (2 ^ 8 : Nat)) % 256).toNat, UInt8.ofNat (i % 256).toNat])) := ho6.imp_A (own_or h5.size f6.size)
  have i7 : ∀ r ∈ spare v6 1, r.In (spare dst 1) w := fun r hr => Rng.in_trans (hi6 r hr) hi0 h5.size
  refine wC (wAs (v := v6) (eS hz2) ?_)
  refine wEn fun a8 ha8 => ?_
  have hz8 := kS ha8 hz2
  have hd8 := kD ha8 hd2
  have g8_4 : get a8 4 = v6 := kG ha8 hz2
  refine hK3 a8 w6 (tUp ?_)
  refine wp_ret ?_
  refine ⟨hd8, _, rIs hres g8_4, _, rfl, h7, ?_, i7⟩
  have := o7
  rw [show ([UInt8.ofNat ((i / (2 ^ 8 : Nat)) % 256).toNat, UInt8.ofNat (i % 256).toNat] : List UInt8) = fxW i 2 from by simp [fxW]] at this; exact this
theorem ap_u32 {P : Program} {f : FuncId} {fn : Func} {T5 T22 T58 T93 : TypeId} {i0 i1 : Nat} {t0 t1 t2 t3 t4 t5 t6 t7 t8 t9 t10 t11 t12 t13 t14 t15 : TypeId} {p0 p1 p2 p3 p4 p5 p6 p7 p8 p9 p10 p11 p12 p13 p14 p15 : String} {e0 e1 e2 e3 e4 e5 e6 e7 e8 e9 e10 e11 e12 e13 e14 e15 : Array Edge} {te : TypeId}
    (hf : P.funcs[f]? = some fn) (hname : (fn.name == "runtime.NumGoroutine") = false) (hres : fn.results = #[.tmp 4]) (hN : fn.ntmps = 19)
    (hbody : fn.body = some (.seq (Code.region i0 ⟨[⟨some 4, .assign (.const (.slice none 0 0)), t0, p0, e0, none⟩]⟩ false)
  (.seq (Code.region i1 ⟨[⟨some 5, .move (.tmp 0), t1, p1, e1, none⟩,
    ⟨some 6, .move (.tmp 1), t2, p2, e2, none⟩,
    ⟨some 7, .binOp .shr T58 (.tmp 6) (.const (.int .u64 24)) T93, t3, p3, e3, none⟩,
    ⟨some 8, .convert T58 T5 (.tmp 7), t4, p4, e4, none⟩,
    ⟨some 9, .move (.tmp 1), t5, p5, e5, none⟩,
    ⟨some 10, .binOp .shr T58 (.tmp 9) (.const (.int .u64 16)) T93, t6, p6, e6, none⟩,
    ⟨some 11, .convert T58 T5 (.tmp 10), t7, p7, e7, none⟩,
    ⟨some 12, .move (.tmp 1), t8, p8, e8, none⟩,
    ⟨some 13, .binOp .shr T58 (.tmp 12) (.const (.int .u64 8)) T93, t9, p9, e9, none⟩,
    ⟨some 14, .convert T58 T5 (.tmp 13), t10, p10, e10, none⟩,
    ⟨some 15, .move (.tmp 1), t11, p11, e11, none⟩,
    ⟨some 16, .convert T58 T5 (.tmp 15), t12, p12, e12, none⟩,
    ⟨some 17, .buildSlice T22 4 #[(0, .tmp 8), (1, .tmp 11), (2, .tmp 14), (3, .tmp 16)], t13, p13, e13, none⟩,
    ⟨some 18, .call ⟨.builtin .append, #[(.tmp 5), (.tmp 17)], #[T22, T22]⟩, t14, p14, e14, none⟩,
    ⟨some 4, .assign (.tmp 18), t15, p15, e15, none⟩]⟩ false)
  .ret)))
    (hT58_u32 : intOf P T58 .u32 = true) (hT5_u8 : intOf P T5 .u8 = true) (hs_T22 : sliceOf P T22 te 1 1 = true) (hz_T22 : zeroIs P te [.int .u8 0])  : ApI P f .u32 4 := by
  refine ⟨enters_of hf hname hbody, ?_⟩
  intro w A dst xs i own lo hi hb
  refine calls_of_wp hf hbody ?_
  generalize ha0 : ({ tmps := #[dst, Value.int .u32 i] ++ Array.replicate (fn.ntmps - (#[dst, Value.int .u32 i] : Array Value).size) undef, defers := [] } : Act) = a0
  have hz0 : a0.tmps.size = 19 := by subst ha0; simp [hN]
  have hd0 : a0.defers = [] := by subst ha0; rfl
  have g0_0 : get a0 0 = dst := by subst ha0; exact gAr rfl
  have g0_1 : get a0 1 = .int .u32 i := by subst ha0; exact gAr rfl
  have hi0 : ∀ r ∈ spare dst 1, r.In (spare dst 1) w := fun r h => Rng.in_self h
  have ho0 : Own w (fun b => A b ∨ (w.heap.size ≤ b ∧ b < w.heap.size)) 1 dst xs.length (octets xs) := own.imp_A fun _ h => .inl h
  refine wT fun K1 hK1 => ?_
  refine wC (wAs (v := .slice none 0 0) rfl ?_)
  refine wEn fun a2 ha2 => ?_
  have hz2 := kS ha2 hz0
  have hd2 := kD ha2 hd0
  have g2_0 := kP ha2 g0_0
  have g2_1 := kP ha2 g0_1
  refine hK1 a2 w (tUp ?_)
  refine wT fun K3 hK3 => ?_
  refine wC (wMv (v := dst) (eK g2_0) ?_)
  refine wC (wMv (v := .int .u32 i) (eK g2_1) ?_)
  refine wC (wp_shr (k1 := .u32) (i := i) (n := 24) (eS hz2) rfl (by decide) ?_)
  refine wC (wCv (k1 := .u32) (i := i / (2 ^ 24 : Nat)) hT58_u32 hT5_u8 (eS hz2) ?_)
  rw [show (IntKind.u8.wrap (i / (2 ^ 24 : Nat) : Int)) = (((UInt8.ofNat ((i / (2 ^ 24 : Nat)) % 256).toNat).toNat : Int) : Int) from wrap_u8_toNat _]
  refine wC (wMv (v := .int .u32 i) (eK g2_1) ?_)
  refine wC (wp_shr (k1 := .u32) (i := i) (n := 16) (eS hz2) rfl (by decide) ?_)
  refine wC (wCv (k1 := .u32) (i := i / (2 ^ 16 : Nat)) hT58_u32 hT5_u8 (eS hz2) ?_)
  rw [show (IntKind.u8.wrap (i / (2 ^ 16 : Nat) : Int)) = (((UInt8.ofNat ((i / (2 ^ 16 : Nat)) % 256).toNat).toNat : Int) : Int) from wrap_u8_toNat _]
  refine wC (wMv (v := .int .u32 i) (eK g2_1) ?_)
  refine wC (wp_shr (k1 := .u32) (i := i) (n := 8) (eS hz2) rfl (by decide) ?_)
  refine wC (wCv (k1 := .u32) (i := i / (2 ^ 8 : Nat)) hT58_u32 hT5_u8 (eS hz2) ?_)
  rw [show (IntKind.u8.wrap (i / (2 ^ 8 : Nat) : Int)) = (((UInt8.ofNat ((i / (2 ^ 8 : Nat)) % 256).toNat).toNat : Int) : Int) from wrap_u8_toNat _]
  refine wC (wMv (v := .int .u32 i) (eK g2_1) ?_)
  refine wC (wCv (k1 := .u32) (i := i) hT58_u32 hT5_u8 (eS hz2) ?_)
  rw [show (IntKind.u8.wrap (i : Int)) = (((UInt8.ofNat (i % 256).toNat).toNat : Int) : Int) from wrap_u8_toNat _]
  refine wC (wp_litN (xs := [.tmp 8, .tmp 11, .tmp 14, .tmp 16]) (cs := [UInt8.ofNat ((i / (2 ^ 24 : Nat)) % 256).toNat, UInt8.ofNat ((i / (2 ^ 16 : Nat)) % 256).toNat, UInt8.ofNat ((i / (2 ^ 8 : Nat)) % 256).toNat, UInt8.ofNat (i % 256).toNat]) hs_T22 (lX4 (eS hz2) (eS hz2) (eS hz2) (eS hz2)) rfl (by decide) (by decide) ?_)
  intro w4 u4 fr4 ou4
  have h5 : Fr (spare dst 1) w w4 := (Fr.refl (spare dst 1) w).tr fr4.nil
  have o5 : Own w4 (fun b => A b ∨ (w.heap.size ≤ b ∧ b < w4.heap.size)) 1 dst (xs).length (octets (xs)) := ho0.upTo fr4 (fun b hb => hb.imp id fun h => ⟨h.1, Nat.lt_of_lt_of_le h.2 fr4.size⟩)
  refine wC (wp_appA (xs := xs) (ys := [UInt8.ofNat ((i / (2 ^ 24 : Nat)) % 256).toNat, UInt8.ofNat ((i / (2 ^ 16 : Nat)) % 256).toNat, UInt8.ofNat ((i / (2 ^ 8 : Nat)) % 256).toNat, UInt8.ofNat (i % 256).toNat]) hs_T22 hz_T22 (eS hz2) (eS hz2) o5 ou4 (by simpa using hb) ?_)
  intro v6 w6 ha6
  obtain ⟨_, hv6, f6, ho6, hi6⟩ := ha6 _ rfl
  cases hv6
  have h7 : Fr (spare dst 1) w w6 := h5.trans f6 hi0
  have o7 : Own w6 (fun b => A b ∨ (w.heap.size ≤ b ∧ b < w6.heap.size)) 1 v6 (xs ++ [UInt8.ofNat ((i / (2 ^ 24 : Nat)) % 256).toNat, UInt8.ofNat ((i / (2 ^ 16 : Nat)) % 256).toNat, UInt8.ofNat ((i / (2 ^ 8 : Nat)) % 256).toNat, UInt8.ofNat (i % 256).toNat]).length (octets (xs ++ [UInt8.ofNat ((i / (2 ^ 24 : Nat)) % 256).toNat, UInt8.ofNat ((i / (2 ^ 16 : Nat)) % 256).toNat, UInt8.ofNat ((i / (2 ^ 8 : Nat)) % 256).toNat, UInt8.ofNat (i % 256).toNat])) := ho6.imp_A (own_or h5.size f6.size)
  have i7 : ∀ r ∈ spare v6 1, r.In (spare dst 1) w := fun r hr => Rng.in_trans (hi6 r hr) hi0 h5.size
  refine wC (wAs (v := v6) (eS hz2) ?_)
  refine wEn fun a8 ha8 => ?_
  have hz8 := kS ha8 hz2
  have hd8 := kD ha8 hd2
  have g8_4 : get a8 4 = v6 := kG ha8 hz2
  refine hK3 a8 w6 (tUp ?_)
  refine wp_ret ?_
  refine ⟨hd8, _, rIs hres g8_4, _, rfl, h7, ?_, i7⟩
  have := o7
  rw [show ([UInt8.ofNat ((i / (2 ^ 24 : Nat)) % 256).toNat, UInt8.ofNat ((i / (2 ^ 16 : Nat)) % 256).toNat, UInt8.ofNat ((i / (2 ^ 8 : Nat)) % 256).toNat, UInt8.ofNat (i % 256).toNat] : List UInt8) = fxW i 4 from by simp [fxW]] at this; exact this
theorem ap_i16 {P : Program} {f : FuncId} {fn : Func} {T40 T101 : TypeId} {f83 : FuncId} {a0 : Array TypeId} {i0 i1 : Nat} {t0 t1 t2 t3 t4 t5 : TypeId} {p0 p1 p2 p3 p4 p5 : String} {e0 e1 e2 e3 e4 e5 : Array Edge} {te : TypeId}
    (hf : P.funcs[f]? = some fn) (hname : (fn.name == "runtime.NumGoroutine") = false) (hres : fn.results = #[.tmp 4]) (hN : fn.ntmps = 9)
    (hbody : fn.body = some (.seq (Code.region i0 ⟨[⟨some 4, .assign (.const (.slice none 0 0)), t0, p0, e0, none⟩]⟩ false)
  (.seq (Code.region i1 ⟨[⟨some 5, .move (.tmp 0), t1, p1, e1, none⟩,
    ⟨some 6, .move (.tmp 1), t2, p2, e2, none⟩,
    ⟨some 7, .convert T40 T101 (.tmp 6), t3, p3, e3, none⟩,
    ⟨some 8, .call ⟨.value (.func f83), #[(.tmp 5), (.tmp 7)], a0⟩, t4, p4, e4, none⟩,
    ⟨some 4, .assign (.tmp 8), t5, p5, e5, none⟩]⟩ false)
  .ret)))
    (hT40_i16 : intOf P T40 .i16 = true) (hT101_u16 : intOf P T101 .u16 = true) (hC : ApI P f83 .u16 2) : ApI P f .i16 2 := by
  refine ⟨enters_of hf hname hbody, ?_⟩
  intro w A dst xs i own lo hi hb
  refine calls_of_wp hf hbody ?_
  generalize ha0 : ({ tmps := #[dst, Value.int .i16 i] ++ Array.replicate (fn.ntmps - (#[dst, Value.int .i16 i] : Array Value).size) undef, defers := [] } : Act) = a0
  have hz0 : a0.tmps.size = 9 := by subst ha0; simp [hN]
  have hd0 : a0.defers = [] := by subst ha0; rfl
  have g0_0 : get a0 0 = dst := by subst ha0; exact gAr rfl
  have g0_1 : get a0 1 = .int .i16 i := by subst ha0; exact gAr rfl
  have hi0 : ∀ r ∈ spare dst 1, r.In (spare dst 1) w := fun r h => Rng.in_self h
  have ho0 : Own w (fun b => A b ∨ (w.heap.size ≤ b ∧ b < w.heap.size)) 1 dst xs.length (octets xs) := own.imp_A fun _ h => .inl h
  refine wT fun K1 hK1 => ?_
  refine wC (wAs (v := .slice none 0 0) rfl ?_)
  refine wEn fun a2 ha2 => ?_
  have hz2 := kS ha2 hz0
  have hd2 := kD ha2 hd0
  have g2_0 := kP ha2 g0_0
  have g2_1 := kP ha2 g0_1
  refine hK1 a2 w (tUp ?_)
  refine wT fun K3 hK3 => ?_
  refine wC (wMv (v := dst) (eK g2_0) ?_)
  refine wC (wMv (v := .int .i16 i) (eK g2_1) ?_)
  refine wC (wCv (k1 := .i16) (i := i) hT40_i16 hT101_u16 (eS hz2) ?_)
  rw [show (IntKind.u16.wrap (i : Int)) = (i % 65536 : Int) from by simp [IntKind.wrap, IntKind.bits, IntKind.signed]]
  refine wC (wCr (R := fun vz wz => Fr (spare dst 1) w wz ∧ Own wz (fun b => (fun b => A b ∨ (w.heap.size ≤ b ∧ b < w.heap.size)) b ∨ (w.heap.size ≤ b ∧ b < wz.heap.size)) 1 vz (xs ++ (fxW (i % 65536) 2)).length (octets (xs ++ (fxW (i % 65536) 2))) ∧ ∀ r ∈ spare vz 1, r.In (spare dst 1) w) (vs := #[dst, .int .u16 (i % 65536)]) hC.enters (mX2 (eS hz2) (eS hz2)) (Apd.ret (hC.call w (fun b => A b ∨ (w.heap.size ≤ b ∧ b < w.heap.size)) _ _ (i % 65536) ho0 (by simp [IntKind.min, IntKind.signed, IntKind.bits]; omega) (by simp [IntKind.max, IntKind.signed, IntKind.bits]; omega) hb)) ?_)
  rintro v4 w4 ⟨f4, ho4, hi4⟩
  have h5 : Fr (spare dst 1) w w4 := (Fr.refl (spare dst 1) w).trans f4 hi0
  have o5 : Own w4 (fun b => A b ∨ (w.heap.size ≤ b ∧ b < w4.heap.size)) 1 v4 (xs ++ (fxW (i % 65536) 2)).length (octets (xs ++ (fxW (i % 65536) 2))) := ho4.imp_A (own_or (Fr.refl (spare dst 1) w).size f4.size)
  have i5 : ∀ r ∈ spare v4 1, r.In (spare dst 1) w := fun r hr => Rng.in_trans (hi4 r hr) hi0 (Fr.refl (spare dst 1) w).size
  refine wC (wAs (v := v4) (eS hz2) ?_)
  refine wEn fun a6 ha6 => ?_
  have hz6 := kS ha6 hz2
  have hd6 := kD ha6 hd2
  have g6_4 : get a6 4 = v4 := kG ha6 hz2
  refine hK3 a6 w4 (tUp ?_)
  refine wp_ret ?_
  refine ⟨hd6, _, rIs hres g6_4, _, rfl, h5, ?_, i5⟩
  have := o5
  rw [fixedW_mod2] at this; exact this
theorem ap_i32 {P : Program} {f : FuncId} {fn : Func} {T21 T58 : TypeId} {f82 : FuncId} {a0 : Array TypeId} {i0 i1 : Nat} {t0 t1 t2 t3 t4 t5 : TypeId} {p0 p1 p2 p3 p4 p5 : String} {e0 e1 e2 e3 e4 e5 : Array Edge} {te : TypeId}
    (hf : P.funcs[f]? = some fn) (hname : (fn.name == "runtime.NumGoroutine") = false) (hres : fn.results = #[.tmp 4]) (hN : fn.ntmps = 9)
    (hbody : fn.body = some (.seq (Code.region i0 ⟨[⟨some 4, .assign (.const (.slice none 0 0)), t0, p0, e0, none⟩]⟩ false)
  (.seq (Code.region i1 ⟨[⟨some 5, .move (.tmp 0), t1, p1, e1, none⟩,
    ⟨some 6, .move (.tmp 1), t2, p2, e2, none⟩,
    ⟨some 7, .convert T21 T58 (.tmp 6), t3, p3, e3, none⟩,
    ⟨some 8, .call ⟨.value (.func f82), #[(.tmp 5), (.tmp 7)], a0⟩, t4, p4, e4, none⟩,
    ⟨some 4, .assign (.tmp 8), t5, p5, e5, none⟩]⟩ false)
  .ret)))
    (hT21_i32 : intOf P T21 .i32 = true) (hT58_u32 : intOf P T58 .u32 = true) (hC : ApI P f82 .u32 4) : ApI P f .i32 4 := by
  refine ⟨enters_of hf hname hbody, ?_⟩
  intro w A dst xs i own lo hi hb
  refine calls_of_wp hf hbody ?_
  generalize ha0 : ({ tmps := #[dst, Value.int .i32 i] ++ Array.replicate (fn.ntmps - (#[dst, Value.int .i32 i] : Array Value).size) undef, defers := [] } : Act) = a0
  have hz0 : a0.tmps.size = 9 := by subst ha0; simp [hN]
  have hd0 : a0.defers = [] := by subst ha0; rfl
  have g0_0 : get a0 0 = dst := by subst ha0; exact gAr rfl
  have g0_1 : get a0 1 = .int .i32 i := by subst ha0; exact gAr rfl
  have hi0 : ∀ r ∈ spare dst 1, r.In (spare dst 1) w := fun r h => Rng.in_self h
  have ho0 : Own w (fun b => A b ∨ (w.heap.size ≤ b ∧ b < w.heap.size)) 1 dst xs.length (octets xs) := own.imp_A fun _ h => .inl h
  refine wT fun K1 hK1 => ?_
  refine wC (wAs (v := .slice none 0 0) rfl ?_)
  refine wEn fun a2 ha2 => ?_
  have hz2 := kS ha2 hz0
  have hd2 := kD ha2 hd0
  have g2_0 := kP ha2 g0_0
  have g2_1 := kP ha2 g0_1
  refine hK1 a2 w (tUp ?_)
  refine wT fun K3 hK3 => ?_
  refine wC (wMv (v := dst) (eK g2_0) ?_)
  refine wC (wMv (v := .int .i32 i) (eK g2_1) ?_)
  refine wC (wCv (k1 := .i32) (i := i) hT21_i32 hT58_u32 (eS hz2) ?_)
  rw [show (IntKind.u32.wrap (i : Int)) = (i % 4294967296 : Int) from by simp [IntKind.wrap, IntKind.bits, IntKind.signed]]
  refine wC (wCr (R := fun vz wz => Fr (spare dst 1) w wz ∧ Own wz (fun b => (fun b => A b ∨ (w.heap.size ≤ b ∧ b < w.heap.size)) b ∨ (w.heap.size ≤ b ∧ b < wz.heap.size)) 1 vz (xs ++ (fxW (i % 4294967296) 4)).length (octets (xs ++ (fxW (i % 4294967296) 4))) ∧ ∀ r ∈ spare vz 1, r.In (spare dst 1) w) (vs := #[dst, .int .u32 (i % 4294967296)]) hC.enters (mX2 (eS hz2) (eS hz2)) (Apd.ret (hC.call w (fun b => A b ∨ (w.heap.size ≤ b ∧ b < w.heap.size)) _ _ (i % 4294967296) ho0 (by simp [IntKind.min, IntKind.signed, IntKind.bits]; omega) (by simp [IntKind.max, IntKind.signed, IntKind.bits]; omega) hb)) ?_)
  rintro v4 w4 ⟨f4, ho4, hi4⟩
  have h5 : Fr (spare dst 1) w w4 := (Fr.refl (spare dst 1) w).trans f4 hi0
  have o5 : Own w4 (fun b => A b ∨ (w.heap.size ≤ b ∧ b < w4.heap.size)) 1 v4 (xs ++ (fxW (i % 4294967296) 4)).length (octets (xs ++ (fxW (i % 4294967296) 4))) := ho4.imp_A (own_or (Fr.refl (spare dst 1) w).size f4.size)
  have i5 : ∀ r ∈ spare v4 1, r.In (spare dst 1) w := fun r hr => Rng.in_trans (hi4 r hr) hi0 (Fr.refl (spare dst 1) w).size
  refine wC (wAs (v := v4) (eS hz2) ?_)
  refine wEn fun a6 ha6 => ?_
  have hz6 := kS ha6 hz2
  have hd6 := kD ha6 hd2
  have g6_4 : get a6 4 = v4 := kG ha6 hz2
  refine hK3 a6 w4 (tUp ?_)
  refine wp_ret ?_
  refine ⟨hd6, _, rIs hres g6_4, _, rfl, h5, ?_, i5⟩
  have := o5
  rw [fixedW_mod4] at this; exact this
theorem ap_str {P : Program} {f : FuncId} {fn : Func} {T3 T9 T22 T40 : TypeId} {f39 : FuncId} {a0 : Array TypeId} {i0 i1 i2 : Nat} {t0 t1 t2 t3 t4 t5 t6 t7 t8 t9 t10 : TypeId} {p0 p1 p2 p3 p4 p5 p6 p7 p8 p9 p10 : String} {e0 e1 e2 e3 e4 e5 e6 e7 e8 e9 e10 : Array Edge} {te : TypeId}
    (hf : P.funcs[f]? = some fn) (hname : (fn.name == "runtime.NumGoroutine") = false) (hres : fn.results = #[.tmp 4]) (hN : fn.ntmps = 13)
    (hbody : fn.body = some (.seq (Code.region i0 ⟨[⟨some 4, .assign (.const (.slice none 0 0)), t0, p0, e0, none⟩]⟩ false)
  (.seq (Code.region i1 ⟨[⟨some 5, .move (.tmp 0), t1, p1, e1, none⟩,
    ⟨some 6, .move (.tmp 1), t2, p2, e2, none⟩,
    ⟨some 7, .call ⟨.builtin .len, #[(.tmp 6)], #[T9]⟩, t3, p3, e3, none⟩,
    ⟨some 8, .convert T3 T40 (.tmp 7), t4, p4, e4, none⟩,
    ⟨some 9, .call ⟨.value (.func f39), #[(.tmp 5), (.tmp 8)], a0⟩, t5, p5, e5, none⟩,
    ⟨some 0, .assign (.tmp 9), t6, p6, e6, none⟩]⟩ false)
  (.seq (Code.region i2 ⟨[⟨some 10, .move (.tmp 0), t7, p7, e7, none⟩,
    ⟨some 11, .move (.tmp 1), t8, p8, e8, none⟩,
    ⟨some 12, .call ⟨.builtin .append, #[(.tmp 10), (.tmp 11)], #[T22, T9]⟩, t9, p9, e9, none⟩,
    ⟨some 4, .assign (.tmp 12), t10, p10, e10, none⟩]⟩ false)
  .ret))))
    (hST9 : strTy P T9 = true) (hT3_i64 : intOf P T3 .i64 = true) (hT40_i16 : intOf P T40 .i16 = true) (hs_T22 : sliceOf P T22 te 1 1 = true) (hz_T22 : zeroIs P te [.int .u8 0]) (hC : ApI P f39 .i16 2) : ApV P f .str apStr := by
  refine ⟨enters_of hf hname hbody, ?_⟩
  intro w A B dst xs c x own hr hAB hB hb
  obtain ⟨s, hc, rfl, hsl⟩ := hr
  cases hc
  rw [List.length_append, show (apStr (.s s.data.toList)).length = (fxW (s.data.toList.length : Int) 2).length + s.data.toList.length from by simp [apStr, V.octs]] at hb
  refine calls_of_wp hf hbody ?_
  generalize ha0 : ({ tmps := #[dst, Value.string s] ++ Array.replicate (fn.ntmps - (#[dst, Value.string s] : Array Value).size) undef, defers := [] } : Act) = a0
  have hz0 : a0.tmps.size = 13 := by subst ha0; simp [hN]
  have hd0 : a0.defers = [] := by subst ha0; rfl
  have g0_0 : get a0 0 = dst := by subst ha0; exact gAr rfl
  have g0_1 : get a0 1 = .string s := by subst ha0; exact gAr rfl
  have hi0 : ∀ r ∈ spare dst 1, r.In (spare dst 1) w := fun r h => Rng.in_self h
  have ho0 : Own w (fun b => A b ∨ (w.heap.size ≤ b ∧ b < w.heap.size)) 1 dst xs.length (octets xs) := own.imp_A fun _ h => .inl h
  refine wT fun K1 hK1 => ?_
  refine wC (wAs (v := .slice none 0 0) rfl ?_)
  refine wEn fun a2 ha2 => ?_
  have hz2 := kS ha2 hz0
  have hd2 := kD ha2 hd0
  have g2_0 := kP ha2 g0_0
  have g2_1 := kP ha2 g0_1
  refine hK1 a2 w (tUp ?_)
  refine wT fun K3 hK3 => ?_
  refine wC (wMv (v := dst) (eK g2_0) ?_)
  refine wC (wMv (v := .string s) (eK g2_1) ?_)
  refine wC (wp_lenStr (s := s) hST9 (eS hz2) ?_)
  refine wC (wCv (k1 := .i64) (i := ((s.data.toList.length : Nat) : Int)) hT3_i64 hT40_i16 (eS hz2) ?_)
  refine wC (wCr (R := fun vz wz => Fr (spare dst 1) w wz ∧ Own wz (fun b => (fun b => A b ∨ (w.heap.size ≤ b ∧ b < w.heap.size)) b ∨ (w.heap.size ≤ b ∧ b < wz.heap.size)) 1 vz (xs ++ (fxW (IntKind.i16.wrap (s.data.toList.length : Int)) 2)).length (octets (xs ++ (fxW (IntKind.i16.wrap (s.data.toList.length : Int)) 2))) ∧ ∀ r ∈ spare vz 1, r.In (spare dst 1) w) (vs := #[dst, .int .i16 (IntKind.i16.wrap (((s.data.toList.length : Nat) : Int) : Int))]) hC.enters (mX2 (eS hz2) (eS hz2)) (Apd.ret (hC.call w (fun b => A b ∨ (w.heap.size ≤ b ∧ b < w.heap.size)) _ _ _ ho0 (w16 _).1 (w16 _).2 (by have := fxL s.data.toList.length 2; rw [fxL] at hb; omega))) ?_)
  rintro v4 w4 ⟨f4, ho4, hi4⟩
  have h5 : Fr (spare dst 1) w w4 := (Fr.refl (spare dst 1) w).trans f4 hi0
  have o5 : Own w4 (fun b => A b ∨ (w.heap.size ≤ b ∧ b < w4.heap.size)) 1 v4 (xs ++ (fxW (IntKind.i16.wrap (s.data.toList.length : Int)) 2)).length (octets (xs ++ (fxW (IntKind.i16.wrap (s.data.toList.length : Int)) 2))) := ho4.imp_A (own_or (Fr.refl (spare dst 1) w).size f4.size)
  have i5 : ∀ r ∈ spare v4 1, r.In (spare dst 1) w := fun r hr => Rng.in_trans (hi4 r hr) hi0 (Fr.refl (spare dst 1) w).size
  refine wC (wAs (v := v4) (eS hz2) ?_)
  refine wEn fun a6 ha6 => ?_
  have hz6 := kS ha6 hz2
  have hd6 := kD ha6 hd2
  have g6_0 : get a6 0 = v4 := kG ha6 hz2
  have g6_1 := kP ha6 g2_1
  refine hK3 a6 w4 (tUp ?_)
  refine wT fun K7 hK7 => ?_
  refine wC (wMv (v := v4) (eK g6_0) ?_)
  refine wC (wMv (v := .string s) (eK g6_1) ?_)
  refine wC (wp_appStr (xs := (xs ++ (fxW (IntKind.i16.wrap (s.data.toList.length : Int)) 2))) (s := s) hs_T22 hST9 hz_T22 (eS hz6) (eS hz6) o5 (by simp only [List.length_append, fxL] at hb ⊢; omega) ?_)
  intro v8 w8 ha8
  obtain ⟨_, hv8, f8, ho8, hi8⟩ := ha8 _ rfl
  cases hv8
  have h9 : Fr (spare dst 1) w w8 := h5.trans f8 i5
  have o9 : Own w8 (fun b => A b ∨ (w.heap.size ≤ b ∧ b < w8.heap.size)) 1 v8 (xs ++ (fxW (IntKind.i16.wrap (s.data.toList.length : Int)) 2) ++ s.data.toList).length (octets (xs ++ (fxW (IntKind.i16.wrap (s.data.toList.length : Int)) 2) ++ s.data.toList)) := ho8.imp_A (own_or h5.size f8.size)
  have i9 : ∀ r ∈ spare v8 1, r.In (spare dst 1) w := fun r hr => Rng.in_trans (hi8 r hr) i5 h5.size
  refine wC (wAs (v := v8) (eS hz6) ?_)
  refine wEn fun a10 ha10 => ?_
  have hz10 := kS ha10 hz6
  have hd10 := kD ha10 hd6
  have g10_4 : get a10 4 = v8 := kG ha10 hz6
  refine hK7 a10 w8 (tUp ?_)
  refine wp_ret ?_
  have := o9
  have hfin : xs ++ (fxW (IntKind.i16.wrap (s.data.toList.length : Int)) 2) ++ s.data.toList = xs ++ apStr (.s s.data.toList) := by simp [apStr, V.octs, fixedW_w16]
  rw [hfin] at this
  exact ⟨hd10, _, rIs hres g10_4, _, rfl, h9, this, i9⟩
end Go.Kq

namespace Go.Kq
open Go Go.Proofs
abbrev Ctx := List (Nat × Value)
def Ctx.on (c : Ctx) (a : Act) : Prop := ∀ s ∈ c, get a s.1 = s.2
def Ctx.free (c : Ctx) (m : Nat) (l : List Nat) : Bool := c.all fun s => decide (s.1 < m) && !l.contains s.1
theorem Ctx.on_put {c : Ctx} {a : Act} {m d : Nat} {l : List Nat} {v : Value} (h : c.on a) (hf : c.free m l = true) (hd : m ≤ d ∨ d ∈ l) : c.on (a.put (some d) v) := by
  intro s hs
  have := List.all_eq_true.1 hf s hs
  simp only [Bool.and_eq_true, decide_eq_true_eq, Bool.not_eq_true', List.contains_eq_mem, decide_eq_false_iff_not] at this
  rw [gPn, h s hs]
  rintro rfl
  rcases hd with hd | hd
  · omega
  · exact this.2 hd
theorem Ctx.on_cons {c : Ctx} {a : Act} {d : Nat} {v : Value} (h : c.on a) (hd : get a d = v) : Ctx.on ((d, v) :: c) a := by
  intro s hs
  rcases List.mem_cons.1 hs with rfl | hs
  · exact hd
  · exact h s hs
theorem Ctx.on_tail {c : Ctx} {a : Act} {x : Nat × Value} (h : Ctx.on (x :: c) a) : c.on a := fun s hs => h s (List.mem_cons_of_mem _ hs)
theorem Ctx.lt {c : Ctx} {m : Nat} {l : List Nat} {s : Nat × Value} (hf : c.free m l = true) (hs : s ∈ c) : s.1 < m ∧ s.1 ∉ l := by
  have := List.all_eq_true.1 hf s hs
  simpa only [Bool.and_eq_true, decide_eq_true_eq, Bool.not_eq_true', List.contains_eq_mem, decide_eq_false_iff_not] using this
structure AE where
  w0 : World
  A : Nat → Prop
  B : Nat → Prop
  d0 : Value
def AE.Aw (e : AE) (w : World) (b : Nat) : Prop := e.A b ∨ (e.w0.heap.size ≤ b ∧ b < w.heap.size)
structure AE.Ok (e : AE) : Prop where
  AB : ∀ b, e.A b → ¬ e.B b
  lt : ∀ b, e.B b → b < e.w0.heap.size
  Alt : ∀ b, e.A b → b < e.w0.heap.size
  sp : ∀ r ∈ spare e.d0 1, e.A r.b
structure ASt (e : AE) (xs : List UInt8) (v : Value) (w : World) : Prop where
  ok : e.Ok
  fr : Fr (spare e.d0 1) e.w0 w
  own : Own w (e.Aw w) 1 v xs.length (octets xs)
  inn : ∀ r ∈ spare v 1, r.In (spare e.d0 1) e.w0
theorem ASt.on {e : AE} {xs zs : List UInt8} {v v' : Value} {w w' : World} (h : ASt e xs v w) (f : Fr (spare v 1) w w') (ho : Own w' (fun b => e.Aw w b ∨ (w.heap.size ≤ b ∧ b < w'.heap.size)) 1 v' zs.length (octets zs)) (hi : ∀ r ∈ spare v' 1, r.In (spare v 1) w) : ASt e zs v' w' :=
  ⟨h.ok, h.fr.trans f h.inn, ho.imp_A (own_or h.fr.size f.size), fun r hr => Rng.in_trans (hi r hr) h.inn h.fr.size⟩
theorem ASt.rep {e : AE} {xs : List UInt8} {v : Value} {w : World} (h : ASt e xs v w) {ty : Ty} {cs : List Value} {x : V} (hr : Rep e.w0 e.B ty cs x) : Rep w e.B ty cs x :=
  Rep.kept h.fr (fun r hr hb => h.ok.AB _ (h.ok.sp r hr) hb) (fun _ h => h) hr
theorem ASt.cell {e : AE} {xs : List UInt8} {v c : Value} {w : World} {b o : Nat} (h : ASt e xs v w) (hB : e.B b) (hc : e.w0.cell? ⟨b, o, none⟩ = some c) : w.cell? ⟨b, o, none⟩ = some c :=
  h.fr.cell hc fun r hr => .inl fun hb => h.ok.AB _ (h.ok.sp r hr) (hb ▸ hB)
theorem ASt.apart {e : AE} {xs : List UInt8} {v : Value} {w : World} (h : ASt e xs v w) (b : Nat) (hb : e.Aw w b) : ¬ e.B b := by
  rcases hb with hb | hb
  · exact h.ok.AB b hb
  · intro hB; have := h.ok.lt b hB; omega
theorem ASt.ltw {e : AE} {xs : List UInt8} {v : Value} {w : World} (h : ASt e xs v w) (b : Nat) (hb : e.B b) : b < w.heap.size := Nat.lt_of_lt_of_le (h.ok.lt b hb) h.fr.size
def ApC (P : Program) (N : Nat) (e : AE) (c : Ctx) (k : Code) (ys : List UInt8) : Prop :=
  ∀ (K : Act → World → Prop) (Q : Exit → Act → World → Prop) (a : Act) (w : World) (v : Value) (xs : List UInt8),
    a.tmps.size = N → a.defers = [] → c.on a → get a 1 = v → ASt e xs v w → (xs ++ ys).length < 4294967296 →
    (∀ a' w' v', a'.tmps.size = N → a'.defers = [] → c.on a' → get a' 1 = v' → ASt e (xs ++ ys) v' w' → K a' w') →
    k.wp P (Exit.then K Q) a w
section
variable {P : Program} {N n m s L id id1 id2 b0 b1 : Nat} {TI'' TI3 : TypeId} {e : AE} {c : Ctx} {k k1 k2 : Code} {ys y1 y2 : List UInt8} {cv : Value}
  {t0 t1 t2 t3 t4 t5 t6 t7 t8 t9 : TypeId} {p0 p1 p2 p3 p4 p5 p6 p7 p8 p9 : String} {e0 e1 e2 e3 e4 e5 e6 e7 e8 e9 : Array Edge}
theorem ApC.load {pb po fi o : Nat} {S T : TypeId} (hs : (s, Value.pointer (some ⟨pb, po, none⟩)) ∈ c) (hF : fieldOf P S fi o = true) (hT : scal P T = true) (hcell : e.w0.cell? ⟨pb, po + o, none⟩ = some cv) (hB : e.B pb)
    (hb : (c.free n [L, 1] && decide (L < n) && decide (1 < n) && decide (n + 3 < N) && decide (L ≠ 1)) = true) (h : ApC P N e ((L, cv) :: c) k ys) :
    ApC P N e c (.seq (Code.region id ⟨[⟨some n, .move (.tmp s), t0, p0, e0, none⟩, ⟨some (n + 1), .nilCheck (.tmp n), t1, p1, e1, none⟩, ⟨some (n + 2), .fieldAddr S (.tmp (n + 1)) fi, t2, p2, e2, none⟩, ⟨some (n + 3), .load T (.tmp (n + 2)), t3, p3, e3, none⟩,
      ⟨some L, .assign (.tmp (n + 3)), t4, p4, e4, none⟩]⟩ false) k) ys := by
  intro K Q a w v xs hN hd hc hv hst hbd hK
  simp only [Bool.and_eq_true, decide_eq_true_eq] at hb
  obtain ⟨⟨⟨⟨b1, b2⟩, b3⟩, b4⟩, b5⟩ := hb
  refine wS fun K1 hK1 => ?_
  refine wC (wMv (v := .pointer (some ⟨pb, po, none⟩)) (by rw [eTm]; exact hc _ hs) ?_)
  refine wC (wNc (q := ⟨pb, po, none⟩) (by rw [eTm, gQ]) ?_)
  refine wC (wFa hF (b := pb) (i := po) (by rw [eTm, gQ]) ?_)
  refine wC (wp_load hT (by rw [eTm, gQ]) (hst.cell hB hcell) ?_)
  refine wC (wAs (v := cv) (by rw [eTm, gQ]) ?_)
  rw [wNi]
  refine hK1 _ w ?_
  refine h K Q _ w v xs (by simp only [sPu]; exact hN) (by simp only [dPu]; exact hd) (Ctx.on_cons ?_ (gQ)) ?_ hst hbd fun a' w' v' n' d' c' g' s' => hK a' w' v' n' d' (Ctx.on_tail c') g' s'
  · exact Ctx.on_put (Ctx.on_put (Ctx.on_put (Ctx.on_put (Ctx.on_put hc b1 (.inl (by omega))) b1 (.inl (by omega))) b1 (.inl (by omega))) b1 (.inl (by omega))) b1 (.inr (by simp))
  · rw [gPn b5, gR, gR, gR, gR]; exact hv
structure CallOk (P : Program) (e : AE) (f : FuncId) (cv : Value) (ys : List UInt8) : Prop where
  enters : Enters P f
  call : ∀ (w : World) (v : Value) (xs : List UInt8), ASt e xs v w → (xs ++ ys).length < 4294967296 → Calls P f #[v, cv] w (Apd w (e.Aw w) v (xs ++ ys))
theorem CallOk.int {f : FuncId} {kd : IntKind} {sz : Nat} {i : Int} (h : ApI P f kd sz) (h1 : kd.min ≤ i) (h2 : i ≤ kd.max) : CallOk P e f (.int kd i) (fxW i sz) :=
  ⟨h.enters, fun w v xs hs hb => h.call w _ v xs i hs.own h1 h2 (by rw [List.length_append, fxL] at hb; omega)⟩
theorem CallOk.val {f : FuncId} {ty : Ty} {g : V → List UInt8} {x : V} (h : ApV P f ty g) (hr : Rep e.w0 e.B ty [cv] x) : CallOk P e f cv (g x) :=
  ⟨h.enters, fun w v xs hs hb => h.call w _ e.B v xs cv x hs.own (hs.rep hr) hs.apart hs.ltw hb⟩
theorem ApC.done {a : Act} {w w' : World} {v v' : Value} {xs zs : List UInt8} {K : Act → World → Prop} (hN : a.tmps.size = N) (hd : a.defers = []) (hc : c.on a) (hg : get a 1 = v') (hst : ASt e xs v w)
    (hK : ∀ a' w' v', a'.tmps.size = N → a'.defers = [] → c.on a' → get a' 1 = v' → ASt e zs v' w' → K a' w')
    (hr : Fr (spare v 1) w w' ∧ Own w' (fun b => e.Aw w b ∨ (w.heap.size ≤ b ∧ b < w'.heap.size)) 1 v' zs.length (octets zs) ∧ ∀ r ∈ spare v' 1, r.In (spare v 1) w) : K a w' :=
  hK a w' v' hN hd hc hg (hst.on hr.1 hr.2.1 hr.2.2)
theorem ApC.call {f : FuncId} {ats : Array TypeId} (hL : (L, cv) ∈ c) (hf : CallOk P e f cv ys) (hb : (c.free n [1] && decide (1 < n) && decide (n + 2 < N)) = true) :
    ApC P N e c (Code.region id ⟨[⟨some n, .move (.tmp 1), t0, p0, e0, none⟩, ⟨some (n + 1), .move (.tmp L), t1, p1, e1, none⟩, ⟨some (n + 2), .call ⟨.value (.func f), #[.tmp n, .tmp (n + 1)], ats⟩, t2, p2, e2, none⟩, ⟨some 1, .assign (.tmp (n + 2)), t3, p3, e3, none⟩]⟩ false) ys := by
  intro K Q a w v xs hN hd hc hv hst hbd hK
  simp only [Bool.and_eq_true, decide_eq_true_eq] at hb
  obtain ⟨⟨b1, b2⟩, b3⟩ := hb
  have hLn := (Ctx.lt b1 hL).1
  simp only at hLn
  refine wp_reg ?_
  refine wC (wMv (v := v) (by rw [eTm]; exact hv) ?_)
  refine wC (wMv (v := cv) (by rw [eTm, gR]; exact hc _ hL) ?_)
  refine wC (wCr (vs := #[v, cv]) hf.enters (by simp only [List.map_toArray, List.map_cons, List.map_nil, eTm]; rw [gR, gQ, gQ]) (Apd.ret (hf.call w v xs hst hbd)) ?_)
  intro v' w' hr
  refine wC (wAs (v := v') (by rw [eTm, gQ]) ?_)
  rw [wNi]
  exact ApC.done (c := c) (by simp only [sPu]; exact hN) (by simp only [dPu]; exact hd) (Ctx.on_put (Ctx.on_put (Ctx.on_put (Ctx.on_put hc b1 (.inl (by omega))) b1 (.inl (by omega))) b1 (.inl (by omega))) b1 (.inr (by simp))) (gQ) hst hK hr
end
end Go.Kq

namespace Go.Kq
open Go Go.Proofs
def tagW (p : Nat × List UInt8) : List UInt8 := uvW p.1 ++ (uvW p.2.length ++ p.2)
def tagsW (l : List (Nat × List UInt8)) : List UInt8 := (l.map tagW).flatten
def FA (e : AE) (b o : Nat) (ty : Ty) (x : V) : Prop := ∃ cs, e.w0.rangeAt b o cs ∧ Rep e.w0 e.B ty cs x
theorem FA.one {e : AE} {b o : Nat} {ty : Ty} {x : V} (h : FA e b o ty x) (hs : ty.size = 1) : ∃ c, e.w0.cell? ⟨b, o, none⟩ = some c ∧ Rep e.w0 e.B ty [c] x := by
  obtain ⟨cs, h1, h2⟩ := h
  have := h2.length
  rw [hs] at this
  match cs, this with
  | [c], _ => exact ⟨c, range_one.1 h1, h2⟩
section
variable {P : Program} {N n m s L R id id1 id2 b0 b1 pb po fi o : Nat} {e : AE} {c : Ctx} {k k1 k2 : Code} {ys y1 y2 : List UInt8} {cv : Value}
  {t0 t1 t2 t3 t4 t5 t6 t7 t8 t9 : TypeId} {p0 p1 p2 p3 p4 p5 p6 p7 p8 p9 : String} {e0 e1 e2 e3 e4 e5 e6 e7 e8 e9 : Array Edge}
def apInt (sz : Nat) : V → List UInt8 | .n i => fxW i sz | _ => []
def apAll : List (V → List UInt8) → List V → List UInt8
  | g :: gs, x :: xs => g x ++ apAll gs xs
  | _, _ => []
def apSt (gs : List (V → List UInt8)) : V → List UInt8 | .l xs => apAll gs xs | _ => []
def ApR (P : Program) (N R : Nat) (e : AE) (c : Ctx) (k : Code) (ys : List UInt8) : Prop :=
  ∀ (Q : Exit → Act → World → Prop) (a : Act) (w : World) (v : Value) (xs : List UInt8),
    a.tmps.size = N → a.defers = [] → c.on a → get a 1 = v → ASt e xs v w → (xs ++ ys).length < 4294967296 →
    (∀ a' w' v', a'.defers = [] → get a' R = v' → ASt e (xs ++ ys) v' w' → Q .ret a' w') → k.wp P Q a w
theorem ApR.seq (h1 : ApC P N e c k1 y1) (h2 : ApR P N R e c k2 y2) : ApR P N R e c (.seq k1 k2) (y1 ++ y2) := by
  intro Q a w v xs hN hd hc hv hs hb hK
  refine tId (wp_seq_k fun K1 hK1 => ?_)
  refine h1 K1 _ a w v xs hN hd hc hv hs (by simp only [List.length_append] at hb ⊢; omega) fun a1 w1 v1 n1 d1 c1 g1 s1 => hK1 a1 w1 (tUp ?_)
  exact h2 Q a1 w1 v1 _ n1 d1 c1 g1 s1 (by rw [List.append_assoc]; exact hb) fun a2 w2 v2 d2 g2 s2 => hK a2 w2 v2 d2 g2 (by rw [← List.append_assoc]; exact s2)
theorem ApR.ret (hb : (decide (1 < n) && decide (n < N) && decide (R < N) && decide (R ≠ n)) = true) : ApR P N R e c (.seq (Code.region id ⟨[⟨some n, .move (.tmp 1), t0, p0, e0, none⟩, ⟨some R, .assign (.tmp n), t1, p1, e1, none⟩]⟩ false) .ret) [] := by
  intro Q a w v xs hN hd hc hv hs hbd hK
  simp only [Bool.and_eq_true, decide_eq_true_eq] at hb
  obtain ⟨⟨⟨b1, b2⟩, b3⟩, b4⟩ := hb
  refine wT fun K1 hK1 => ?_
  refine wC (wMv (v := v) (by rw [eTm]; exact hv) ?_)
  refine wC (wAs (v := v) (by rw [eTm, gQ]) ?_)
  rw [wNi]
  refine hK1 _ _ (wp_ret ?_)
  exact hK _ w v (by simp only [dPu]; exact hd) (gQ) (by rw [List.append_nil]; exact hs)
theorem ApR.asg {x : Value} (hb : (c.free N [L, 1] && decide (L < N) && decide (L ≠ 1)) = true) (h : ApR P N R e ((L, x) :: c) k ys) : ApR P N R e c (.seq (Code.region id ⟨[⟨some L, .assign (.const x), t0, p0, e0, none⟩]⟩ false) k) ys := by
  intro Q a w v xs hN hd hc hv hs hbd hK
  simp only [Bool.and_eq_true, decide_eq_true_eq] at hb
  obtain ⟨⟨b1, b2⟩, b3⟩ := hb
  refine wT fun K1 hK1 => ?_
  refine wC (wAs (v := x) (eCo _ _) ?_)
  rw [wNi]
  refine hK1 _ _ (tUp ?_)
  exact h Q _ w v xs (by simp only [sPu]; exact hN) (by simp only [dPu]; exact hd) (Ctx.on_cons (Ctx.on_put hc b1 (.inr (by simp))) (gQ)) (by rw [gPn b3]; exact hv) hs hbd hK
theorem ApR.nop (hb : (c.free n [1] && decide (1 < n) && decide (n < N)) = true) (h : ApR P N R e c k ys) : ApR P N R e c (.seq (Code.region id ⟨[⟨some n, .move (.tmp s), t0, p0, e0, none⟩]⟩ false) k) ys := by
  intro Q a w v xs hN hd hc hv hs hbd hK
  simp only [Bool.and_eq_true, decide_eq_true_eq] at hb
  obtain ⟨⟨b1, b2⟩, b3⟩ := hb
  refine wT fun K1 hK1 => ?_
  rw [wCo, wMw, wNi]
  refine hK1 _ _ (tUp ?_)
  exact h Q _ w v xs (by simp only [sPu]; exact hN) (by simp only [dPu]; exact hd) (Ctx.on_put hc b1 (.inl (by omega))) (by rw [gR]; exact hv) hs hbd hK
theorem ApR.load {S T : TypeId} (hs : (s, Value.pointer (some ⟨pb, po, none⟩)) ∈ c) (hF : fieldOf P S fi o = true) (hT : scal P T = true) (hcell : e.w0.cell? ⟨pb, po + o, none⟩ = some cv) (hB : e.B pb)
    (hb : (c.free n [L, 1] && decide (L < n) && decide (1 < n) && decide (n + 3 < N) && decide (L ≠ 1)) = true) (h : ApR P N R e ((L, cv) :: c) k ys) :
    ApR P N R e c (.seq (Code.region id ⟨[⟨some n, .move (.tmp s), t0, p0, e0, none⟩, ⟨some (n + 1), .nilCheck (.tmp n), t1, p1, e1, none⟩, ⟨some (n + 2), .fieldAddr S (.tmp (n + 1)) fi, t2, p2, e2, none⟩, ⟨some (n + 3), .load T (.tmp (n + 2)), t3, p3, e3, none⟩,
      ⟨some L, .assign (.tmp (n + 3)), t4, p4, e4, none⟩]⟩ false) k) ys := by
  intro Q a w v xs hN hd hc hv hst hbd hK
  simp only [Bool.and_eq_true, decide_eq_true_eq] at hb
  obtain ⟨⟨⟨⟨b1, b2⟩, b3⟩, b4⟩, b5⟩ := hb
  refine wT fun K1 hK1 => ?_
  refine wC (wMv (v := .pointer (some ⟨pb, po, none⟩)) (by rw [eTm]; exact hc _ hs) ?_)
  refine wC (wNc (q := ⟨pb, po, none⟩) (by rw [eTm, gQ]) ?_)
  refine wC (wFa hF (b := pb) (i := po) (by rw [eTm, gQ]) ?_)
  refine wC (wp_load hT (by rw [eTm, gQ]) (hst.cell hB hcell) ?_)
  refine wC (wAs (v := cv) (by rw [eTm, gQ]) ?_)
  rw [wNi]
  refine hK1 _ w (tUp ?_)
  exact h Q _ w v xs (by simp only [sPu]; exact hN) (by simp only [dPu]; exact hd) (Ctx.on_cons (Ctx.on_put (Ctx.on_put (Ctx.on_put (Ctx.on_put (Ctx.on_put hc b1 (.inl (by omega))) b1 (.inl (by omega))) b1 (.inl (by omega))) b1 (.inl (by omega))) b1 (.inr (by simp))) (gQ))
    (by rw [gPn b5, gR, gR, gR, gR]; exact hv) hst hbd hK
def ApSR (P : Program) (N R : Nat) (e : AE) (c : Ctx) (k : Code) (pb o : Nat) (tys : List Ty) (gs : List (V → List UInt8)) : Prop :=
  ∀ xs, (∃ z, e.w0.rangeAt pb o z ∧ Reps e.w0 e.B tys z xs) → ApR P N R e c k (apAll gs xs)
theorem ApSR.cons {ty : Ty} {tys : List Ty} {g : V → List UInt8} {gs : List (V → List UInt8)} {o' : Nat} (ho : o' = o + ty.size) (h1 : ∀ x, FA e pb o ty x → ApC P N e c k1 (g x)) (h2 : ApSR P N R e c k2 pb o' tys gs) : ApSR P N R e c (.seq k1 k2) pb o (ty :: tys) (g :: gs) := by
  rintro xs ⟨z, hz1, d1, d2, x, r, rfl, rfl, hr1, hr2⟩
  rw [range_append] at hz1
  subst ho
  exact ApR.seq (h1 x ⟨d1, hz1.1, hr1⟩) (h2 r ⟨d2, by rw [← hr1.length]; exact hz1.2, hr2⟩)
theorem ApSR.nil (h : ApR P N R e c k []) : ApSR P N R e c k pb o [] [] := by
  rintro xs _; exact h
end
structure AppM (P : Program) (f : FuncId) (ty : Ty) (g : V → List UInt8) (ver : Int) : Prop where
  enters : Enters P f
  call : ∀ (w : World) (A B : Nat → Prop) (pb po : Nat) (cs : List Value) (xs0 : List V) (dst : Value) (xs : List UInt8), w.rangeAt pb po cs → Rep w B ty cs (.l (.n ver :: xs0)) → B pb → Own w A 1 dst xs.length (octets xs) →
    (∀ b, A b → ¬ B b) → (∀ b, B b → b < w.heap.size) → (∀ b, A b → b < w.heap.size) → (xs ++ g (.l (.n ver :: xs0))).length < 4294967296 →
    Calls P f #[.pointer (some ⟨pb, po, none⟩), dst] w (Apd w A dst (xs ++ g (.l (.n ver :: xs0))))
end Go.Kq

namespace Go.Kq
open Go Go.Proofs
def uvGo : Nat → List UInt8 → Option (Nat × Nat)
  | 0, _ => none
  | _ + 1, [] => none
  | 1, c :: _ => if c.toNat ≤ 15 then some (c.toNat, 1) else none
  | k + 2, c :: r => if c.toNat < 128 then some (c.toNat, 1) else
      match uvGo (k + 1) r with
      | none => none
      | some (x, n) => some (c.toNat % 128 + 128 * x, n + 1)
def uv (l : List UInt8) : Option (Nat × Nat) := uvGo 5 l
end Go.Kq

namespace Go.Kq
open Go
structure TagsOk (l : List (Nat × List UInt8)) : Prop where
  rise : l.Pairwise fun a b => a.1 < b.1
  key : ∀ p ∈ l, p.1 < 4294967296
  few : ∀ p ∈ l, p.2.length ≤ 32767
  len : l.length < 4294967296
theorem insAt_spec {out : List (Nat × List UInt8)} {k : Nat} (h : out.Pairwise fun a b => a.1 < b.1) : (∀ p ∈ out.take (insAt out k), p.1 < k) ∧ (∀ p ∈ out.drop (insAt out k), k ≤ p.1) := by
  induction out with
  | nil => simp [insAt]
  | cons q out ih =>
    have h1 := List.pairwise_cons.1 h
    by_cases hq : q.1 < k
    · have e : insAt (q :: out) k = insAt out k + 1 := by simp [insAt, List.takeWhile_cons, hq]
      rw [e]
      obtain ⟨i1, i2⟩ := ih h1.2
      exact ⟨by intro p hp; rcases List.mem_cons.1 (by simpa using hp) with rfl | hp; exact hq; exact i1 p hp, by simpa using i2⟩
    · have e : insAt (q :: out) k = 0 := by simp [insAt, List.takeWhile_cons, hq]
      rw [e]
      refine ⟨by simp, ?_⟩
      intro p hp
      rcases List.mem_cons.1 (by simpa using hp) with rfl | hp
      · omega
      · have := h1.1 p hp; omega
theorem insTag_rise {least : Nat} {out : List (Nat × List UInt8)} {t : Nat × List UInt8} (h : out.Pairwise fun a b => a.1 < b.1) : (insTag least out t).Pairwise fun a b => a.1 < b.1 := by
  unfold insTag
  split
  · exact h
  · split
    · exact h
    · rename_i hne
      obtain ⟨i1, i2⟩ := insAt_spec (k := t.1) h
      have hd : ∀ p ∈ out.drop (insAt out t.1), t.1 < p.1 := by
        intro p hp
        have h2 := i2 p hp
        rcases Nat.lt_or_ge t.1 p.1 with h3 | h3
        · exact h3
        · exfalso
          have hpe : p.1 = t.1 := by omega
          cases hdr : out.drop (insAt out t.1) with
          | nil => rw [hdr] at hp; simp at hp
          | cons q r =>
            have hq : out[insAt out t.1]? = some q := by
              have := congrArg (fun l => l[0]?) hdr
              simpa using this
            have hpw := List.Pairwise.sublist (List.drop_sublist (insAt out t.1) out) h
            rw [hdr] at hpw hp
            have hq2 := i2 q (by rw [hdr]; simp)
            rcases List.mem_cons.1 hp with rfl | hp
            · exact hne (by rw [hq]; simp [hpe])
            · have := (List.pairwise_cons.1 hpw).1 p hp; omega
      rw [List.pairwise_append]
      refine ⟨h.sublist (List.take_sublist _ _), List.pairwise_cons.2 ⟨hd, h.sublist (List.drop_sublist _ _)⟩, ?_⟩
      intro a ha b hb
      have h1 := i1 a ha
      rcases List.mem_cons.1 hb with rfl | hb
      · exact h1
      · have := hd b hb; omega
theorem insTag_mem {least : Nat} {out : List (Nat × List UInt8)} {t p : Nat × List UInt8} (h : p ∈ insTag least out t) : p ∈ out ∨ p = t := by
  unfold insTag at h
  split at h
  · exact .inl h
  · split at h
    · exact .inl h
    · rcases List.mem_append.1 h with h | h
      · exact .inl (List.mem_of_mem_take h)
      · rcases List.mem_cons.1 h with rfl | h
        · exact .inr rfl
        · exact .inl (List.mem_of_mem_drop h)
theorem foldl_ins {least : Nat} : ∀ (u out : List (Nat × List UInt8)), out.Pairwise (fun a b => a.1 < b.1) → (u.foldl (insTag least) out).Pairwise (fun a b => a.1 < b.1) ∧ (∀ p ∈ u.foldl (insTag least) out, p ∈ out ∨ p ∈ u) ∧ (u.foldl (insTag least) out).length ≤ out.length + u.length
  | [], out, h => ⟨h, fun p hp => .inl hp, by simp⟩
  | t :: u, out, h => by
    obtain ⟨h1, h2, h3⟩ := foldl_ins u (insTag least out t) (insTag_rise h)
    refine ⟨h1, fun p hp => ?_, ?_⟩
    · rcases h2 p hp with h | h
      · rcases insTag_mem h with h | h
        · exact .inl h
        · exact .inr (by simp [h])
      · exact .inr (by simp [h])
    · have := insTag_len least out t
      simp only [List.foldl_cons, List.length_cons]; omega
theorem unks_ok {fs : List Fd} {t : T} (hk : ∀ p ∈ t.u, p.1 < 4294967296) : TagsOk (unksW fs t) := by
  obtain ⟨h1, h2, h3⟩ := foldl_ins (least := knownW fs) (t.u.take 32767) [] (by simp)
  refine ⟨?_, ?_, ?_, ?_⟩
  · exact List.pairwise_map.2 h1
  · intro p hp
    obtain ⟨q, hq, rfl⟩ := List.mem_map.1 hp
    rcases h2 q hq with h | h
    · simp at h
    · exact hk q (List.mem_of_mem_take h)
  · intro p hp
    obtain ⟨q, hq, rfl⟩ := List.mem_map.1 hp
    simp [wholeS]; omega
  · unfold unksW unknownW
    rw [List.length_map]
    simp at h3
    omega
end Go.Kq

namespace Go.Kq
open Go
def bodyL : List Fd → Int → Bool → List T → Nat → List UInt8
  | [], _, _, _, _ => []
  | f :: fs, ver, flex, ts, i => (if f.has ver then fieldW f ver flex (atT ts i) else []) ++ bodyL fs ver flex ts (i + 1)
theorem bodyW_eq : ∀ (fs : List Fd) (ver : Int) (flex : Bool) (ts : List T) (j : Nat), (∀ f ∈ fs, f.tag < 0) → bodyW fs ver (fieldsW fs ver flex ts j) fs.length = bodyL fs ver flex ts j
  | [], _, _, _, _, _ => rfl
  | f :: fs, ver, flex, ts, j, h => by
    have ih := bodyW_eq fs ver flex ts (j + 1) fun g hg => h g (by simp [hg])
    have hf := h f (by simp)
    rw [bodyL, ← ih, bodyW, List.length_cons, List.range_succ_eq_map, List.flatMap_cons, List.flatMap_map, fieldsW]
    simp [bodyW, hf]
theorem partW_flat {fs : List Fd} {ver : Int} {flex : Bool} {t : T} (h : ∀ f ∈ fs, f.tag < 0) : partW fs ver flex t = bodyL fs ver flex t.l 0 ++ (if flex then uvW (unksW fs t).length ++ tagsW (unksW fs t) else []) := by
  have hk : knownsW fs t (fieldsW fs ver flex t.l 0) = [] := by simp [knownsW, knownW_free h]
  have hp : ∀ l : List (Nat × List UInt8), l.flatMap pairW = tagsW l := fun l => by
    simp only [tagsW, List.flatMap]; congr 1
  rw [partW, joinW, hk, bodyW_eq _ _ _ _ _ h]
  cases flex <;> simp [hp]
section
variable {ver : Int} {flex : Bool} {t : T} {nul of : Int} {sub : T → List UInt8}
theorem fieldV_i32 : fieldV 3 nul of sub ver flex t = fxW t.n 4 := by simp [fieldV, valueW, widthW]
theorem nullW_no (h : nul < 0) : nullW nul ver t = false := by
  have : ¬ nul ≥ 0 := by omega
  simp [nullW, this]
theorem fieldV_str (h : nullW nul ver t = false) : fieldV 8 nul of sub ver flex t = if flex then uvW ((wholeS t.s).length + 1) ++ wholeS t.s else fxW (wholeS t.s).length 2 ++ wholeS t.s := by
  cases flex <;> simp [fieldV, valueW, countedW, h]
end
end Go.Kq

namespace Go.Kq
open Go
theorem uvW_le5 {n : Nat} (h : n < 4294967296) : (uvW n).length ≤ 5 := uvW_le 5 n (by omega) (by simp only [Nat.reducePow]; omega)
mutual
/-- So many octets a piece. -/
def kF : Fd → Nat
  | .mk _ _ _ _ _ _ _ sub => kFs sub + 40
def kFs : List Fd → Nat
  | [] => 0
  | f :: fs => kF f + kFs fs
end
mutual
/-- No field is a tag. -/
def freeF : Fd → Bool
  | .mk _ _ _ _ tag _ _ sub => decide (tag < 0) && freeFs sub
def freeFs : List Fd → Bool
  | [] => true
  | f :: fs => freeF f && freeFs fs
end
theorem freeFs_tag : ∀ {fs : List Fd}, freeFs fs = true → ∀ f ∈ fs, f.tag < 0
  | [], _, _, h => by simp at h
  | g :: fs, h, f, hf => by
    rw [freeFs, Bool.and_eq_true] at h
    rcases List.mem_cons.1 hf with rfl | hf
    · cases f; simp [freeF] at h; exact h.1.1
    · exact freeFs_tag h.2 f hf
theorem tw_pos (t : T) : 1 ≤ tw t := by cases t; rw [tw]; omega
theorem tw_eq (t : T) : tw t = 1 + t.s.length + tws t.l + tagWt t.u := by cases t; rw [tw]; rfl
theorem KeysOk.u {t : T} (h : KeysOk t) : ∀ p ∈ t.u, p.1 < 4294967296 := by cases h; assumption
theorem KeysOk.l {t : T} (h : KeysOk t) : ∀ y ∈ t.l, KeysOk y := by cases h; assumption
theorem KeysOk.zero : KeysOk .zero := .mk (by simp) (by simp)
theorem KeysOk.at {l : List T} (h : ∀ y ∈ l, KeysOk y) (i : Nat) : KeysOk (atT l i) := by
  unfold atT
  cases hi : l[i]? with
  | none => exact .zero
  | some y => exact h y (List.mem_of_getElem? hi)
theorem counted_le {flex null : Bool} {n size : Nat} (h : n ≤ 32767) (hs : size ≤ 4) : (countedW flex null n size).length ≤ 5 := by
  unfold countedW
  have := uvW_le5 (n := n + 1) (by omega)
  split
  · simp
  · split
    · omega
    · split <;> simp only [fxL] <;> omega
theorem value_le {kind : Int} {sub : T → List UInt8} {null flex : Bool} {t : T} {S : Nat} (hS : (sub t).length ≤ S * tw t) : (valueW kind sub null flex t).length ≤ (S + 19) * tw t := by
  have h1 := tw_pos t
  have h2 := tw_eq t
  rw [Nat.add_mul]
  have h3 : (if null then [] else wholeS t.s).length ≤ t.s.length := by cases null <;> simp [wholeS]; omega
  have h4 : (if null then [] else wholeS t.s).length ≤ 32767 := by cases null <;> simp [wholeS]; omega
  unfold valueW
  split
  · simp; omega
  · split
    · simp only [uuidW, List.length_append, List.length_take, List.length_replicate]; omega
    · split
      · rw [List.length_append]; have := counted_le (flex := flex) (null := null) (size := 2) h4 (by omega); omega
      · split
        · rw [List.length_append]; have := counted_le (flex := flex) (null := null) (size := 4) h4 (by omega); omega
        · split
          · omega
          · have : widthW kind ≤ 8 := by unfold widthW; repeat' split <;> try omega
            rw [fxL]; omega
theorem tws_take (l : List T) (n : Nat) : ((l.take n).map tw).sum ≤ tws l := by
  rw [tws_sum]
  induction l generalizing n with
  | nil => simp
  | cons y l ih =>
    cases n with
    | zero => simp
    | succ n => have := ih n; simp only [List.take_succ_cons, List.map_cons, List.sum_cons]; omega
theorem flat_le {f : T → List UInt8} {S : Nat} : ∀ {l : List T}, (∀ y ∈ l, (f y).length ≤ S * tw y) → (l.flatMap f).length ≤ S * (l.map tw).sum
  | [], _ => by simp
  | y :: l, h => by
    have h1 := h y (by simp)
    have h2 := flat_le (f := f) (S := S) (l := l) fun z hz => h z (by simp [hz])
    simp only [List.flatMap_cons, List.length_append, List.map_cons, List.sum_cons, Nat.mul_add]; omega
theorem fieldV_le {kind nul of : Int} {sub : T → List UInt8} {ver : Int} {flex : Bool} {t : T} {S : Nat} (hk : KeysOk t) (hS : ∀ y, KeysOk y → (sub y).length ≤ S * tw y) : (fieldV kind nul of sub ver flex t).length ≤ (S + 20) * tw t := by
  have h1 := tw_pos t
  have h2 := tw_eq t
  unfold fieldV
  split
  · rw [List.length_append]
    have h3 : (thingsW (nullW nul ver t) t).length ≤ 32767 := by unfold thingsW; split <;> simp; omega
    have h4 := counted_le (flex := flex) (null := nullW nul ver t) (size := 4) h3 (by omega)
    have h5 : ((thingsW (nullW nul ver t) t).flatMap (valueW of sub false flex)).length ≤ (S + 19) * ((thingsW (nullW nul ver t) t).map tw).sum := by
      refine flat_le fun y hy => value_le (hS y ?_)
      unfold thingsW at hy
      split at hy
      · simp at hy
      · exact hk.l y (List.mem_of_mem_take hy)
    have h6 : ((thingsW (nullW nul ver t) t).map tw).sum ≤ tws t.l := by
      unfold thingsW
      split
      · simp
      · exact tws_take _ _
    have h7 := Nat.mul_le_mul_left (S + 19) (show ((thingsW (nullW nul ver t) t).map tw).sum ≤ tw t - 1 by omega)
    have h8 : (S + 20) * tw t = (S + 20) * (tw t - 1) + (S + 20) := by
      conv => lhs; rw [show tw t = (tw t - 1) + 1 from by omega, Nat.mul_succ]
    have h9 : (S + 20) * (tw t - 1) = (S + 19) * (tw t - 1) + (tw t - 1) := by rw [Nat.succ_mul (S + 19)]
    omega
  · split
    · have := hS t hk
      rw [Nat.add_mul]
      split
      · simp; omega
      · simp only [List.length_cons]; omega
    · have := value_le (kind := kind) (null := nullW nul ver t) (flex := flex) (hS t hk)
      rw [Nat.add_mul] at this ⊢
      omega
theorem tagWt_app (a b : List (Nat × List UInt8)) : tagWt (a ++ b) = tagWt a + tagWt b := by simp [tagWt]
theorem tagWt_ins (least : Nat) (out : List (Nat × List UInt8)) (t : Nat × List UInt8) : tagWt (insTag least out t) ≤ tagWt out + (t.2.length + 1) := by
  unfold insTag
  split
  · omega
  · split
    · omega
    · have h1 : tagWt out = tagWt (out.take (insAt out t.1)) + tagWt (out.drop (insAt out t.1)) := by rw [← tagWt_app, List.take_append_drop]
      rw [tagWt_app]
      have h2 : tagWt (t :: out.drop (insAt out t.1)) = t.2.length + 1 + tagWt (out.drop (insAt out t.1)) := by simp [tagWt]
      omega
theorem tagWt_foldl (least : Nat) : ∀ (u out : List (Nat × List UInt8)), tagWt (u.foldl (insTag least) out) ≤ tagWt out + tagWt u
  | [], out => by simp
  | t :: u, out => by
    have h1 := tagWt_ins least out t
    have h2 := tagWt_foldl least u (insTag least out t)
    have h3 : tagWt (t :: u) = t.2.length + 1 + tagWt u := by simp [tagWt]
    rw [List.foldl_cons]; omega
theorem tagWt_take : ∀ (u : List (Nat × List UInt8)) (n : Nat), tagWt (u.take n) ≤ tagWt u
  | [], n => by simp
  | p :: u, 0 => by simp [tagWt]
  | p :: u, n + 1 => by have := tagWt_take u n; simp [tagWt] at this ⊢; omega
theorem tagWt_whole : ∀ u : List (Nat × List UInt8), tagWt (u.map fun p => (p.1, wholeS p.2)) ≤ tagWt u
  | [] => by simp
  | p :: u => by
    have := tagWt_whole u
    simp [tagWt, wholeS] at this ⊢; omega
theorem unksW_wt {fs : List Fd} {t : T} : tagWt (unksW fs t) ≤ tagWt t.u := by
  unfold unksW unknownW
  have h1 := tagWt_whole ((t.u.take 32767).foldl (insTag (knownW fs)) [])
  have h2 := tagWt_foldl (knownW fs) (t.u.take 32767) []
  have h3 := tagWt_take t.u 32767
  have h4 : tagWt [] = 0 := rfl
  omega
theorem tagsW_le : ∀ {l : List (Nat × List UInt8)}, (∀ p ∈ l, p.1 < 4294967296 ∧ p.2.length ≤ 32767) → (tagsW l).length ≤ 10 * tagWt l
  | [], _ => by simp [tagsW]
  | p :: l, h => by
    have h1 := tagsW_le (l := l) fun q hq => h q (by simp [hq])
    obtain ⟨h2, h3⟩ := h p (by simp)
    have h4 := uvW_le5 h2
    have h5 := uvW_le5 (n := p.2.length) (by omega)
    simp [tagsW, tagW, tagWt] at h1 ⊢
    omega
theorem bodyL_le {ver : Int} {flex : Bool} : ∀ {fs : List Fd} {ts : List T} {i : Nat}, (∀ f ∈ fs, ∀ y, KeysOk y → (fieldW f ver flex y).length ≤ kF f * tw y) → (∀ y ∈ ts, KeysOk y) → (bodyL fs ver flex ts i).length ≤ kFs fs * (1 + tws (ts.drop i))
  | [], ts, i, _, _ => by simp [bodyL]
  | f :: fs, ts, i, h, hk => by
    have h1 := bodyL_le (fs := fs) (ts := ts) (i := i + 1) (fun g hg => h g (by simp [hg])) hk
    have h2 : (if f.has ver then fieldW f ver flex (atT ts i) else []).length ≤ kF f * tw (atT ts i) := by
      split
      · exact h f (by simp) _ (KeysOk.at hk i)
      · simp
    have h3 : tw (atT ts i) + tws (ts.drop (i + 1)) ≤ 1 + tws (ts.drop i) := by
      unfold atT
      cases hi : ts[i]? with
      | none =>
        have : ts.length ≤ i := by simpa using hi
        rw [List.drop_of_length_le this, List.drop_of_length_le (by omega)]
        have e : tw T.zero = 1 := rfl
        simp only [Option.getD_none]; rw [e]; omega
      | some y =>
        obtain ⟨hl, rfl⟩ := List.getElem?_eq_some_iff.1 hi
        rw [List.drop_eq_getElem_cons hl, tws]
        simp only [Option.getD_some]; omega
    have h4 : kF f * tw (atT ts i) ≤ kF f * (1 + tws (ts.drop i)) := Nat.mul_le_mul_left _ (by omega)
    have h5 : kFs fs * (1 + tws (ts.drop (i + 1))) ≤ kFs fs * (1 + tws (ts.drop i)) := Nat.mul_le_mul_left _ (by have := tw_pos (atT ts i); omega)
    rw [bodyL, List.length_append, kFs, Nat.add_mul]; omega
theorem part_of_fields {fs : List Fd} {ver : Int} {flex : Bool} {t : T} (hf : freeFs fs = true) (hk : KeysOk t) (h : ∀ f ∈ fs, ∀ y, KeysOk y → (fieldW f ver flex y).length ≤ kF f * tw y) : (partW fs ver flex t).length ≤ (kFs fs + 20) * tw t := by
  rw [partW_flat (freeFs_tag hf), List.length_append]
  have h1 := bodyL_le (i := 0) h hk.l
  have h2 := tw_eq t
  have hu := unks_ok (fs := fs) hk.u
  have h3 : (if flex then uvW (unksW fs t).length ++ tagsW (unksW fs t) else []).length ≤ 5 + 10 * tagWt t.u := by
    split
    · have := uvW_le5 hu.len
      have := tagsW_le (l := unksW fs t) fun p hp => ⟨hu.key p hp, hu.few p hp⟩
      have := unksW_wt (fs := fs) (t := t)
      rw [List.length_append]; omega
    · simp
  rw [List.drop_zero] at h1
  have h4 : kFs fs * (1 + tws t.l) ≤ kFs fs * tw t := Nat.mul_le_mul_left _ (by omega)
  rw [Nat.add_mul]; omega
mutual
theorem fieldW_le : ∀ (f : Fd), freeF f = true → ∀ (ver : Int) (flex : Bool) (t : T), KeysOk t → (fieldW f ver flex t).length ≤ kF f * tw t
  | .mk kind fr to nul tag df of sub, h, ver, flex, t, hk => by
    rw [freeF, Bool.and_eq_true] at h
    rw [fieldW_eq, kF]
    exact fieldV_le (S := kFs sub + 20) hk fun y hy => part_of_fields h.2 hy (fieldsW_le sub h.2 ver flex)
theorem fieldsW_le : ∀ (fs : List Fd), freeFs fs = true → ∀ (ver : Int) (flex : Bool), ∀ f ∈ fs, ∀ y, KeysOk y → (fieldW f ver flex y).length ≤ kF f * tw y
  | [], _, _, _, f, hf => by simp at hf
  | g :: fs, h, ver, flex, f, hf => by
    rw [freeFs, Bool.and_eq_true] at h
    intro y hy
    by_cases e : f = g
    · rw [e]; exact fieldW_le g h.1 ver flex y hy
    · exact fieldsW_le fs h.2 ver flex f (by rcases List.mem_cons.1 hf with hf | hf; exact absurd hf e; exact hf) y hy
end
theorem partW_le {fs : List Fd} (hf : freeFs fs = true) {ver : Int} {flex : Bool} {t : T} (hk : KeysOk t) : (partW fs ver flex t).length ≤ (kFs fs + 20) * tw t := part_of_fields hf hk (fieldsW_le fs hf ver flex)
theorem small_of {fs : List Fd} {t : T} (hf : freeFs fs = true) (hk : KeysOk t) (hw : tw t ≤ 1048576) (hK : kFs fs + 20 ≤ 2048) : KeysOk t ∧ ∀ ver flex, (partW fs ver flex t).length ≤ 2147483648 := by
  refine ⟨hk, fun ver flex => ?_⟩
  have h1 := partW_le hf hk (ver := ver) (flex := flex)
  have h2 := Nat.mul_le_mul hK hw
  omega
end Go.Kq

namespace Go.Kq
open Go Go.Proofs
structure Leaf (P : Program) (f : FuncId) (ty : Ty) (g : V → List UInt8) : Prop where
  one : ty.size = 1
  call : ∀ (e : AE) (cv : Value) (x : V), Rep e.w0 e.B ty [cv] x → CallOk P e f cv (g x)
theorem Leaf.int {P : Program} {f : FuncId} {kd : IntKind} {sz : Nat} (h : ApI P f kd sz) : Leaf P f (.int kd) (apInt sz) :=
  ⟨rfl, fun e cv x hr => by obtain ⟨i, hi, rfl, h1, h2⟩ := hr; simp at hi; subst hi; exact CallOk.int h h1 h2⟩
theorem Leaf.str {P : Program} {f : FuncId} {g : V → List UInt8} (h : ApV P f .str g) : Leaf P f .str g := ⟨rfl, fun _ _ _ hr => CallOk.val h hr⟩
section
variable {P : Program} {N n n2 n3 n4 m s L R id id1 id2 id3 id4 b0 b1 pb po fi o : Nat} {e : AE} {c : Ctx} {k k1 k2 : Code} {ty : Ty} {g g1 g2 : V → List UInt8} {S T : TypeId}
  {t0 t1 t2 t3 t4 t5 t6 t7 t8 t9 : TypeId} {p0 p1 p2 p3 p4 p5 p6 p7 p8 p9 : String} {e0 e1 e2 e3 e4 e5 e6 e7 e8 e9 : Array Edge}
theorem af_load (hs : (s, Value.pointer (some ⟨pb, po, none⟩)) ∈ c) (hF : fieldOf P S fi o = true) (hT : scal P T = true) (hB : e.B pb) (h1 : ty.size = 1)
    (hb : (c.free n [L, 1] && decide (L < n) && decide (1 < n) && decide (n + 3 < N) && decide (L ≠ 1)) = true) (h : ∀ cv x, Rep e.w0 e.B ty [cv] x → ApC P N e ((L, cv) :: c) k (g x)) {x : V} (hx : FA e pb (po + o) ty x) :
    ApC P N e c (.seq (Code.region id ⟨[⟨some n, .move (.tmp s), t0, p0, e0, none⟩, ⟨some (n + 1), .nilCheck (.tmp n), t1, p1, e1, none⟩, ⟨some (n + 2), .fieldAddr S (.tmp (n + 1)) fi, t2, p2, e2, none⟩, ⟨some (n + 3), .load T (.tmp (n + 2)), t3, p3, e3, none⟩,
      ⟨some L, .assign (.tmp (n + 3)), t4, p4, e4, none⟩]⟩ false) k) (g x) := by
  obtain ⟨cv, hc, hr⟩ := hx.one h1
  exact ApC.load hs hF hT hc hB hb (h cv x hr)
theorem ak_call {cv : Value} {x : V} {f : FuncId} {ats : Array TypeId} (hf : Leaf P f ty g) (hr : Rep e.w0 e.B ty [cv] x) (hL : (L, cv) ∈ c) (hb : (c.free n [1] && decide (1 < n) && decide (n + 2 < N)) = true) :
    ApC P N e c (Code.region id ⟨[⟨some n, .move (.tmp 1), t0, p0, e0, none⟩, ⟨some (n + 1), .move (.tmp L), t1, p1, e1, none⟩, ⟨some (n + 2), .call ⟨.value (.func f), #[.tmp n, .tmp (n + 1)], ats⟩, t2, p2, e2, none⟩, ⟨some 1, .assign (.tmp (n + 2)), t3, p3, e3, none⟩]⟩ false) (g x) :=
  ApC.call hL (hf.call e cv x hr) hb
end
end Go.Kq

namespace Go.Kq
open Go
section
variable {ver : Int} {fl : Bool} {y t : T} {fr to nul tag df of : Int} {sub : List Fd}
theorem has_all {kind : Int} (hv : 0 ≤ ver) (h1 : fr ≤ 0) (h2 : to < 0) : Fd.has (.mk kind fr to nul tag df of sub) ver = true := by
  show (decide (fr ≤ ver) && (decide (to < 0) || decide (ver ≤ to))) = true
  simp only [Bool.and_eq_true, Bool.or_eq_true, decide_eq_true_eq]; omega
end
end Go.Kq

namespace Go.Kq
open Go Go.Proofs
def okN : Nat → List Fd → Bool
  | 0, fs => fs.all fun fd => decide (fd.tag < 4294967295) && decide (fd.kind ≠ 10) && decide (fd.kind ≠ 11)
  | k + 1, fs => fs.all fun fd => decide (fd.tag < 4294967295) && decide (fd.kind = 11 → fd.of ≠ 11) && okN k fd.sub
end Go.Kq

namespace Go.Kq
open Go Go.Proofs
def fitN : Nat → Fd → Int → T → T
  | 0, fd => fitK (fun _ t => t) (fun _ t => t) fd
  | k + 1, fd => fitK (fun ver t => .mk 0 [] false (fitL (fitN k) fd.sub ver t.l 0) (unksW fd.sub t)) (fitK (fun ver t => .mk 0 [] false (fitL (fitN k) fd.sub ver t.l 0) (unksW fd.sub t)) (fun _ t => t) (oneF fd)) fd
def fitT (k : Nat) (fs : List Fd) (ver : Int) (t : T) : T := .mk 0 [] false (fitL (fitN k) fs ver t.l 0) (unksW fs t)
theorem fit_all {P : Program} {fT ff : FuncId} (hF : ∀ (fd : Fd) (gS gO : Int → T → T), (fd.kind = 10 → FitTM P fT fd.sub gS) → (fd.kind = 11 → FitFM P ff (oneF fd) gO) → FitFM P ff fd (fitK gS gO fd))
    (hT : ∀ (fs : List Fd) (g : Fd → Int → T → T), (∀ f ∈ fs, f.tag < 4294967295) → (∀ fd ∈ fs, FitFM P ff fd (g fd)) → FitTM P fT fs (fun ver t => .mk 0 [] false (fitL g fs ver t.l 0) (unksW fs t))) :
    ∀ (k : Nat) (fs : List Fd), okN k fs = true → FitTM P fT fs (fitT k fs)
  | 0, fs, h => by
    have h' : ∀ fd ∈ fs, fd.tag < 4294967295 ∧ fd.kind ≠ 10 ∧ fd.kind ≠ 11 := by
      intro fd hfd
      have := List.all_eq_true.1 h fd hfd
      simp only [Bool.and_eq_true, decide_eq_true_eq] at this
      exact ⟨this.1.1, this.1.2, this.2⟩
    exact hT fs _ (fun fd hfd => (h' fd hfd).1) fun fd hfd => hF fd _ _ (fun h => absurd h (h' fd hfd).2.1) (fun h => absurd h (h' fd hfd).2.2)
  | k + 1, fs, h => by
    have h' : ∀ fd ∈ fs, fd.tag < 4294967295 ∧ (fd.kind = 11 → fd.of ≠ 11) ∧ okN k fd.sub = true := by
      intro fd hfd
      have := List.all_eq_true.1 h fd hfd
      simp only [Bool.and_eq_true, decide_eq_true_eq] at this
      exact ⟨this.1.1, this.1.2, this.2⟩
    refine hT fs _ (fun fd hfd => (h' fd hfd).1) fun fd hfd => ?_
    obtain ⟨_, h2, h3⟩ := h' fd hfd
    have ih := fit_all hF hT k fd.sub h3
    exact hF fd _ _ (fun _ => ih) fun h11 => hF (oneF fd) _ _ (fun _ => ih) (fun h => absurd h (h2 h11))
end Go.Kq

namespace Go.Kq
open Go Go.Proofs
structure FSt (N sv sb pb tb : Nat) (ct : List Value) (t : T) (tys : List Ty) (a : Act) (w : World) (xs : List V) : Prop where
  sz : a.tmps.size = N
  df : a.defers = []
  gv : get a sv = .pointer (some ⟨pb, 0, none⟩)
  gb : get a sb = .pointer (some ⟨tb, 0, none⟩)
  tr : w.rangeAt tb 0 ct
  rt : RepT w (fun b => b < pb) ct t
  pt : pb < tb
  cs : ∃ z, w.rangeAt pb 0 z ∧ w.there pb 0 z.length ∧ Reps w (fun b => b ≠ pb ∧ b < w.heap.size) tys z xs
def FRun (P : Program) (N sv sb : Nat) (c : Code) (tys : List Ty) (R : T → List V → List V → Prop) : Prop :=
  ∀ (pb tb : Nat) (ct : List Value) (t : T) (K : Act → World → Prop) (Q : Exit → Act → World → Prop) (a : Act) (w : World) (xs : List V), FSt N sv sb pb tb ct t tys a w xs →
    (∀ a' w' xs', R t xs xs' → FSt N sv sb pb tb ct t tys a' w' xs' → Fr [⟨pb, 0, Ty.sizes tys⟩] w w' → K a' w') → c.wp P (Exit.then K Q) a w
theorem FRun.seq {P : Program} {N sv sb : Nat} {c c' : Code} {tys : List Ty} {R R' : T → List V → List V → Prop} (h : FRun P N sv sb c tys R) (h' : FRun P N sv sb c' tys R') : FRun P N sv sb (.seq c c') tys (fun t xs ys => ∃ zs, R t xs zs ∧ R' t zs ys) := by
  intro pb tb ct t K Q a w xs hs hK
  refine wp_seq_k fun K1 hK1 => ?_
  refine h pb tb ct t K1 _ a w xs hs fun a1 w1 zs r1 s1 f1 => hK1 a1 w1 ?_
  exact h' pb tb ct t K Q a1 w1 _ s1 fun a2 w2 ys r2 s2 f2 => hK a2 w2 ys ⟨zs, r1, r2⟩ s2 (f1.tr f2)
def MidOk (P : Program) (N n r : Nat) (mid : List Oper) (ty : Ty) (g : T → V) : Prop :=
  ∀ (pb : Nat) (Q : Exit → Act → World → Prop) (a : Act) (w : World) (cs : List Value) (x : T) (rest : List Oper), a.tmps.size = N → get a (n + 2) = .agg cs.toArray → RepT w (fun b => b < pb) cs x → pb < w.heap.size →
    (∀ a' w' v, Kept (n + 3) a a' → get a' r = v → v.oneCell' = true → Fr [] w w' → Rep w' (fun b => b ≠ pb ∧ b < w'.heap.size) ty [v] (g x) → wpl P Q rest a' w') → wpl P Q (mid ++ rest) a w
theorem repT_n {w : World} {A : Nat → Prop} {cs : List Value} {t : T} (h : RepT w A cs t) : cs[0]? = some (.int .i64 t.n) ∧ -9223372036854775808 ≤ t.n ∧ t.n ≤ 9223372036854775807 := by
  cases t with
  | mk n s nl l u => obtain ⟨_, _, _, rfl, h, _⟩ := repT_iff.1 h; exact ⟨rfl, h⟩
theorem wrap_le (k : IntKind) (i : Int) (h : fits64 k = true) : k.min ≤ k.wrap i ∧ k.wrap i ≤ k.max := by
  cases k <;> simp [fits64, IntKind.min, IntKind.max, IntKind.wrap, IntKind.signed, IntKind.bits] at h ⊢ <;> (try split) <;> omega
theorem unguarded_app : ∀ {l l' : List Oper}, unguarded l = true → unguarded l' = true → unguarded (l ++ l') = true
  | [], _, _, h => h
  | o :: os, l', h, h' => by
    simp only [unguarded, Bool.and_eq_true, List.cons_append] at h ⊢
    exact ⟨h.1, unguarded_app h.2 h'⟩
theorem fr_gen {P : Program} {N sv sb n r i j k q idr : Nat} {TT S TK : TypeId} {fat : FuncId} {mid : List Oper} {ty : Ty} {tys : List Ty} {g : T → V} {ats : Array TypeId} {o : Nat}
    {t0 t1 t2 t3 t4 t5 : TypeId} {p0 p1 p2 p3 p4 p5 : String} {e0 e1 e2 e3 e4 e5 : Array Edge}
    (hm : MidOk P N n r mid ty g) (hu : unguarded mid = true) (hT : Flat P TT zT) (hAt : AtM P fat) (hF : fieldOf P S k o = true) (hs : scal P TK = true) (hj : tys[j]? = some ty) (h1 : ty.size = 1) (ho : o = Ty.sizes (tys.take j)) (hq : q = n + 3 + mid.length)
    (hb : (decide (sv < n) && decide (sb < n) && decide (n + 2 < r + 1) && decide (r < q) && decide (q + 1 < N)) = true) :
    FRun P N sv sb (Code.region idr ⟨[⟨some n, .move (.tmp sv), t0, p0, e0, none⟩, ⟨some (n + 1), .load TT (.tmp sb), t1, p1, e1, none⟩, ⟨some (n + 2), .call ⟨.value (.func fat), #[.tmp (n + 1), .const (.int .i64 i)], ats⟩, t2, p2, e2, none⟩] ++ (mid ++
      [⟨some q, .nilCheck (.tmp n), t3, p3, e3, none⟩, ⟨some (q + 1), .fieldAddr S (.tmp q) k, t4, p4, e4, none⟩, ⟨none, .store TK (.tmp (q + 1)) (.tmp r), t5, p5, e5, none⟩])⟩ false) tys (fun t xs ys => ys = xs.set j (g (atT t.l i))) := by
  intro pb tb ct t K Q a w xs st hK
  simp only [Bool.and_eq_true, decide_eq_true_eq] at hb
  obtain ⟨⟨⟨⟨b1, b2⟩, b3⟩, b4⟩, b5⟩ := hb
  have hN := st.sz
  obtain ⟨z, hz, hth, hrep⟩ := st.cs
  have hlt := hrep.setLt hj h1
  have hpw : pb < w.heap.size := there_lt hth (by omega)
  have hpw0 : pb ≠ tb := Nat.ne_of_lt st.pt
  refine wp_reg ?_ (unguarded_app rfl (unguarded_app hu rfl))
  show wpl P _ (_ :: _ :: _ :: (mid ++ _)) a w
  rw [wCo, wMw, eTm, st.gv, wCo]
  refine wp_loadFlat hT (by rw [st.rt.length]; rfl) (by rw [eTm, gR, st.gb]) st.tr ?_
  rw [wCo]
  refine wp_calls (R := fun v w' => ∃ cs : List Value, v = .agg cs.toArray ∧ Fr [] w w' ∧ RepT w' (fun b => b < pb) cs (atT t.l i)) hAt.enters (vs := #[.agg ct.toArray, .int .i64 i])
    (by simp only [List.map_toArray, List.map_cons, List.map_nil, eTm, eCo]; rw [gQ])
    ((hAt.call w (fun b => b < pb) ct t i st.rt).mono (by rintro e' w' ⟨cs, rfl, h1, h2⟩; exact ⟨_, rfl, cs, rfl, h1, h2 (fun b hb => by omega)⟩)) ?_
  rintro _ w1 ⟨cs, rfl, f1, hcs⟩
  have sz1 := f1.size
  refine hm pb _ _ w1 cs (atT t.l i) _ (by simp only [sPu]; exact hN) (gQ) hcs (by omega) ?_
  intro a2 w2 v k2 g2 hv1 f2 hv
  have sz2 := f2.size
  have kk : Kept n a a2 := (((Kept.put0 (Nat.le_refl _) _).put (by omega) _).put (by omega) _).trans (k2.mono (by omega))
  have gn : get a2 n = .pointer (some ⟨pb, 0, none⟩) := by
    rw [k2.get n (by omega), gR, gR, gQ]
  have hN2 : a2.tmps.size = N := kk.size.trans hN
  have f02 : Fr [] w w2 := f1.tr f2
  refine wC (wNc (q := ⟨pb, 0, none⟩) (by rw [eTm, gn]) ?_)
  refine wC (wFa (b := pb) (i := 0) hF (by rw [eTm, gQ]) ?_)
  rw [wCo]
  subst ho
  refine wp_store hs (b := pb) (o := 0 + Ty.sizes (tys.take j)) (v := v) (by rw [eTm, gQ]) (by rw [eTm, gR, gR, g2]) hv1 (there_part (f02.there hth) (by omega) (by omega)) ?_
  rw [pNo, wNi]
  have f3 := Fr.set w2 pb (0 + Ty.sizes (tys.take j)) v
  have rg := range_setAt (v := v) (f02.range hz .nil) (f02.there hth) hlt
  have hr2 : Reps w2 (fun b => b ≠ pb ∧ b < w2.heap.size) tys z xs := hrep.kept f02 (by simp) (fun b hb => ⟨hb.1, by omega⟩)
  have hr' := (hr2.set hj h1 hv).kept f3 (A' := fun b => b ≠ pb ∧ b < (w2.setCell ⟨pb, 0 + Ty.sizes (tys.take j), none⟩ v).heap.size) (by intro r hr hA; simp at hr; subst hr; exact hA.1 rfl) (fun b hb => ⟨hb.1, by have := f3.size; omega⟩)
  have hzl : z.length = Ty.sizes tys := hrep.length
  have sz3 := f3.size
  generalize w2.setCell ⟨pb, 0 + Ty.sizes (tys.take j), none⟩ v = w3 at f3 rg hr' sz3 ⊢
  have k3 : Kept n a ((a2.put (some q) (.pointer (some ⟨pb, 0, none⟩))).put (some (q + 1)) (.pointer (some ⟨pb, 0 + Ty.sizes (tys.take j), none⟩))) := (kk.put (by omega) _).put (by omega) _
  refine hK _ w3 _ rfl ⟨k3.size.trans hN, k3.defers.trans st.df, (k3.get sv b1).trans st.gv, (k3.get sb b2).trans st.gb, ?_, ?_, st.pt, _, rg, ?_, hr'⟩ ?_
  · exact f3.range (f02.range st.tr .nil) (.cons (.inl hpw0) .nil)
  · exact (st.rt.kept f02 (by simp) (fun _ h => h)).kept f3 (by intro r hr hA; simp at hr; subst hr; simp only at hA; omega) (fun _ h => h)
  · rw [List.length_set]; exact f3.there (f02.there hth)
  · refine Fr.trans (l := [⟨pb, 0, Ty.sizes tys⟩]) (f02.mono (by simp)) f3 ?_
    intro r hr; simp at hr; subst hr
    exact .inr ⟨_, List.mem_singleton.2 rfl, rfl, by simp, by simp only; omega⟩
section
variable {P : Program} {N n : Nat} {TT TI TK : TypeId} {t0 t1 : TypeId} {p0 p1 : String} {e0 e1 : Array Edge} {ats : Array TypeId}
theorem mid_num {kd : IntKind} (hi : fldInt P TT 0 = true) (ho : fieldOf P TT 0 0 = true) (h1 : intOf P TI .i64 = true) (h2 : intOf P TK kd = true) (hk : fits64 kd = true) (hb : (decide (n + 4 < N)) = true) :
    MidOk P N n (n + 4) [⟨some (n + 3), .field TT (.tmp (n + 2)) 0, t0, p0, e0, none⟩, ⟨some (n + 4), .convert TI TK (.tmp (n + 3)), t1, p1, e1, none⟩] (.int kd) (fun x => .n (kd.wrap x.n)) := by
  intro pb Q a w cs x rest hN hg hr hp hK
  have hb := of_decide_eq_true hb
  obtain ⟨h0, h3, h4⟩ := repT_n hr
  show wpl P Q (_ :: _ :: rest) a w
  refine wC (wp_fieldT hi ho (by rw [eTm]; exact hg) h0 ?_)
  refine wC (wCv h1 h2 (by rw [eTm, gQ]) ?_)
  have := wrap_le kd x.n hk
  exact hK _ w (.int kd (kd.wrap x.n)) ((Kept.put0 (by omega) _).put (by omega) _) (gQ) rfl (Fr.refl _ _) ⟨_, rfl, rfl, this.1, this.2⟩
def fldSl (P : Program) (s : TypeId) (k : Nat) : Bool := match P.underlying s with
  | some (.struct fs) => (match fs[k]? with | some f => (match P.underlying f.type with | some (.slice _) => true | _ => false) | none => false)
  | _ => false
theorem wp_fieldS {a : Act} {w : World} {K : Act → World → Prop} {Q : Exit → Act → World → Prop} {d : Option Tmp} {t : TypeId} {p : String} {af : Array Edge} {g : Option (Nat × Bool)} {s : TypeId} {cs : List Value} {k : Nat} {x : Operand} {v : Value} (hi : fldSl P s k = true) (ho : fieldOf P s k k = true) (hx : a.eval x = .agg cs.toArray) (hv : cs[k]? = some v)
    (kk : K (a.put d v) w) : OW P ⟨d, .field s x k, t, p, af, g⟩ a w K Q := by
  refine wp_val (v := v) (w' := w) ?_ kk
  unfold fldSl at hi
  unfold fieldOf at ho
  cases hu : P.underlying s with
  | none => simp [hu] at hi
  | some td =>
    cases td <;> simp only [hu] at hi ho <;> first | (simp at hi; done) | skip
    rename_i fs
    cases hf : fs[k]? with
    | none => simp [hf] at hi
    | some f =>
      simp only [hf] at hi ho
      cases hk : P.underlying f.type with
      | none => simp [hk] at hi
      | some tk =>
        cases tk <;> simp only [hk] at hi <;> first | (simp at hi; done) | skip
        have : f.offset = k := by simp only [Bool.and_eq_true, beq_iff_eq] at ho; exact ho.1
        simp [execOp, Instr.field, hx, run_underlying hu, hf, asAgg, part, isAgg, run_underlying hk, this, hv]
theorem repT_s {w : World} {A : Nat → Prop} {cs : List Value} {t : T} (h : RepT w A cs t) : ∃ sv, cs[1]? = some sv ∧ OctE w A sv t.s := by
  cases t with
  | mk n s nl l u => obtain ⟨sv, _, _, rfl, _, h, _⟩ := repT_iff.1 h; exact ⟨sv, rfl, h⟩
theorem wp_toStrE {a : Act} {w : World} {K : Act → World → Prop} {Q : Exit → Act → World → Prop} {d : Option Tmp} {t : TypeId} {p : String} {af : Array Edge} {g : Option (Nat × Bool)} {A : Nat → Prop} {x : Operand} {l : List UInt8} {s u : TypeId} {v : Value} (hs : byteSl P s = true) (ht : strTy P u = true) (hx : a.eval x = v) (h : OctE w A v l)
    (k : K (a.put d (.string (strOf l))) w) : OW P ⟨d, .convert s u x, t, p, af, g⟩ a w K Q := by
  rcases h with ⟨y, h1, rfl⟩ | ⟨⟨q, rfl⟩, rfl⟩
  · exact wp_toString hs ht hx h1 k
  · obtain ⟨e, h1, h2⟩ := under_bytes hs
    have h3 := under_str ht
    have hl : (loadCells q 0).run P w = .ok #[] w := run_loadCells_list (P := P) w q [] (fun j v hv => by simp at hv)
    have hr : (Conv.bytesToString (.slice (some q) 0 0)).run P w = .ok (.string (strOf [])) w := by
      rw [run_bytesToString w q 0 0 [] (by simpa using hl)]; rfl
    refine wp_val ?_ k
    simp [execOp, hx, convert, run_underlying h1, run_underlying h2, run_underlying h3, hr]
theorem octE_big {w : World} {A : Nat → Prop} {v : Value} {s : List UInt8} (h : OctE w A v s) : s.length ≤ 4294967296 := by
  rcases h with ⟨y, h1, rfl⟩ | ⟨_, rfl⟩
  · rcases h1 with ⟨_, rfl⟩ | ⟨b, o, cap, l, _, _, h, _, rfl⟩
    · simp
    · exact h.2
  · simp
theorem mid_str {TB TS : TypeId} (hi : fldSl P TT 1 = true) (ho : fieldOf P TT 1 1 = true) (h1 : byteSl P TB = true) (h2 : strTy P TS = true) (hb : (decide (n + 4 < N)) = true) :
    MidOk P N n (n + 4) [⟨some (n + 3), .field TT (.tmp (n + 2)) 1, t0, p0, e0, none⟩, ⟨some (n + 4), .convert TB TS (.tmp (n + 3)), t1, p1, e1, none⟩] .str (fun x => .s x.s) := by
  intro pb Q a w cs x rest hN hg hr hp hK
  have hb := of_decide_eq_true hb
  obtain ⟨sv, h0, h3⟩ := repT_s hr
  show wpl P Q (_ :: _ :: rest) a w
  refine wC (wp_fieldS hi ho (by rw [eTm]; exact hg) h0 ?_)
  refine wC (wp_toStrE h1 h2 (by rw [eTm, gQ]) h3 ?_)
  exact hK _ w (.string (strOf x.s)) ((Kept.put0 (by omega) _).put (by omega) _) (gQ) rfl (Fr.refl _ _) ⟨_, rfl, by rw [strOf_list], by rw [strOf_list]; exact octE_big h3⟩
end
end Go.Kq

namespace Go.Kq
open Go Go.Proofs
structure FillM (P : Program) (f : FuncId) (tys : List Ty) (R : T → List V → List V → Prop) : Prop where
  enters : Enters P f
  call : ∀ (w : World) (pb : Nat) (ct : List Value) (t : T) (xs : List V) (z : List Value), RepT w (fun b => b < pb) ct t → w.rangeAt pb 0 z → w.there pb 0 z.length → pb < w.heap.size → Reps w (fun b => b ≠ pb ∧ b < w.heap.size) tys z xs →
    Calls P f #[.pointer (some ⟨pb, 0, none⟩), .agg ct.toArray] w fun e w' => ∃ x ys z', e = .returned x ∧ R t xs ys ∧ w'.rangeAt pb 0 z' ∧ Reps w' (fun b => b ≠ pb ∧ b < w'.heap.size) tys z' ys ∧ Fr [⟨pb, 0, Ty.sizes tys⟩] w w'
theorem fill_m {P : Program} {f : FuncId} {fn : Func} {N sb i0 : Nat} {TT t0 : TypeId} {p0 : String} {e0 : Array Edge} {c : Code} {tys : List Ty} {R : T → List V → List V → Prop}
    (hf : P.funcs[f]? = some fn) (hname : (fn.name == "runtime.NumGoroutine") = false) (hres : fn.results = #[]) (hN : fn.ntmps = N)
    (hbody : fn.body = some (.seq (Code.region i0 ⟨[⟨some sb, .box TT (.tmp 1), t0, p0, e0, none⟩]⟩ false) c)) (hb : (decide (1 < sb) && decide (sb < N)) = true)
    (h : FRun P N 0 sb c tys R) : FillM P f tys R := by
  refine ⟨enters_of hf hname hbody, ?_⟩
  intro w pb ct t xs z hrt hz hth hpb hr
  simp only [Bool.and_eq_true, decide_eq_true_eq] at hb
  refine calls_of_wp hf hbody ?_
  generalize ha0 : ({ tmps := #[Value.pointer (some ⟨pb, 0, none⟩), Value.agg ct.toArray] ++ Array.replicate (fn.ntmps - #[Value.pointer (some ⟨pb, 0, none⟩), Value.agg ct.toArray].size) undef, defers := [] } : Act) = a0
  have hsz : a0.tmps.size = N := by subst ha0; simp [hN]; omega
  have hd0 : a0.defers = [] := by subst ha0; rfl
  have g0 : get a0 0 = .pointer (some ⟨pb, 0, none⟩) := by subst ha0; exact gAr rfl
  have g1 : get a0 1 = .agg ct.toArray := by subst ha0; exact gAr rfl
  refine wT fun K1 hK1 => ?_
  refine wC (wp_boxL (cs := ct) (by rw [eTm, g1]) ?_)
  intro w1 f1 sz1 r1 th1
  rw [wNi]
  refine hK1 _ w1 (tUp ?_)
  refine tId ?_
  refine h pb w.heap.size ct t _ _ _ w1 xs ⟨by simp only [sPu]; exact hsz, by simp only [dPu]; exact hd0, by rw [gR, g0], gQ, r1, hrt.kept f1 (by simp) (fun _ h => h), hpb, z, f1.range hz .nil, f1.there hth, hr.kept f1 (by simp) (fun b hb => ⟨hb.1, by omega⟩)⟩ ?_
  rintro a' w' ys hR s' f'
  obtain ⟨z', hz', _, hr'⟩ := s'.cs
  exact ⟨s'.df, .tuple #[], by simp [results, hres], _, ys, z', rfl, hR, hz', hr', f1.nil.tr f'⟩
structure MakeM (P : Program) (f : FuncId) (g : Int → T → List UInt8 → Prop) : Prop where
  enters : Enters P f
  call : ∀ (w : World) (B : Nat → Prop) (ver : Int) (ct : List Value) (t : T), 0 ≤ ver → ver ≤ 32767 → RepT w B ct t → (∀ b, B b → b < w.heap.size) → (∀ ys, g ver t ys → ys.length < 4294967296) →
    Calls P f #[.int .i64 ver, .agg ct.toArray] w fun e w' => ∃ ov ys, e = .returned ov ∧ g ver t ys ∧ Fr [] w w' ∧ OctE w' (From w.heap.size w') ov ys
theorem make_k {P : Program} {f ffl fap : FuncId} {fn : Func} {TT TI T16 TX : TypeId} {i0 i1 i2 i3 : Nat} {at0 at1 : Array TypeId} {tys : List Ty} {zs : List Value} {ds : List V} {R : T → List V → List V → Prop} {ga : Int → V → List UInt8}
    {t0 t1 t2 t3 t4 t5 t6 t7 t8 t9 t10 t11 t12 : TypeId} {p0 p1 p2 p3 p4 p5 p6 p7 p8 p9 p10 p11 p12 : String} {e0 e1 e2 e3 e4 e5 e6 e7 e8 e9 e10 e11 e12 : Array Edge}
    (hf : P.funcs[f]? = some fn) (hname : (fn.name == "runtime.NumGoroutine") = false) (hres : fn.results = #[.tmp 4]) (hN : fn.ntmps = 15)
    (hbody : fn.body = some (.seq (Code.region i0 ⟨[⟨some 3, .box TT (.tmp 1), t0, p0, e0, none⟩, ⟨some 4, .assign (.const (.slice none 0 0)), t1, p1, e1, none⟩]⟩ false)
      (.seq (Code.region i1 ⟨[⟨some 6, .move (.tmp 0), t2, p2, e2, none⟩, ⟨some 7, .convert TI T16 (.tmp 6), t3, p3, e3, none⟩, ⟨some 8, .build TX #[(0, .tmp 7)], t4, p4, e4, none⟩, ⟨some 9, .box TX (.tmp 8), t5, p5, e5, none⟩, ⟨some 5, .assign (.tmp 9), t6, p6, e6, none⟩]⟩ false)
      (.seq (Code.region i2 ⟨[⟨some 10, .move (.tmp 5), t7, p7, e7, none⟩, ⟨some 11, .load TT (.tmp 3), t8, p8, e8, none⟩, ⟨some 12, .call ⟨.value (.func ffl), #[.tmp 10, .tmp 11], at0⟩, t9, p9, e9, none⟩]⟩ false)
      (.seq (Code.region i3 ⟨[⟨some 13, .move (.tmp 5), t10, p10, e10, none⟩, ⟨some 14, .call ⟨.value (.func fap), #[.tmp 13, .const (.slice none 0 0)], at1⟩, t11, p11, e11, none⟩, ⟨some 4, .assign (.tmp 14), t12, p12, e12, none⟩]⟩ false) .ret)))))
    (hT : Flat P TT zT) (hX : Flat P TX (.int .i16 0 :: zs)) (h1 : intOf P TI .i64 = true) (h2 : intOf P T16 .i16 = true) (hzr : ∀ w, Reps w NoFoot tys zs ds)
    (hfill : FillM P ffl (.int .i16 :: tys) R) (happ : ∀ ver, AppM P fap (.st (.int .i16 :: tys)) (ga ver) ver) (hR : ∀ t ver ys, R t (.n ver :: ds) ys → ∃ ys', ys = .n ver :: ys') :
    MakeM P f (fun ver t out => ∃ ys, R t (.n ver :: ds) (.n ver :: ys) ∧ out = ga ver (.l (.n ver :: ys))) := by
  refine ⟨enters_of hf hname hbody, ?_⟩
  intro w B ver ct t hv0 hv1 hrt hB hbig
  refine calls_of_wp hf hbody ?_
  generalize ha0 : ({ tmps := #[Value.int .i64 ver, Value.agg ct.toArray] ++ Array.replicate (fn.ntmps - #[Value.int .i64 ver, Value.agg ct.toArray].size) undef, defers := [] } : Act) = a0
  have hsz : a0.tmps.size = 15 := by subst ha0; simp [hN]
  have hd0 : a0.defers = [] := by subst ha0; rfl
  have g0 : get a0 0 = .int .i64 ver := by subst ha0; exact gAr rfl
  have g1 : get a0 1 = .agg ct.toArray := by subst ha0; exact gAr rfl
  refine wT fun K1 hK1 => ?_
  refine wC (wp_boxL (cs := ct) (by rw [eTm, g1]) ?_)
  intro w1 f1 sz1 r1 th1
  rw [wCo, wAg, eCo, wNi]
  have k1 : Kept 2 a0 ((a0.put (some 3) (.pointer (some ⟨w.heap.size, 0, none⟩))).put (some 4) (.slice none 0 0)) := (Kept.put0 (by omega) _).put (by omega) _
  have q3 : get ((a0.put (some 3) (.pointer (some ⟨w.heap.size, 0, none⟩))).put (some 4) (.slice none 0 0)) 3 = .pointer (some ⟨w.heap.size, 0, none⟩) := by rw [gR, gQ]
  generalize ((a0.put (some 3) (.pointer (some ⟨w.heap.size, 0, none⟩))).put (some 4) (.slice none 0 0)) = a1 at k1 q3 ⊢
  have hz1 := k1.size
  refine hK1 a1 w1 (tUp ?_)
  -- v := &X{..}
  refine wT fun K2 hK2 => ?_
  rw [wCo, wMw, eTm, k1.get 0 (by omega), g0, wCo]
  refine wCv h1 h2 (by rw [eTm, gQ]) ?_
  have hwr : IntKind.i16.wrap ver = ver := by simp [IntKind.wrap, IntKind.signed, IntKind.bits]; omega
  rw [hwr, wCo]
  refine wp_build1 hX (k := 0) (v := .int .i16 ver) (by simp) (by rw [eTm, gQ]) rfl ?_
  rw [List.set_cons_zero, wCo]
  refine wp_boxL (cs := .int .i16 ver :: zs) (by rw [eTm, gQ]) ?_
  intro w2 f2 sz2 r2 th2
  rw [wCo, wAg, eTm, gQ, wNi]
  have k2 : Kept 5 a1 (((((a1.put (some 6) (.int .i64 ver)).put (some 7) (.int .i16 ver)).put (some 8) (.agg (Value.int .i16 ver :: zs).toArray)).put (some 9) (.pointer (some ⟨w1.heap.size, 0, none⟩))).put (some 5) (.pointer (some ⟨w1.heap.size, 0, none⟩))) :=
    ((((Kept.put0 (by omega) _).put (by omega) _).put (by omega) _).put (by omega) _).put (by omega) _
  have q5 : get (((((a1.put (some 6) (.int .i64 ver)).put (some 7) (.int .i16 ver)).put (some 8) (.agg (Value.int .i16 ver :: zs).toArray)).put (some 9) (.pointer (some ⟨w1.heap.size, 0, none⟩))).put (some 5) (.pointer (some ⟨w1.heap.size, 0, none⟩))) 5 = .pointer (some ⟨w1.heap.size, 0, none⟩) := gQ
  generalize (((((a1.put (some 6) (.int .i64 ver)).put (some 7) (.int .i16 ver)).put (some 8) (.agg (Value.int .i16 ver :: zs).toArray)).put (some 9) (.pointer (some ⟨w1.heap.size, 0, none⟩))).put (some 5) (.pointer (some ⟨w1.heap.size, 0, none⟩))) = a2 at k2 q5 ⊢
  have hz2 := k2.size
  refine hK2 a2 w2 (tUp ?_)
  -- fillX(v, t)
  generalize hpbv : w1.heap.size = pb at *
  have hrt2 : RepT w2 (fun b => b < pb) ct t := ((hrt.kept f1 (by simp) (A' := fun b => b < pb) (fun b hb => by have := hB b hb; omega))).kept f2 (by simp) (fun _ h => h)
  have f02 : Fr [] w w2 := f1.tr f2
  refine wT fun K3 hK3 => ?_
  rw [wCo, wMw, eTm, q5, wCo]
  refine wp_loadFlat hT (b := w.heap.size) (o := 0) (cs := ct) (by rw [hrt.length]; rfl) (by rw [eTm, gR, k2.get 3 (by omega), q3]) (f2.range r1 .nil) ?_
  rw [wCo]
  refine wp_calls (R := fun _ w' => ∃ ys z', R t (.n ver :: ds) ys ∧ w'.rangeAt pb 0 z' ∧ Reps w' (fun b => b ≠ pb ∧ b < w'.heap.size) (.int .i16 :: tys) z' ys ∧ Fr [⟨pb, 0, Ty.sizes (.int .i16 :: tys)⟩] w2 w') hfill.enters (vs := #[.pointer (some ⟨pb, 0, none⟩), .agg ct.toArray])
    (by simp only [List.map_toArray, List.map_nil, List.map_cons, eTm]; rw [gR, gQ, gQ])
    ((hfill.call w2 pb ct t (.n ver :: ds) (.int .i16 ver :: zs) hrt2 r2 th2 (by omega) ⟨[.int .i16 ver], zs, .n ver, ds, rfl, rfl, ⟨ver, rfl, rfl, by simp [IntKind.min, IntKind.signed, IntKind.bits]; omega, by simp [IntKind.max, IntKind.signed, IntKind.bits]; omega⟩, (hzr w2).kept (Fr.refl [] w2) (by simp) (fun b h => h.elim)⟩).mono (by
      rintro e' w' ⟨x, ys, z', rfl, h1, h2, h3, h4⟩; exact ⟨_, rfl, ys, z', h1, h2, h3, h4⟩)) ?_
  rintro x w3 ⟨ys, z', hRy, hz', hr', f3⟩
  obtain ⟨ys, rfl⟩ := hR _ _ _ hRy
  rw [wNi]
  have sz3 := f3.size
  have f03 : Fr [] w w3 := f02.trans f3 (by intro r hr; simp at hr; subst hr; exact .inl (by simp only; omega))
  have k3 : Kept 6 a2 (((a2.put (some 10) (.pointer (some ⟨pb, 0, none⟩))).put (some 11) (.agg ct.toArray)).put (some 12) x) := ((Kept.put0 (by omega) _).put (by omega) _).put (by omega) _
  generalize (((a2.put (some 10) (.pointer (some ⟨pb, 0, none⟩))).put (some 11) (.agg ct.toArray)).put (some 12) x) = a3 at k3 ⊢
  have hz3 := k3.size
  refine hK3 a3 w3 (tUp ?_)
  -- return v.AppendTo(nil)
  have hbg := hbig _ ⟨ys, hRy, rfl⟩
  refine wT fun K4 hK4 => ?_
  rw [wCo, wMw, eTm, k3.get 5 (by omega), q5, wCo]
  refine wCr (vs := #[.pointer (some ⟨pb, 0, none⟩), .slice none 0 0]) (happ ver).enters (by simp only [List.map_toArray, List.map_nil, List.map_cons, eTm, eCo]; rw [gQ])
    (Apd.ret ((happ ver).call w3 (fun _ => False) (fun b => b < w3.heap.size) pb 0 z' ys (.slice none 0 0) [] hz' ⟨.n ver :: ys, rfl, hr'.kept (Fr.refl [] w3) (by simp) (fun b hb => hb.2)⟩ (by omega) Own.nil (fun _ h => h.elim) (fun _ h => h) (fun _ h => h.elim) (by rw [List.nil_append]; exact hbg))) ?_
  rintro ov w4 ⟨f4, ho, _⟩
  rw [wCo, wAg, eTm, gQ, wNi]
  refine hK4 _ w4 (wp_ret ?_)
  refine ⟨by simp only [dPu]; rw [k3.defers, k2.defers, k1.defers, hd0], _, rIs hres (gQ), ov, _, rfl, ⟨ys, hRy, rfl⟩, ?_, ?_⟩
  · exact f03.tr (f4.mono (by simp [spare]))
  · rw [List.nil_append] at ho
    exact (ho.imp_A (A' := From w.heap.size w4) (by rintro b' (h | h); exact h.elim; exact ⟨by omega, h.2⟩)).octE (by omega)
theorem app_rootK {P : Program} {f : FuncId} {fn : Func} {N R : Nat} {k : Code} {tys : List Ty} {gs : List (V → List UInt8)} {ver : Int} (hf : P.funcs[f]? = some fn) (hname : (fn.name == "runtime.NumGoroutine") = false) (hres : fn.results = #[.tmp R]) (hN : fn.ntmps = N) (hbody : fn.body = some k) (hN2 : 2 ≤ N)
    (h : ∀ (e : AE) (pb po : Nat), e.B pb → e.w0.cell? ⟨pb, po, none⟩ = some (.int .i16 ver) → IntKind.i16.min ≤ ver → ver ≤ IntKind.i16.max → ∀ xs, (∃ z, e.w0.rangeAt pb (po + 1) z ∧ Reps e.w0 e.B tys z xs) → ApR P N R e [(0, .pointer (some ⟨pb, po, none⟩))] k (fxW ver 2 ++ apAll gs xs)) : AppM P f (.st (.int .i16 :: tys)) (fun x => fxW ver 2 ++ apSt ((fun _ => []) :: gs) x) ver := by
  refine ⟨enters_of hf hname hbody, ?_⟩
  intro w A B pb po cs xs0 dst xs hcs hr hpb own hAB hB hA hb
  refine calls_of_wp hf hbody ?_
  generalize ha0 : ({ tmps := #[Value.pointer (some ⟨pb, po, none⟩), dst] ++ Array.replicate (fn.ntmps - (#[Value.pointer (some ⟨pb, po, none⟩), dst] : Array Value).size) undef, defers := [] } : Act) = a0
  have hz0 : a0.tmps.size = N := by subst ha0; simp [hN]; omega
  have hd0 : a0.defers = [] := by subst ha0; rfl
  have g0 : get a0 0 = .pointer (some ⟨pb, po, none⟩) := by subst ha0; exact gAr rfl
  have g1 : get a0 1 = dst := by subst ha0; exact gAr rfl
  obtain ⟨xs1, hx1, d1, d2, x, r, rfl, rfl, ⟨i, rfl, rfl, hi1, hi2⟩, hr2⟩ := hr
  cases hx1
  rw [range_append, range_one] at hcs
  refine h ⟨w, A, B, dst⟩ pb po hpb hcs.1 hi1 hi2 xs0 ⟨d2, hcs.2, hr2⟩ _ a0 w dst xs hz0 hd0 (by intro s hs; simp at hs; subst hs; exact g0) g1 ⟨⟨hAB, hB, hA, own.spare_in⟩, Fr.refl _ _, own.imp_A fun _ h => .inl h, fun r h => Rng.in_self h⟩ (by simpa [apSt, apAll] using hb) ?_
  intro a' w' v' hd' hR hst
  refine ⟨hd', _, rIs hres hR, _, rfl, hst.fr, ?_, hst.inn⟩
  have h2 : fxW ver 2 ++ apSt ((fun _ => []) :: gs) (.l (.n ver :: xs0)) = fxW ver 2 ++ apAll gs xs0 := by simp [apSt, apAll]
  show Own w' _ 1 v' (xs ++ (fxW ver 2 ++ apSt ((fun _ => []) :: gs) (.l (.n ver :: xs0)))).length (octets (xs ++ (fxW ver 2 ++ apSt ((fun _ => []) :: gs) (.l (.n ver :: xs0)))))
  rw [h2]
  exact hst.own
end Go.Kq

namespace Go.Kq
open Go Go.Proofs
structure Fit3M (P : Program) (f : FuncId) : Prop where
  enters : Enters P f
  call : ∀ (w : World) (A : Nat → Prop) (k : Nat) (xv : Value) (x : List UInt8), OctE w A xv x → Calls P f #[.agg ([.int .u32 (k : Int), xv] : List Value).toArray] w fun e w' => (∃ b : Bool, e = .returned (.bool b)) ∧ Fr [] w w'
structure Fit2M (P : Program) (f : FuncId) : Prop where
  enters : Enters P f
  call : ∀ (w : World) (A : Nat → Prop) (v : Value) (u : List (Nat × List UInt8)), TagsR w A v u → Calls P f #[v] w fun e w' => (∃ b : Bool, e = .returned (.bool b)) ∧ Fr [] w w'
structure FitM (P : Program) (f : FuncId) : Prop where
  enters : Enters P f
  call : ∀ (w : World) (A : Nat → Prop) (ct : List Value) (t : T), RepT w A ct t → Calls P f #[.agg ct.toArray] w fun e w' => (∃ b : Bool, e = .returned (.bool b)) ∧ Fr [] w w'
theorem fits3_m {P : Program} {f : FuncId} {fn : Func} {T3 T22 T60 : TypeId} {i0 i1 i2 i3 : Nat} {t0 t1 t2 t3 t4 t5 t6 t7 : TypeId} {p0 p1 p2 p3 p4 p5 p6 p7 : String} {e0 e1 e2 e3 e4 e5 e6 e7 : Array Edge} 
    (hf : P.funcs[f]? = some fn) (hname : (fn.name == "runtime.NumGoroutine") = false) (hres : fn.results = #[.tmp 2]) (hN : fn.ntmps = 7)
    (hbody : fn.body = some (.seq (Code.region i0 ⟨[⟨some 1, .box T60 (.tmp 0), t0, p0, e0, none⟩,
    ⟨some 2, .assign (.const (.bool false)), t1, p1, e1, none⟩]⟩ false)
  (.seq (.seq (Code.region i1 ⟨[⟨some 3, .fieldAddr T60 (.tmp 1) 1, t2, p2, e2, none⟩,
    ⟨some 4, .load T22 (.tmp 3), t3, p3, e3, none⟩,
    ⟨some 5, .call ⟨.builtin .len, #[(.tmp 4)], #[T22]⟩, t4, p4, e4, none⟩,
    ⟨some 6, .binOp .gtr T3 (.tmp 5) (.const (.int .i64 2147483647)) T3, t5, p5, e5, none⟩]⟩ false)
  (.cond (.tmp 6) (.seq (Code.region i2 ⟨[⟨some 2, .assign (.const (.bool false)), t6, p6, e6, none⟩]⟩ false)
  .ret)
  .skip))
  (.seq (Code.region i3 ⟨[⟨some 2, .assign (.const (.bool true)), t7, p7, e7, none⟩]⟩ false)
  .ret))))
    (hFlT60 : Flat P T60 zTag) (hcT22 : scal P T22 = true) (hsT22 : slTy P T22 = true)  : Fit3M P f := by
  refine ⟨enters_of hf hname hbody, ?_⟩
  intro w A k xv x ho
  obtain ⟨q, cap, rfl, -, hl, -⟩ := ho.slice2
  refine calls_of_wp hf hbody ?_
  generalize ha0 : ({ tmps := #[Value.agg ([.int .u32 (k : Int), .slice q x.length cap] : List Value).toArray] ++ Array.replicate (fn.ntmps - (#[Value.agg ([.int .u32 (k : Int), .slice q x.length cap] : List Value).toArray] : Array Value).size) undef, defers := [] } : Act) = a0
  have hz0 : a0.tmps.size = 7 := by subst ha0; simp [hN]
  have hd0 : a0.defers = [] := by subst ha0; rfl
  have g0_0 : get a0 0 = .agg ([.int .u32 (k : Int), .slice q x.length cap] : List Value).toArray := by subst ha0; exact gAr rfl
  refine wT fun K1 hK1 => ?_
  refine wC (wp_boxL (cs := [.int .u32 (k : Int), .slice q x.length cap]) (eK g0_0) ?_)
  rintro w2 f2 sz2 r2 th2
  have hF3 : Fr [] w w2 := f2
  refine wC (wAs (v := .bool false) rfl ?_)
  refine wEn fun a4 ha4 => ?_
  have hz4 := kS ha4 hz0
  have hd4 := kD ha4 hd0
  have g4_1 : get a4 1 = .pointer (some ⟨w.heap.size, 0, none⟩) := kG ha4 hz0
  refine hK1 a4 w2 (tUp ?_)
  refine tId (wp_seq_k fun K5 hK5 => ?_)
  refine wS fun K6 hK6 => ?_
  refine wC (wFa (b := w.heap.size) (i := 0) (hFlT60.fld (by decide)) (eK g4_1) ?_)
  rw [show (0 + 1 : Nat) = 1 from rfl]
  refine wC (wL0 (j := 1) (v := .slice q x.length cap) hcT22 (eS hz4) r2 rfl ?_)
  refine wC (wp_lenS (n := x.length) hsT22 (eS hz4) ?_)
  refine wC (wp_gtr (k1 := .i64) (i := ((x.length : Nat) : Int)) (j := 2147483647) (eS hz4) rfl ?_)
  refine wEn fun a7 ha7 => ?_
  have hz7 := kS ha7 hz4
  have hd7 := kD ha7 hd4
  have g7_6 : get a7 6 = .bool (decide ((((x.length : Nat) : Int) : Int) > (2147483647 : Int))) := kG ha7 hz4
  refine hK6 a7 w2 ?_
  refine wp_cond_split (t := decide ((((x.length : Nat) : Int) : Int) > (2147483647 : Int))) (eK g7_6) (fun hc8 => ?_) (fun hc8 => ?_)
  · refine wp_seq_k fun K9 hK9 => ?_
    refine wp_reg ?_
    refine wC (wAs (v := .bool false) rfl ?_)
    refine wEn fun a10 ha10 => ?_
    have hz10 := kS ha10 hz7
    have hd10 := kD ha10 hd7
    have g10_2 : get a10 2 = .bool false := kG ha10 hz7
    refine hK9 a10 w2 ?_
    refine wp_ret ?_
    exact ⟨hd10, _, rIs hres g10_2, ⟨_, rfl⟩, hF3⟩
  · refine wp_skip ?_
    refine hK5 a7 w2 (tUp ?_)
    refine wT fun K11 hK11 => ?_
    refine wC (wAs (v := .bool true) rfl ?_)
    refine wEn fun a12 ha12 => ?_
    have hz12 := kS ha12 hz7
    have hd12 := kD ha12 hd7
    have g12_2 : get a12 2 = .bool true := kG ha12 hz7
    refine hK11 a12 w2 (tUp ?_)
    refine wp_ret ?_
    exact ⟨hd12, _, rIs hres g12_2, ⟨_, rfl⟩, hF3⟩
theorem fits2_m {P : Program} {f : FuncId} {fn : Func} {T3 T4 T24 T60 : TypeId} {f45 : FuncId} {a0 : Array TypeId} {i0 i1 i2 i3 i4 i5 i6 i7 i8 i9 : Nat} {t0 t1 t2 t3 t4 t5 t6 t7 t8 t9 t10 t11 t12 t13 t14 t15 t16 t17 t18 t19 : TypeId} {p0 p1 p2 p3 p4 p5 p6 p7 p8 p9 p10 p11 p12 p13 p14 p15 p16 p17 p18 p19 : String} {e0 e1 e2 e3 e4 e5 e6 e7 e8 e9 e10 e11 e12 e13 e14 e15 e16 e17 e18 e19 : Array Edge} {te : TypeId} {tb : Nat}
    (hf : P.funcs[f]? = some fn) (hname : (fn.name == "runtime.NumGoroutine") = false) (hres : fn.results = #[.tmp 2]) (hN : fn.ntmps = 18)
    (hbody : fn.body = some (.seq (Code.region i0 ⟨[⟨some 2, .assign (.const (.bool false)), t0, p0, e0, none⟩]⟩ false)
  (.seq (.seq (Code.region i1 ⟨[⟨some 5, .move (.tmp 0), t1, p1, e1, none⟩,
    ⟨some 6, .call ⟨.builtin .len, #[(.tmp 5)], #[T24]⟩, t2, p2, e2, none⟩,
    ⟨some 7, .binOp .gtr T3 (.tmp 6) (.const (.int .i64 2147483647)) T3, t3, p3, e3, none⟩]⟩ false)
  (.cond (.tmp 7) (.seq (Code.region i2 ⟨[⟨some 2, .assign (.const (.bool false)), t4, p4, e4, none⟩]⟩ false)
  .ret)
  .skip))
  (.seq (.seq (Code.region i3 ⟨[⟨some 8, .move (.tmp 0), t5, p5, e5, none⟩,
    ⟨some 9, .call ⟨.builtin .len, #[(.tmp 8)], #[T24]⟩, t6, p6, e6, none⟩,
    ⟨some 10, .move (.const (.int .i64 0)), t7, p7, e7, none⟩]⟩ false)
  (.block 0 (.loop (.seq (Code.region i4 ⟨[⟨some 11, .binOp .lss T3 (.tmp 10) (.tmp 9) T3, t8, p8, e8, none⟩]⟩ false)
  (.seq (.cond (.tmp 11) .skip
  (.exit 0))
  (.seq (.block 1 (.seq (Code.region i5 ⟨[⟨some 12, .indexAddr T24 (.tmp 8) (.tmp 10), t9, p9, e9, none⟩,
    ⟨some 13, .load T60 (.tmp 12), t10, p10, e10, none⟩,
    ⟨some 4, .alloc T60, t11, p11, e11, none⟩,
    ⟨none, .store T60 (.tmp 4) (.tmp 13), t12, p12, e12, none⟩]⟩ false)
  (.seq (Code.region i6 ⟨[⟨some 14, .load T60 (.tmp 4), t13, p13, e13, none⟩,
    ⟨some 15, .call ⟨.value (.func f45), #[(.tmp 14)], a0⟩, t14, p14, e14, none⟩,
    ⟨some 16, .unOp .not T4 (.tmp 15), t15, p15, e15, none⟩]⟩ false)
  (.cond (.tmp 16) (.seq (Code.region i7 ⟨[⟨some 2, .assign (.const (.bool false)), t16, p16, e16, none⟩]⟩ false)
  .ret)
  .skip))))
  (Code.region i8 ⟨[⟨some 17, .binOp .add T3 (.tmp 10) (.const (.int .i64 1)) T3, t17, p17, e17, none⟩,
    ⟨some 10, .move (.tmp 17), t18, p18, e18, none⟩]⟩ false)))))))
  (.seq (Code.region i9 ⟨[⟨some 2, .assign (.const (.bool true)), t19, p19, e19, none⟩]⟩ false)
  .ret)))))
    (hsT24 : slTy P T24 = true) (hs_T24 : sliceOf P T24 te 2 tb = true) (hFlT60 : Flat P T60 zTag) (h3 : Fit3M P f45) : Fit2M P f := by
  refine ⟨enters_of hf hname hbody, ?_⟩
  intro w A v u hu
  obtain ⟨q, cap, rfl, -, hbig, hk⟩ := hu.sl2
  refine calls_of_wp hf hbody ?_
  generalize ha0 : ({ tmps := #[Value.slice q u.length cap] ++ Array.replicate (fn.ntmps - (#[Value.slice q u.length cap] : Array Value).size) undef, defers := [] } : Act) = a0
  have hz0 : a0.tmps.size = 18 := by subst ha0; simp [hN]
  have hd0 : a0.defers = [] := by subst ha0; rfl
  have g0_0 : get a0 0 = .slice q u.length cap := by subst ha0; exact gAr rfl
  refine wT fun K1 hK1 => ?_
  refine wC (wAs (v := .bool false) rfl ?_)
  refine wEn fun a2 ha2 => ?_
  have hz2 := kS ha2 hz0
  have hd2 := kD ha2 hd0
  have g2_0 := kP ha2 g0_0
  refine hK1 a2 w (tUp ?_)
  refine tId (wp_seq_k fun K3 hK3 => ?_)
  refine wS fun K4 hK4 => ?_
  refine wC (wMv (v := .slice q u.length cap) (eK g2_0) ?_)
  refine wC (wp_lenS (n := u.length) hsT24 (eS hz2) ?_)
  refine wC (wp_gtr (k1 := .i64) (i := ((u.length : Nat) : Int)) (j := 2147483647) (eS hz2) rfl ?_)
  refine wEn fun a5 ha5 => ?_
  have hz5 := kS ha5 hz2
  have hd5 := kD ha5 hd2
  have g5_0 := kP ha5 g2_0
  have g5_7 : get a5 7 = .bool (decide ((((u.length : Nat) : Int) : Int) > (2147483647 : Int))) := kG ha5 hz2
  refine hK4 a5 w ?_
  refine wp_cond_split (t := decide ((((u.length : Nat) : Int) : Int) > (2147483647 : Int))) (eK g5_7) (fun hc6 => ?_) (fun hc6 => ?_)
  · refine wp_seq_k fun K7 hK7 => ?_
    refine wp_reg ?_
    refine wC (wAs (v := .bool false) rfl ?_)
    refine wEn fun a8 ha8 => ?_
    have hz8 := kS ha8 hz5
    have hd8 := kD ha8 hd5
    have g8_2 : get a8 2 = .bool false := kG ha8 hz5
    refine hK7 a8 w ?_
    refine wp_ret ?_
    exact ⟨hd8, _, rIs hres g8_2, ⟨_, rfl⟩, Fr.refl _ _⟩
  · refine wp_skip ?_
    refine hK3 a5 w (tUp ?_)
    refine tId (wp_seq_k fun K9 hK9 => ?_)
    refine wS fun K10 hK10 => ?_
    refine wC (wMv (v := .slice q u.length cap) (eK g5_0) ?_)
    refine wC (wp_lenS (n := u.length) hsT24 (eS hz5) ?_)
    refine wC (wMv (v := .int .i64 0) rfl ?_)
    refine wEn fun a11 ha11 => ?_
    have hz11 := kS ha11 hz5
    have hd11 := kD ha11 hd5
    have g11_8 : get a11 8 = .slice q u.length cap := kG ha11 hz5
    have g11_9 : get a11 9 = .int .i64 ((u.length : Nat) : Int) := kG ha11 hz5
    have g11_10 : get a11 10 = .int .i64 0 := kG ha11 hz5
    refine hK10 a11 w ?_
    refine wp_block (wp_loop_ghost (fun (m : Nat) a' w' => ∃ (j : Nat), a'.tmps.size = 18 ∧ a'.defers = [] ∧ get a' 8 = .slice q u.length cap ∧ get a' 9 = .int .i64 (u.length : Int) ∧ get a' 10 = .int .i64 (j : Int) ∧ j + m = u.length ∧ Fr [] w w') u.length ?_ ?_)
    · exact ⟨0, hz11, hd11, g11_8, g11_9, g11_10, by omega, Fr.refl _ _⟩
    · rintro m a12 w12 ⟨j, hz12, hd12, g12_8, g12_9, g12_10, hjm, hfw⟩
      refine wS fun K13 hK13 => ?_
      refine wC (wp_lss (k1 := .i64) (i := (j : Int)) (j := (u.length : Int)) (eK g12_10) (eK g12_9) ?_)
      refine wEn fun a14 ha14 => ?_
      have hz14 := kS ha14 hz12
      have hd14 := kD ha14 hd12
      have g14_8 := kP ha14 g12_8
      have g14_9 := kP ha14 g12_9
      have g14_10 := kP ha14 g12_10
      have g14_11 : get a14 11 = .bool (decide (((j : Int) : Int) < ((u.length : Int) : Int))) := kG ha14 hz12
      refine hK13 a14 w12 ?_
      refine wp_seq_k fun K15 hK15 => ?_
      refine wp_cond_split (t := decide (((j : Int) : Int) < ((u.length : Int) : Int))) (eK g14_11) (fun hc16 => ?_) (fun hc16 => ?_)
      · have hjl : j < u.length := by simp at hc16; omega
        obtain ⟨k, x, hkx⟩ : ∃ k x, u[j]? = some (k, x) := ⟨(u[j]).1, (u[j]).2, by simp [hjl]⟩
        obtain ⟨bl, ol, xv, hq, hbl, hk32, hrl, hox⟩ := hk j k x hkx
        refine wp_skip ?_
        refine hK15 a14 w12 ?_
        refine wp_seq_k fun K17 hK17 => ?_
        refine wp_blockT ?_
        refine wS fun K18 hK18 => ?_
        refine wC (wp_ixN (b := bl) (o := ol) (i := j) hs_T24 (by rw [eTm, g14_8, hq]) (eK g14_10) hjl ?_)
        refine wC (wp_loadFlat (cs := [.int .u32 (k : Int), xv]) (b := bl) (o := ol + j * 2) hFlT60 rfl (eS hz14) (hfw.range hrl .nil) ?_)
        refine wC (wp_allocL hFlT60 ?_)
        rintro w19 f19 sz19 r19 th19
        have hF20 : Fr [] w w19 := hfw.tr f19
        refine wC (wp_storeL (cs := [.int .u32 (k : Int), xv]) (o := 0) hFlT60 rfl (eS hz14) (eS hz14) (by intro u hu; simp at hu; rcases hu with rfl | rfl; rfl; exact hox.one) th19 ?_)
        rintro w21 f21 sz21 r21 th21
        have hF21 : Fr [] w w21 := hF20.trans f21 (fun r hr => .inl (by simp at hr; subst hr; have := hfw.size; simp only; omega))
        refine wEn fun a22 ha22 => ?_
        have hz22 := kS ha22 hz14
        have hd22 := kD ha22 hd14
        have g22_4 : get a22 4 = .pointer (some ⟨w12.heap.size, 0, none⟩) := kG ha22 hz14
        have g22_8 := kP ha22 g14_8
        have g22_9 := kP ha22 g14_9
        have g22_10 := kP ha22 g14_10
        refine hK18 a22 w21 ?_
        refine wS fun K23 hK23 => ?_
        refine wC (wp_loadFlat (cs := [.int .u32 (k : Int), xv]) (b := w12.heap.size) (o := 0) hFlT60 rfl (eK g22_4) r21 ?_)
        refine wC (wCr (R := fun vz wz => (∃ b : Bool, vz = .bool b) ∧ Fr [] w21 wz) (vs := #[.agg ([.int .u32 (k : Int), xv] : List Value).toArray]) h3.enters (mX1 (eS hz22)) ((h3.call w21 A k xv x (hox.kept hF21 (by simp) (fun _ h => h))).mono (by rintro e wz ⟨⟨b, rfl⟩, h⟩; exact ⟨_, rfl, ⟨b, rfl⟩, h⟩)) ?_)
        rintro _ w24 ⟨⟨bb, rfl⟩, fr24⟩
        have hF25 : Fr [] w w24 := hF21.tr fr24
        have rb26 := fr24.range r21 .nil
        refine wC (wp_not (b := bb) (eS hz22) ?_)
        refine wEn fun a27 ha27 => ?_
        have hz27 := kS ha27 hz22
        have hd27 := kD ha27 hd22
        have g27_8 := kP ha27 g22_8
        have g27_9 := kP ha27 g22_9
        have g27_10 := kP ha27 g22_10
        have g27_16 : get a27 16 = .bool (!bb) := kG ha27 hz22
        refine hK23 a27 w24 ?_
        refine wp_cond_split (t := !bb) (eK g27_16) (fun hc28 => ?_) (fun hc28 => ?_)
        · refine wp_seq_k fun K29 hK29 => ?_
          refine wp_reg ?_
          refine wC (wAs (v := .bool false) rfl ?_)
          refine wEn fun a30 ha30 => ?_
          have hz30 := kS ha30 hz27
          have hd30 := kD ha30 hd27
          have g30_2 : get a30 2 = .bool false := kG ha30 hz27
          refine hK29 a30 w24 ?_
          refine wp_ret ?_
          exact ⟨hd30, _, rIs hres g30_2, ⟨_, rfl⟩, hF25⟩
        · refine wp_skip ?_
          refine hK17 a27 w24 ?_
          refine wp_reg ?_
          refine wC (wp_add (k1 := .i64) (i := (j : Int)) (j := 1) (eK g27_10) rfl ?_)
          rw [show (IntKind.i64.wrap (((j : Int) : Int) + (1 : Int)) : Int) = (((j + 1 : Nat) : Int) : Int) from by simp only [IntKind.wrap, IntKind.bits, IntKind.signed]; simp; omega]
          refine wC (wMv (v := .int .i64 ((j + 1 : Nat) : Int)) (eS hz27) ?_)
          refine wEn fun a31 ha31 => ?_
          have hz31 := kS ha31 hz27
          have hd31 := kD ha31 hd27
          have g31_8 := kP ha31 g27_8
          have g31_9 := kP ha31 g27_9
          have g31_10 : get a31 10 = .int .i64 ((j + 1 : Nat) : Int) := kG ha31 hz27
          exact ⟨m - 1, by omega, j + 1, hz31, hd31, g31_8, g31_9, g31_10, by omega, hF25⟩
      · refine wp_exit ?_
        show K9 a14 w12
        refine hK9 a14 w12 (tUp ?_)
        refine wT fun K32 hK32 => ?_
        refine wC (wAs (v := .bool true) rfl ?_)
        refine wEn fun a33 ha33 => ?_
        have hz33 := kS ha33 hz14
        have hd33 := kD ha33 hd14
        have g33_2 : get a33 2 = .bool true := kG ha33 hz14
        refine hK32 a33 w12 (tUp ?_)
        refine wp_ret ?_
        exact ⟨hd33, _, rIs hres g33_2, ⟨_, rfl⟩, hfw⟩
theorem fits1_m {P : Program} {f : FuncId} {fn : Func} {T3 T4 T22 T23 T24 T26 : TypeId} {f23 : FuncId} {a0 : Array TypeId} {i0 i1 i2 i3 i4 i5 i6 i7 : Nat} {t0 t1 t2 t3 t4 t5 t6 t7 t8 t9 t10 t11 t12 t13 t14 t15 t16 t17 : TypeId} {p0 p1 p2 p3 p4 p5 p6 p7 p8 p9 p10 p11 p12 p13 p14 p15 p16 p17 : String} {e0 e1 e2 e3 e4 e5 e6 e7 e8 e9 e10 e11 e12 e13 e14 e15 e16 e17 : Array Edge} 
    (hf : P.funcs[f]? = some fn) (hname : (fn.name == "runtime.NumGoroutine") = false) (hres : fn.results = #[.tmp 2]) (hN : fn.ntmps = 15)
    (hbody : fn.body = some (.seq (Code.region i0 ⟨[⟨some 1, .box T26 (.tmp 0), t0, p0, e0, none⟩,
    ⟨some 2, .assign (.const (.bool false)), t1, p1, e1, none⟩]⟩ false)
  (.seq (.seq (Code.region i1 ⟨[⟨some 3, .fieldAddr T26 (.tmp 1) 1, t2, p2, e2, none⟩,
    ⟨some 4, .load T22 (.tmp 3), t3, p3, e3, none⟩,
    ⟨some 5, .call ⟨.builtin .len, #[(.tmp 4)], #[T22]⟩, t4, p4, e4, none⟩,
    ⟨some 6, .binOp .gtr T3 (.tmp 5) (.const (.int .i64 2147483647)) T3, t5, p5, e5, none⟩]⟩ false)
  (.cond (.tmp 6) (.seq (Code.region i2 ⟨[⟨some 2, .assign (.const (.bool false)), t6, p6, e6, none⟩]⟩ false)
  .ret)
  .skip))
  (.seq (.seq (Code.region i3 ⟨[⟨some 7, .fieldAddr T26 (.tmp 1) 3, t7, p7, e7, none⟩,
    ⟨some 8, .load T23 (.tmp 7), t8, p8, e8, none⟩,
    ⟨some 9, .call ⟨.builtin .len, #[(.tmp 8)], #[T23]⟩, t9, p9, e9, none⟩,
    ⟨some 10, .binOp .gtr T3 (.tmp 9) (.const (.int .i64 2147483647)) T3, t10, p10, e10, none⟩]⟩ false)
  (.cond (.tmp 10) (.seq (Code.region i4 ⟨[⟨some 2, .assign (.const (.bool false)), t11, p11, e11, none⟩]⟩ false)
  .ret)
  .skip))
  (.seq (.seq (Code.region i5 ⟨[⟨some 11, .fieldAddr T26 (.tmp 1) 4, t12, p12, e12, none⟩,
    ⟨some 12, .load T24 (.tmp 11), t13, p13, e13, none⟩,
    ⟨some 13, .call ⟨.value (.func f23), #[(.tmp 12)], a0⟩, t14, p14, e14, none⟩,
    ⟨some 14, .unOp .not T4 (.tmp 13), t15, p15, e15, none⟩]⟩ false)
  (.cond (.tmp 14) (.seq (Code.region i6 ⟨[⟨some 2, .assign (.const (.bool false)), t16, p16, e16, none⟩]⟩ false)
  .ret)
  .skip))
  (.seq (Code.region i7 ⟨[⟨some 2, .assign (.const (.bool true)), t17, p17, e17, none⟩]⟩ false)
  .ret))))))
    (hFlT26 : Flat P T26 zT) (hcT22 : scal P T22 = true) (hsT22 : slTy P T22 = true) (hcT23 : scal P T23 = true) (hsT23 : slTy P T23 = true) (hcT24 : scal P T24 = true) (h2 : Fit2M P f23) : FitM P f := by
  refine ⟨enters_of hf hname hbody, ?_⟩
  intro w A ct t ht
  cases t with
  | mk n s nl l u =>
  obtain ⟨sv, lv, uv, rfl, hn, hs, hl, hu⟩ := repT_iff.1 ht
  obtain ⟨q, cap, rfl, -, -, -⟩ := hs.slice2
  obtain ⟨lq, lcap, rfl⟩ := hl.slice
  refine calls_of_wp hf hbody ?_
  generalize ha0 : ({ tmps := #[Value.agg ([.int .i64 n, .slice q s.length cap, .bool nl, .slice lq l.length lcap, uv] : List Value).toArray] ++ Array.replicate (fn.ntmps - (#[Value.agg ([.int .i64 n, .slice q s.length cap, .bool nl, .slice lq l.length lcap, uv] : List Value).toArray] : Array Value).size) undef, defers := [] } : Act) = a0
  have hz0 : a0.tmps.size = 15 := by subst ha0; simp [hN]
  have hd0 : a0.defers = [] := by subst ha0; rfl
  have g0_0 : get a0 0 = .agg ([.int .i64 n, .slice q s.length cap, .bool nl, .slice lq l.length lcap, uv] : List Value).toArray := by subst ha0; exact gAr rfl
  refine wT fun K1 hK1 => ?_
  refine wC (wp_boxL (cs := [.int .i64 n, .slice q s.length cap, .bool nl, .slice lq l.length lcap, uv]) (eK g0_0) ?_)
  rintro w2 f2 sz2 r2 th2
  have hF3 : Fr [] w w2 := f2
  refine wC (wAs (v := .bool false) rfl ?_)
  refine wEn fun a4 ha4 => ?_
  have hz4 := kS ha4 hz0
  have hd4 := kD ha4 hd0
  have g4_1 : get a4 1 = .pointer (some ⟨w.heap.size, 0, none⟩) := kG ha4 hz0
  refine hK1 a4 w2 (tUp ?_)
  refine tId (wp_seq_k fun K5 hK5 => ?_)
  refine wS fun K6 hK6 => ?_
  refine wC (wFa (b := w.heap.size) (i := 0) (hFlT26.fld (by decide)) (eK g4_1) ?_)
  rw [show (0 + 1 : Nat) = 1 from rfl]
  refine wC (wL0 (j := 1) (v := .slice q s.length cap) hcT22 (eS hz4) r2 rfl ?_)
  refine wC (wp_lenS (n := s.length) hsT22 (eS hz4) ?_)
  refine wC (wp_gtr (k1 := .i64) (i := ((s.length : Nat) : Int)) (j := 2147483647) (eS hz4) rfl ?_)
  refine wEn fun a7 ha7 => ?_
  have hz7 := kS ha7 hz4
  have hd7 := kD ha7 hd4
  have g7_1 := kP ha7 g4_1
  have g7_6 : get a7 6 = .bool (decide ((((s.length : Nat) : Int) : Int) > (2147483647 : Int))) := kG ha7 hz4
  refine hK6 a7 w2 ?_
  refine wp_cond_split (t := decide ((((s.length : Nat) : Int) : Int) > (2147483647 : Int))) (eK g7_6) (fun hc8 => ?_) (fun hc8 => ?_)
  · refine wp_seq_k fun K9 hK9 => ?_
    refine wp_reg ?_
    refine wC (wAs (v := .bool false) rfl ?_)
    refine wEn fun a10 ha10 => ?_
    have hz10 := kS ha10 hz7
    have hd10 := kD ha10 hd7
    have g10_2 : get a10 2 = .bool false := kG ha10 hz7
    refine hK9 a10 w2 ?_
    refine wp_ret ?_
    exact ⟨hd10, _, rIs hres g10_2, ⟨_, rfl⟩, hF3⟩
  · refine wp_skip ?_
    refine hK5 a7 w2 (tUp ?_)
    refine tId (wp_seq_k fun K11 hK11 => ?_)
    refine wS fun K12 hK12 => ?_
    refine wC (wFa (b := w.heap.size) (i := 0) (hFlT26.fld (by decide)) (eK g7_1) ?_)
    rw [show (0 + 3 : Nat) = 3 from rfl]
    refine wC (wL0 (j := 3) (v := .slice lq l.length lcap) hcT23 (eS hz7) r2 rfl ?_)
    refine wC (wp_lenS (n := l.length) hsT23 (eS hz7) ?_)
    refine wC (wp_gtr (k1 := .i64) (i := ((l.length : Nat) : Int)) (j := 2147483647) (eS hz7) rfl ?_)
    refine wEn fun a13 ha13 => ?_
    have hz13 := kS ha13 hz7
    have hd13 := kD ha13 hd7
    have g13_1 := kP ha13 g7_1
    have g13_10 : get a13 10 = .bool (decide ((((l.length : Nat) : Int) : Int) > (2147483647 : Int))) := kG ha13 hz7
    refine hK12 a13 w2 ?_
    refine wp_cond_split (t := decide ((((l.length : Nat) : Int) : Int) > (2147483647 : Int))) (eK g13_10) (fun hc14 => ?_) (fun hc14 => ?_)
    · refine wp_seq_k fun K15 hK15 => ?_
      refine wp_reg ?_
      refine wC (wAs (v := .bool false) rfl ?_)
      refine wEn fun a16 ha16 => ?_
      have hz16 := kS ha16 hz13
      have hd16 := kD ha16 hd13
      have g16_2 : get a16 2 = .bool false := kG ha16 hz13
      refine hK15 a16 w2 ?_
      refine wp_ret ?_
      exact ⟨hd16, _, rIs hres g16_2, ⟨_, rfl⟩, hF3⟩
    · refine wp_skip ?_
      refine hK11 a13 w2 (tUp ?_)
      refine tId (wp_seq_k fun K17 hK17 => ?_)
      refine wS fun K18 hK18 => ?_
      refine wC (wFa (b := w.heap.size) (i := 0) (hFlT26.fld (by decide)) (eK g13_1) ?_)
      rw [show (0 + 4 : Nat) = 4 from rfl]
      refine wC (wL0 (j := 4) (v := uv) hcT24 (eS hz13) r2 rfl ?_)
      refine wC (wCr (R := fun vz wz => (∃ b : Bool, vz = .bool b) ∧ Fr [] w2 wz) (vs := #[uv]) h2.enters (mX1 (eS hz13)) ((h2.call w2 A _ u (hu.kept hF3 (by simp) (fun _ h => h))).mono (by rintro e wz ⟨⟨b, rfl⟩, h⟩; exact ⟨_, rfl, ⟨b, rfl⟩, h⟩)) ?_)
      rintro _ w19 ⟨⟨bb, rfl⟩, fr19⟩
      have hF20 : Fr [] w w19 := hF3.tr fr19
      have rb21 := fr19.range r2 .nil
      refine wC (wp_not (b := bb) (eS hz13) ?_)
      refine wEn fun a22 ha22 => ?_
      have hz22 := kS ha22 hz13
      have hd22 := kD ha22 hd13
      have g22_14 : get a22 14 = .bool (!bb) := kG ha22 hz13
      refine hK18 a22 w19 ?_
      refine wp_cond_split (t := !bb) (eK g22_14) (fun hc23 => ?_) (fun hc23 => ?_)
      · refine wp_seq_k fun K24 hK24 => ?_
        refine wp_reg ?_
        refine wC (wAs (v := .bool false) rfl ?_)
        refine wEn fun a25 ha25 => ?_
        have hz25 := kS ha25 hz22
        have hd25 := kD ha25 hd22
        have g25_2 : get a25 2 = .bool false := kG ha25 hz22
        refine hK24 a25 w19 ?_
        refine wp_ret ?_
        exact ⟨hd25, _, rIs hres g25_2, ⟨_, rfl⟩, hF20⟩
      · refine wp_skip ?_
        refine hK17 a22 w19 (tUp ?_)
        refine wT fun K26 hK26 => ?_
        refine wC (wAs (v := .bool true) rfl ?_)
        refine wEn fun a27 ha27 => ?_
        have hz27 := kS ha27 hz22
        have hd27 := kD ha27 hd22
        have g27_2 : get a27 2 = .bool true := kG ha27 hz22
        refine hK26 a27 w19 (tUp ?_)
        refine wp_ret ?_
        exact ⟨hd27, _, rIs hres g27_2, ⟨_, rfl⟩, hF20⟩
end Go.Kq

namespace Go.Kq
open Go Go.Proofs
structure KeptM (P : Program) (f : FuncId) (fs : List Fd) (enc : Int → Bool → T → List UInt8) : Prop where
  enters : Enters P f
  call : ∀ (w : World) (A B : Nat → Prop) (ver fx : Int) (fsv : Value) (ct : List Value) (t : T), FdsR w A fsv fs → RepT w B ct t → (∀ b, A b → b < w.heap.size) → (∀ b, B b → b < w.heap.size) → (enc ver (decide (fx ≥ 0) && decide (ver ≥ fx)) t).length ≤ 4294967000 →
    Calls P f #[.agg ([fsv, .int .i64 fx] : List Value).toArray, .int .i64 ver, .agg ct.toArray] w fun e w' => ∃ v, e = .returned v ∧ Fr [] w w' ∧ OctE w' (From w.heap.size w') v (fxW ver 2 ++ enc ver (decide (fx ≥ 0) && decide (ver ≥ fx)) t)
structure LawK (P : Program) (f : FuncId) (small : T → Prop) : Prop where
  enters : Enters P f
  call : ∀ (w : World) (n : Nat) (B : Nat → Prop) (ct : List Value) (t : T), n < 256 → RepT w B ct t → (∀ b, B b → b < w.heap.size) → small t →
    Calls P f #[.int .u8 (n : Int), .agg ct.toArray] w fun e w' => e = .returned (.bool true) ∧ Fr [] w w'
theorem kept_m {P : Program} {f : FuncId} {fn : Func} {T22 T26 T30 : TypeId} {f19 f36 : FuncId} {ct0 : Array TypeId} {ct1 : Array TypeId} {i0 i1 : Nat} {t0 t1 t2 t3 t4 t5 t6 t7 t8 t9 t10 : TypeId} {p0 p1 p2 p3 p4 p5 p6 p7 p8 p9 p10 : String} {e0 e1 e2 e3 e4 e5 e6 e7 e8 e9 e10 : Array Edge} {te : TypeId} {fs : List Fd} {enc : Int → Bool → T → List UInt8}
    (hf : P.funcs[f]? = some fn) (hname : (fn.name == "runtime.NumGoroutine") = false) (hres : fn.results = #[.tmp 6]) (hN : fn.ntmps = 14)
    (hbody : fn.body = some (.seq (Code.region i0 ⟨[⟨some 3, .box T30 (.tmp 0), t0, p0, e0, none⟩,
    ⟨some 5, .box T26 (.tmp 2), t1, p1, e1, none⟩,
    ⟨some 6, .assign (.const (.slice none 0 0)), t2, p2, e2, none⟩]⟩ false)
  (.seq (Code.region i1 ⟨[⟨some 7, .move (.tmp 1), t3, p3, e3, none⟩,
    ⟨some 8, .call ⟨.value (.func f36), #[(.tmp 7), (.const (.int .i64 2))], ct0⟩, t4, p4, e4, none⟩,
    ⟨some 9, .load T30 (.tmp 3), t5, p5, e5, none⟩,
    ⟨some 10, .move (.tmp 1), t6, p6, e6, none⟩,
    ⟨some 11, .load T26 (.tmp 5), t7, p7, e7, none⟩,
    ⟨some 12, .call ⟨.value (.func f19), #[(.tmp 9), (.tmp 10), (.tmp 11)], ct1⟩, t8, p8, e8, none⟩,
    ⟨some 13, .call ⟨.builtin .append, #[(.tmp 8), (.tmp 12)], #[T22, T22]⟩, t9, p9, e9, none⟩,
    ⟨some 6, .assign (.tmp 13), t10, p10, e10, none⟩]⟩ true)
  .ret)))
    (hs_T22 : sliceOf P T22 te 1 1 = true) (hz_T22 : zeroIs P te [.int .u8 0]) (hFlT30 : Flat P T30 zM) (hFlT26 : Flat P T26 zT) (he1 : edgeOk 0 [e3, e4, e5, e6, e7, e8, e9, e10] [[], [0], [], [], [], [2, 3, 4], [0, 1, 2, 3, 4, 5], [0, 1, 2, 3, 4, 5, 6]] = true) (hmx : P.follows .mixedOrders = true) (hFx : FixM P f36) (hWr : WriteM P f19 fs enc) : KeptM P f fs enc := by
  refine ⟨enters_of hf hname hbody, ?_⟩
  intro w A B ver fx fsv ct t hfs ht hA hB hlen
  cases t with
  | mk tn s nl l u =>
  have ht0 := ht
  obtain ⟨sv, lv, uv, rfl, hn0, hs, hl, hu⟩ := repT_iff.1 ht
  have hfs1 := hfs.one
  have hF0 : Fr [] w w := Fr.refl [] w
  refine calls_of_wp hf hbody ?_
  generalize ha0 : ({ tmps := #[Value.agg ([fsv, .int .i64 fx] : List Value).toArray, Value.int .i64 ver, Value.agg ([.int .i64 tn, sv, .bool nl, lv, uv] : List Value).toArray] ++ Array.replicate (fn.ntmps - (#[Value.agg ([fsv, .int .i64 fx] : List Value).toArray, Value.int .i64 ver, Value.agg ([.int .i64 tn, sv, .bool nl, lv, uv] : List Value).toArray] : Array Value).size) undef, defers := [] } : Act) = a0
  have hz0 : a0.tmps.size = 14 := by subst ha0; simp [hN]
  have hd0 : a0.defers = [] := by subst ha0; rfl
  have g0_0 : get a0 0 = .agg ([fsv, .int .i64 fx] : List Value).toArray := by subst ha0; exact gAr rfl
  have g0_1 : get a0 1 = .int .i64 ver := by subst ha0; exact gAr rfl
  have g0_2 : get a0 2 = .agg ([.int .i64 tn, sv, .bool nl, lv, uv] : List Value).toArray := by subst ha0; exact gAr rfl
  refine wT fun K1 hK1 => ?_
  refine wC (wp_boxL (cs := [fsv, .int .i64 fx]) (eK g0_0) ?_)
  rintro w2 f2 sz2 r2 th2
  have hF3 : Fr [] w w2 := hF0.tr f2
  refine wC (wp_boxL (cs := [.int .i64 tn, sv, .bool nl, lv, uv]) (eK g0_2) ?_)
  rintro w4 f4 sz4 r4 th4
  have hF5 : Fr [] w w4 := hF3.tr f4
  have rb6 := f4.range r2 .nil
  refine wC (wAs (v := .slice none 0 0) rfl ?_)
  refine wEn fun a7 ha7 => ?_
  have hz7 := kS ha7 hz0
  have hd7 := kD ha7 hd0
  have g7_1 := kP ha7 g0_1
  have g7_3 : get a7 3 = .pointer (some ⟨w.heap.size, 0, none⟩) := kG ha7 hz0
  have g7_5 : get a7 5 = .pointer (some ⟨w2.heap.size, 0, none⟩) := kG ha7 hz0
  refine hK1 a7 w4 (tUp ?_)
  refine tId (wp_seq_k fun K8 hK8 => ?_)
  refine wp_drawR (os := [⟨some 7, .move (.tmp 1), t3, p3, e3, none⟩, ⟨some 8, .call ⟨.value (.func f36), #[(.tmp 7), (.const (.int .i64 2))], ct0⟩, t4, p4, e4, none⟩, ⟨some 9, .load T30 (.tmp 3), t5, p5, e5, none⟩, ⟨some 10, .move (.tmp 1), t6, p6, e6, none⟩, ⟨some 11, .load T26 (.tmp 5), t7, p7, e7, none⟩, ⟨some 12, .call ⟨.value (.func f19), #[(.tmp 9), (.tmp 10), (.tmp 11)], ct1⟩, t8, p8, e8, none⟩]) (rest := [⟨some 13, .call ⟨.builtin .append, #[(.tmp 8), (.tmp 12)], #[T22, T22]⟩, t9, p9, e9, none⟩, ⟨some 6, .assign (.tmp 13), t10, p10, e10, none⟩]) [spC [] (.int .i64 ver), spR [0] (fun x w' => Own w' (From w4.heap.size w') 1 x (fxW ver 2).length (octets (fxW ver 2))), spC [] (.agg ([fsv, .int .i64 fx] : List Value).toArray), spC [] (.int .i64 ver), spC [] (.agg ([.int .i64 tn, sv, .bool nl, lv, uv] : List Value).toArray), spR [2, 3, 4] (fun x w' => OctE w' (From w4.heap.size w') x (enc ver (decide (fx ≥ 0) && decide (ver ≥ fx)) (.mk tn s nl l u)))] 7 [] hmx he1 (by simp [shape]) (by simp [plainO]) (by simp [spC, spR]) (by simp; omega) ⟨lCc _ _ _, (fun v w1 w2 f h => Own.kept h f (by simp) (fun _ hb => ⟨hb.1, Nat.lt_of_lt_of_le hb.2 f.size⟩)), lCc _ _ _, lCc _ _ _, lCc _ _ _, (fun v w1 w2 f h => OctE.kept h f (by simp) (fun _ hb => ⟨hb.1, Nat.lt_of_lt_of_le hb.2 f.size⟩)), trivial⟩ ?_ ?_
  · refine oCs ?_ ?_
    · refine op_c fun a' w' hk' hf' hd' K' hK' => ?_
      refine wMv (v := .int .i64 ver) (by rw [eTm, hk'.get 1 (by omega), g7_1]) ?_
      exact hK'
    refine oCs ?_ ?_
    · refine op_r fun a' w' hk' hf' hd' K' hK' => ?_
      refine wCr (R := fun vz wz => Fr [] w' wz ∧ Own wz (From w'.heap.size wz) 1 vz (fxW ver 2).length (octets (fxW ver 2))) (vs := #[.int .i64 ver, .int .i64 2]) hFx.enters (by simp only [List.map_toArray, List.map_cons, List.map_nil]; rw [show a'.eval (.tmp 7) = Value.int .i64 ver from (by rw [eTm]; exact hd'.c (nd' := []) 0 (by simp) rfl), show a'.eval (.const (.int .i64 2)) = Value.int .i64 2 from rfl]) (calls_fresh (hFx.call w' ver 2 (by decide))) ?_
      rintro x9 w9 ⟨fr9, ow9⟩
      exact hK' x9 w9 (ow9.imp_A (fun b hb => (⟨Nat.le_trans hf'.size hb.1, hb.2⟩ : From w4.heap.size w9 b))) fr9
    refine oCs ?_ ?_
    · refine op_c fun a' w' hk' hf' hd' K' hK' => ?_
      refine wp_loadFlat (cs := [fsv, .int .i64 fx]) (b := w.heap.size) (o := 0) hFlT30 rfl (by rw [eTm, hk'.get 3 (by omega), g7_3]) ((hf'.range rb6 .nil)) ?_
      exact hK'
    refine oCs ?_ ?_
    · refine op_c fun a' w' hk' hf' hd' K' hK' => ?_
      refine wMv (v := .int .i64 ver) (by rw [eTm, hk'.get 1 (by omega), g7_1]) ?_
      exact hK'
    refine oCs ?_ ?_
    · refine op_c fun a' w' hk' hf' hd' K' hK' => ?_
      refine wp_loadFlat (cs := [.int .i64 tn, sv, .bool nl, lv, uv]) (b := w2.heap.size) (o := 0) hFlT26 rfl (by rw [eTm, hk'.get 5 (by omega), g7_5]) ((hf'.range r4 .nil)) ?_
      exact hK'
    refine oCs ?_ ?_
    · refine op_r fun a' w' hk' hf' hd' K' hK' => ?_
      refine wCr (R := fun vz wz => Fr [] w' wz ∧ OctE wz (From w'.heap.size wz) vz (enc ver (decide (fx ≥ 0) && decide (ver ≥ fx)) (.mk tn s nl l u))) (vs := #[.agg ([fsv, .int .i64 fx] : List Value).toArray, .int .i64 ver, .agg ([.int .i64 tn, sv, .bool nl, lv, uv] : List Value).toArray]) hWr.enters (by simp only [List.map_toArray, List.map_cons, List.map_nil]; rw [show a'.eval (.tmp 9) = Value.agg ([fsv, .int .i64 fx] : List Value).toArray from (by rw [eTm]; exact hd'.c (nd' := []) 2 (by simp) rfl), show a'.eval (.tmp 10) = Value.int .i64 ver from (by rw [eTm]; exact hd'.c (nd' := []) 3 (by simp) rfl), show a'.eval (.tmp 11) = Value.agg ([.int .i64 tn, sv, .bool nl, lv, uv] : List Value).toArray from (by rw [eTm]; exact hd'.c (nd' := []) 4 (by simp) rfl)]) ((calls_fresh (hWr.call w' A B ver fx fsv _ _ ((hfs.kept hF5 (by simp) (fun _ h => h)).kept hf' (by simp) (fun _ h => h)) ((ht0.kept hF5 (by simp) (fun _ h => h)).kept hf' (by simp) (fun _ h => h)) (fun b hb => Nat.lt_of_lt_of_le (hA b hb) (hF5.tr hf').size) (fun b hb => Nat.lt_of_lt_of_le (hB b hb) (hF5.tr hf').size) (by omega))).mono (by rintro e wz ⟨v, rfl, h1, h2⟩; exact ⟨_, rfl, h1, h2.octE (by omega)⟩)) ?_
      rintro x10 w10 ⟨fr10, ow10⟩
      exact hK' x10 w10 (ow10.kept (Fr.refl [] _) (by simp) (fun b hb => (⟨Nat.le_trans hf'.size hb.1, hb.2⟩ : From w4.heap.size w10 b))) fr10
    exact opsOk_nil
  intro a11 w11 k11 f11 hd_11
  have hz11 : a11.tmps.size = 14 := k11.size.trans hz7
  have hd11 : a11.defers = [] := k11.defers.trans hd7
  have hF12 : Fr [] w w11 := hF5.tr f11
  have rb13 := f11.range rb6 .nil
  have rb14 := f11.range r4 .nil
  rw [wCo]
  obtain ⟨xv, hxv, oxv⟩ : ∃ xv, get a11 8 = xv ∧ Own w11 (From w4.heap.size w11) 1 xv (fxW ver 2).length (octets (fxW ver 2)) := ⟨_, rfl, hd_11.at (d := 1) (by simp) rfl⟩
  obtain ⟨yv, hyv, oyv⟩ : ∃ yv, get a11 12 = yv ∧ OctE w11 (From w4.heap.size w11) yv (enc ver (decide (fx ≥ 0) && decide (ver ≥ fx)) (.mk tn s nl l u)) := ⟨_, rfl, hd_11.at (d := 5) (by simp) rfl⟩
  refine wp_appA (xs := fxW ver 2) (ys := (enc ver (decide (fx ≥ 0) && decide (ver ≥ fx)) (.mk tn s nl l u))) hs_T22 hz_T22 (by rw [eTm]; exact hxv) (by rw [eTm]; exact hyv) oxv oyv (by simp only [fxL]; omega) ?_
  intro vB wB haB
  obtain ⟨_, hvB, fB, oB, iB⟩ := haB _ rfl
  cases hvB
  have szB := fB.size
  have hFB : Fr [] w wB := hF12.trans fB (fun r hr => .inl (by have := oxv.spare_in r hr; have := this.1; have := hF5.size; omega))
  refine wC (wAs (v := vB) (eS hz11) ?_)
  refine wEn fun a16 ha16 => ?_
  have hz16 := kS ha16 hz11
  have hd16 := kD ha16 hd11
  have g16_6 : get a16 6 = vB := kG ha16 hz11
  refine hK8 a16 wB (tUp ?_)
  refine wp_ret ?_
  exact ⟨hd16, _, rIs hres g16_6, _, rfl, hFB, (oB.imp_A (A' := From w.heap.size wB) (by rintro b (h | h); exact ⟨by have := h.1; have := hF5.size; omega, by have := h.2; omega⟩; exact ⟨by have := h.1; have := hF12.size; omega, h.2⟩)).octE (by simp only [List.length_append, fxL]; omega)⟩
theorem lawk_m {P : Program} {f : FuncId} {fn : Func} {T3 T4 T5 T26 T28 T30 : TypeId} {f8 f9 f10 f11 f12 f13 f14 : FuncId} {ct0 : Array TypeId} {ct1 : Array TypeId} {ct2 : Array TypeId} {ct3 : Array TypeId} {ct4 : Array TypeId} {ct5 : Array TypeId} {ct6 : Array TypeId} {i0 i1 i2 i3 i4 : Nat} {t0 t1 t2 t3 t4 t5 t6 t7 t8 t9 t10 t11 t12 t13 t14 t15 t16 t17 t18 t19 t20 t21 t22 t23 t24 t25 t26 : TypeId} {p0 p1 p2 p3 p4 p5 p6 p7 p8 p9 p10 p11 p12 p13 p14 p15 p16 p17 p18 p19 p20 p21 p22 p23 p24 p25 p26 : String} {e0 e1 e2 e3 e4 e5 e6 e7 e8 e9 e10 e11 e12 e13 e14 e15 e16 e17 e18 e19 e20 e21 e22 e23 e24 e25 e26 : Array Edge} {fx : Int} {fs : List Fd} {enc : Int → Bool → T → List UInt8} {ft : Int → T → T} {g : Int → T → List UInt8 → Prop} {small : T → Prop}
    (hf : P.funcs[f]? = some fn) (hname : (fn.name == "runtime.NumGoroutine") = false) (hres' : fn.results = #[.tmp 4]) (hN : fn.ntmps = 27)
    (hbody : fn.body = some (.seq (Code.region i0 ⟨[⟨some 3, .box T26 (.tmp 1), t0, p0, e0, none⟩,
    ⟨some 4, .assign (.const (.bool false)), t1, p1, e1, none⟩]⟩ false)
  (.seq (.seq (Code.region i1 ⟨[⟨some 7, .load T26 (.tmp 3), t2, p2, e2, none⟩,
    ⟨some 8, .call ⟨.value (.func f8), #[(.tmp 7)], ct0⟩, t3, p3, e3, none⟩,
    ⟨some 9, .unOp .not T4 (.tmp 8), t4, p4, e4, none⟩]⟩ false)
  (.cond (.tmp 9) (.seq (Code.region i2 ⟨[⟨some 4, .assign (.const (.bool true)), t5, p5, e5, none⟩]⟩ false)
  .ret)
  .skip))
  (.seq (Code.region i3 ⟨[⟨some 10, .call ⟨.value (.func f9), #[], ct1⟩, t6, p6, e6, none⟩,
    ⟨some 11, .move (.tmp 0), t7, p7, e7, none⟩,
    ⟨some 12, .convert T5 T3 (.tmp 11), t8, p8, e8, none⟩,
    ⟨some 13, .binOp .rem T3 (.tmp 12) (.const (.int .i64 2)) T3, t9, p9, e9, none⟩,
    ⟨some 5, .alloc T30, t10, p10, e10, none⟩,
    ⟨none, .store T30 (.tmp 5) (.tmp 10), t11, p11, e11, none⟩,
    ⟨some 6, .assign (.tmp 13), t12, p12, e12, none⟩]⟩ false)
  (.seq (Code.region i4 ⟨[⟨some 14, .move (.tmp 6), t13, p13, e13, none⟩,
    ⟨some 15, .fieldAddr T30 (.tmp 5) 0, t14, p14, e14, none⟩,
    ⟨some 16, .load T28 (.tmp 15), t15, p15, e15, none⟩,
    ⟨some 17, .move (.tmp 6), t16, p16, e16, none⟩,
    ⟨some 18, .load T26 (.tmp 3), t17, p17, e17, none⟩,
    ⟨some 19, .call ⟨.value (.func f13), #[(.tmp 16), (.tmp 17), (.tmp 18)], ct2⟩, t18, p18, e18, none⟩,
    ⟨some 20, .call ⟨.value (.func f12), #[(.tmp 19)], ct3⟩, t19, p19, e19, none⟩,
    ⟨some 21, .call ⟨.value (.func f11), #[(.tmp 14), (.tmp 20)], ct4⟩, t20, p20, e20, none⟩,
    ⟨some 22, .load T30 (.tmp 5), t21, p21, e21, none⟩,
    ⟨some 23, .move (.tmp 6), t22, p22, e22, none⟩,
    ⟨some 24, .load T26 (.tmp 3), t23, p23, e23, none⟩,
    ⟨some 25, .call ⟨.value (.func f14), #[(.tmp 22), (.tmp 23), (.tmp 24)], ct5⟩, t24, p24, e24, none⟩,
    ⟨some 26, .call ⟨.value (.func f10), #[(.tmp 21), (.tmp 25)], ct6⟩, t25, p25, e25, none⟩,
    ⟨some 4, .assign (.tmp 26), t26, p26, e26, none⟩]⟩ true)
  .ret)))))
    (hFlT26 : Flat P T26 zT) (hT5_u8 : intOf P T5 .u8 = true) (hT3_i64 : intOf P T3 .i64 = true) (hFlT30 : Flat P T30 zM) (hcT28 : scal P T28 = true) (he4 : edgeOk 0 [e13, e14, e15, e16, e17, e18, e19, e20, e21, e22, e23, e24, e25, e26] [[], [], [1], [], [], [2, 3, 4], [5], [0, 6], [], [], [], [8, 9, 10], [7, 11], [0, 1, 2, 3, 4, 5, 6, 7, 8, 9, 10, 11, 12]] = true) (hmx : P.follows .mixedOrders = true) (hFit : FitM P f8) (hSch : SchM P f9 fs fx) (hFt : FitTM P f13 fs ft) (hGi : Enters P f12 ∧ ∀ t, GotCall P f12 t) (hMk : MakeM P f11 g) (hKp : KeptM P f14 fs enc) (hSame : SameM P f10)
    (hplain : ∀ ver : Int, 0 ≤ ver → ver ≤ 1 → ∀ t, small t → (enc ver (decide (fx ≥ 0) && decide (ver ≥ fx)) t).length ≤ 2147483648 ∧ ∀ ys, g ver (ft ver t) ys → ys = fxW ver 2 ++ enc ver (decide (fx ≥ 0) && decide (ver ≥ fx)) t) : LawK P f small := by
  refine ⟨enters_of hf hname hbody, ?_⟩
  intro w n B ct t hn ht hB hsm
  cases t with
  | mk tn s nl l u =>
  have ht0 := ht
  obtain ⟨sv, lv, uv, rfl, hn0, hs, hl, hu⟩ := repT_iff.1 ht
  have hF0 : Fr [] w w := Fr.refl [] w
  obtain ⟨hlen, hres⟩ := hplain ((n % 2 : Nat) : Int) (by omega) (by omega) _ hsm
  refine calls_of_wp hf hbody ?_
  generalize ha0 : ({ tmps := #[Value.int .u8 (n : Int), Value.agg ([.int .i64 tn, sv, .bool nl, lv, uv] : List Value).toArray] ++ Array.replicate (fn.ntmps - (#[Value.int .u8 (n : Int), Value.agg ([.int .i64 tn, sv, .bool nl, lv, uv] : List Value).toArray] : Array Value).size) undef, defers := [] } : Act) = a0
  have hz0 : a0.tmps.size = 27 := by subst ha0; simp [hN]
  have hd0 : a0.defers = [] := by subst ha0; rfl
  have g0_0 : get a0 0 = .int .u8 (n : Int) := by subst ha0; exact gAr rfl
  have g0_1 : get a0 1 = .agg ([.int .i64 tn, sv, .bool nl, lv, uv] : List Value).toArray := by subst ha0; exact gAr rfl
  refine wT fun K1 hK1 => ?_
  refine wC (wp_boxL (cs := [.int .i64 tn, sv, .bool nl, lv, uv]) (eK g0_1) ?_)
  rintro w2 f2 sz2 r2 th2
  have hF3 : Fr [] w w2 := hF0.tr f2
  refine wC (wAs (v := .bool false) rfl ?_)
  refine wEn fun a4 ha4 => ?_
  have hz4 := kS ha4 hz0
  have hd4 := kD ha4 hd0
  have g4_0 := kP ha4 g0_0
  have g4_3 : get a4 3 = .pointer (some ⟨w.heap.size, 0, none⟩) := kG ha4 hz0
  refine hK1 a4 w2 (tUp ?_)
  refine tId (wp_seq_k fun K5 hK5 => ?_)
  refine wS fun K6 hK6 => ?_
  refine wC (wp_loadFlat (cs := [.int .i64 tn, sv, .bool nl, lv, uv]) (b := w.heap.size) (o := 0) hFlT26 rfl (eK g4_3) r2 ?_)
  refine wC (wCr (R := fun vz wz => (∃ b : Bool, vz = .bool b) ∧ Fr [] w2 wz) (vs := #[.agg ([.int .i64 tn, sv, .bool nl, lv, uv] : List Value).toArray]) hFit.enters (mX1 (eS hz4)) ((hFit.call w2 B _ _ (ht0.kept hF3 (by simp) (fun _ h => h))).mono (by rintro e wz ⟨⟨b, rfl⟩, h⟩; exact ⟨_, rfl, ⟨b, rfl⟩, h⟩)) ?_)
  rintro _ w7 ⟨⟨bb, rfl⟩, fr7⟩
  have hF8 : Fr [] w w7 := hF3.tr fr7
  have hL8_w2 : Fr [] w2 w7 := (Fr.refl [] w2).tr fr7
  have rb9 := fr7.range r2 .nil
  refine wC (wp_not (b := bb) (eS hz4) ?_)
  refine wEn fun a10 ha10 => ?_
  have hz10 := kS ha10 hz4
  have hd10 := kD ha10 hd4
  have g10_0 := kP ha10 g4_0
  have g10_3 := kP ha10 g4_3
  have g10_9 : get a10 9 = .bool (!bb) := kG ha10 hz4
  refine hK6 a10 w7 ?_
  refine wp_cond_split (t := !bb) (eK g10_9) (fun hc11 => ?_) (fun hc11 => ?_)
  · refine wp_seq_k fun K12 hK12 => ?_
    refine wp_reg ?_
    refine wC (wAs (v := .bool true) rfl ?_)
    refine wEn fun a13 ha13 => ?_
    have hz13 := kS ha13 hz10
    have hd13 := kD ha13 hd10
    have g13_4 : get a13 4 = .bool true := kG ha13 hz10
    refine hK12 a13 w7 ?_
    refine wp_ret ?_
    exact ⟨hd13, _, rIs hres' g13_4, rfl, hF8⟩
  · refine wp_skip ?_
    refine hK5 a10 w7 (tUp ?_)
    refine wT fun K14 hK14 => ?_
    refine wC (wCr (R := fun vz wz => ∃ fsv, vz = .agg ([fsv, .int .i64 fx] : List Value).toArray ∧ Fr [] w7 wz ∧ FdsR wz (From w7.heap.size wz) fsv fs) (vs := #[]) hSch.enters (by simp) ((hSch.call w7).mono (by rintro e wz ⟨v, rfl, h⟩; exact ⟨_, rfl, v, rfl, h⟩)) ?_)
    rintro _ w15 ⟨fsv, rfl, fr15, hfs⟩
    have hfs1 := hfs.one
    have hF16 : Fr [] w w15 := hF8.tr fr15
    have hL16_w2 : Fr [] w2 w15 := hL8_w2.tr fr15
    have rb17 := fr15.range rb9 .nil
    refine wC (wMv (v := .int .u8 (n : Int)) (eK g10_0) ?_)
    refine wC (wCv (k1 := .u8) (i := (n : Int)) hT5_u8 hT3_i64 (eS hz10) ?_)
    rw [show (IntKind.i64.wrap ((n : Int) : Int)) = ((n : Int) : Int) from by simp only [IntKind.wrap, IntKind.bits, IntKind.signed]; simp; omega]
    refine wC (wp_rem (k1 := .i64) (i := (n : Int)) (j := 2) (by decide) (eS hz10) (eCo _ _) ?_)
    rw [show Int.tmod (n : Int) 2 = ((n % 2 : Nat) : Int) from by rw [Int.tmod_eq_emod_of_nonneg (by omega)]; omega]
    rw [wCo]
    have hgs18 := hL16_w2.size
    have hgs19 := (Fr.refl [] w15).size
    have hgs20 := hF16.size
    refine wp_allocL hFlT30 ?_
    rintro w21 f21 sz21 r21 th21
    have hF22 : Fr [] w w21 := hF16.tr f21
    have hL22_w15 : Fr [] w15 w21 := (Fr.refl [] w15).tr f21
    have rb23 := f21.range rb17 .nil
    refine wC (wp_storeL (cs := [fsv, .int .i64 fx]) (o := 0) hFlT30 rfl (eS hz10) (eS hz10) (by intro u hu; simp at hu; rcases hu with rfl | rfl; exact hfs1; rfl) th21 ?_)
    rintro w24 f24 sz24 r24 th24
    have hF24 : Fr [] w w24 := hF22.trans f24 (fun r hr => .inl (by simp at hr; subst hr; have := hF16.size; simp only; omega))
    have rb25 := f24.range rb23 (.cons (.inl (by simp only; omega)) .nil)
    have hL24_w15 : Fr [] w15 w24 := hL22_w15.trans f24 (fun r hr => .inl (by simp at hr; subst hr; have := (Fr.refl [] w15).size; simp only; omega))
    refine wC (wAs (v := .int .i64 ((n % 2 : Nat) : Int)) (by rw [eTm, pNo, nZ (by decide), sZ (zZ (zZ (zZ hz10))) (by decide)]) ?_)
    refine wEn fun a26 ha26 => ?_
    have hz26 := kS ha26 hz10
    have hd26 := kD ha26 hd10
    have g26_3 := kP ha26 g10_3
    have g26_5 : get a26 5 = .pointer (some ⟨w15.heap.size, 0, none⟩) := kG ha26 hz10
    have g26_6 : get a26 6 = .int .i64 ((n % 2 : Nat) : Int) := kG ha26 hz10
    refine hK14 a26 w24 (tUp ?_)
    refine tId (wp_seq_k fun K27 hK27 => ?_)
    have hfs4 := hfs.kept hL24_w15 (by simp) (fun _ h => h)
    have ht4 := ht0.kept hF24 (by simp) (fun _ h => h)
    refine wp_drawR (os := [⟨some 14, .move (.tmp 6), t13, p13, e13, none⟩, ⟨some 15, .fieldAddr T30 (.tmp 5) 0, t14, p14, e14, none⟩, ⟨some 16, .load T28 (.tmp 15), t15, p15, e15, none⟩, ⟨some 17, .move (.tmp 6), t16, p16, e16, none⟩, ⟨some 18, .load T26 (.tmp 3), t17, p17, e17, none⟩, ⟨some 19, .call ⟨.value (.func f13), #[(.tmp 16), (.tmp 17), (.tmp 18)], ct2⟩, t18, p18, e18, none⟩, ⟨some 20, .call ⟨.value (.func f12), #[(.tmp 19)], ct3⟩, t19, p19, e19, none⟩, ⟨some 21, .call ⟨.value (.func f11), #[(.tmp 14), (.tmp 20)], ct4⟩, t20, p20, e20, none⟩, ⟨some 22, .load T30 (.tmp 5), t21, p21, e21, none⟩, ⟨some 23, .move (.tmp 6), t22, p22, e22, none⟩, ⟨some 24, .load T26 (.tmp 3), t23, p23, e23, none⟩, ⟨some 25, .call ⟨.value (.func f14), #[(.tmp 22), (.tmp 23), (.tmp 24)], ct5⟩, t24, p24, e24, none⟩, ⟨some 26, .call ⟨.value (.func f10), #[(.tmp 21), (.tmp 25)], ct6⟩, t25, p25, e25, none⟩]) (rest := [⟨some 4, .assign (.tmp 26), t26, p26, e26, none⟩]) [spC [] (.int .i64 ((n % 2 : Nat) : Int)), spC [] (.pointer (some ⟨w15.heap.size, 0, none⟩)), spC [1] (fsv), spC [] (.int .i64 ((n % 2 : Nat) : Int)), spC [] (.agg ([.int .i64 tn, sv, .bool nl, lv, uv] : List Value).toArray), spR [2, 3, 4] (fun x w' => ∃ gc : List Value, x = .agg gc.toArray ∧ RepT w' (fun b => B b ∨ From w24.heap.size w' b) gc (ft ((n % 2 : Nat) : Int) (.mk tn s nl l u))), spR [5] (fun x w' => ∃ gc : List Value, x = .agg gc.toArray ∧ RepT w' (fun b => B b ∨ From w24.heap.size w' b) gc (ft ((n % 2 : Nat) : Int) (.mk tn s nl l u))), spR [0, 6] (fun x w' => ∃ ys, g ((n % 2 : Nat) : Int) (ft ((n % 2 : Nat) : Int) (.mk tn s nl l u)) ys ∧ OctE w' (From w24.heap.size w') x ys), spC [] (.agg ([fsv, .int .i64 fx] : List Value).toArray), spC [] (.int .i64 ((n % 2 : Nat) : Int)), spC [] (.agg ([.int .i64 tn, sv, .bool nl, lv, uv] : List Value).toArray), spR [8, 9, 10] (fun x w' => OctE w' (From w24.heap.size w') x (fxW ((n % 2 : Nat) : Int) 2 ++ enc ((n % 2 : Nat) : Int) (decide (fx ≥ 0) && decide (((n % 2 : Nat) : Int) ≥ fx)) (.mk tn s nl l u))), spR [7, 11] (fun x w' => x = .bool true)] 14 [] hmx he4 (by simp [shape]) (by simp [plainO]) (by simp [spC, spR]) (by simp; omega) ⟨lCc _ _ _, lCc _ _ _, lCc _ _ _, lCc _ _ _, lCc _ _ _, (fun v w1 w2 f h => by obtain ⟨gc, h1, h2⟩ := h; exact ⟨gc, h1, h2.kept f (by simp) (fun b hb => hb.imp id fun hb => ⟨hb.1, Nat.lt_of_lt_of_le hb.2 f.size⟩)⟩), (fun v w1 w2 f h => by obtain ⟨gc, h1, h2⟩ := h; exact ⟨gc, h1, h2.kept f (by simp) (fun b hb => hb.imp id fun hb => ⟨hb.1, Nat.lt_of_lt_of_le hb.2 f.size⟩)⟩), (fun v w1 w2 f h => by obtain ⟨ys, h1, h2⟩ := h; exact ⟨ys, h1, h2.kept f (by simp) (fun _ hb => ⟨hb.1, Nat.lt_of_lt_of_le hb.2 f.size⟩)⟩), lCc _ _ _, lCc _ _ _, lCc _ _ _, (fun v w1 w2 f h => OctE.kept h f (by simp) (fun _ hb => ⟨hb.1, Nat.lt_of_lt_of_le hb.2 f.size⟩)), (fun v w1 w2 f h => h), trivial⟩ ?_ ?_
    · refine oCs ?_ ?_
      · refine op_c fun a' w' hk' hf' hd' K' hK' => ?_
        refine wMv (v := .int .i64 ((n % 2 : Nat) : Int)) (by rw [eTm, hk'.get 6 (by omega), g26_6]) ?_
        exact hK'
      refine oCs ?_ ?_
      · refine op_c fun a' w' hk' hf' hd' K' hK' => ?_
        refine wFa (b := w15.heap.size) (i := 0) (hFlT30.fld (by decide)) (by rw [eTm, hk'.get 5 (by omega), g26_5]) ?_
        rw [show (0 + 0 : Nat) = 0 from rfl]
        exact hK'
      refine oCs ?_ ?_
      · refine op_c fun a' w' hk' hf' hd' K' hK' => ?_
        refine wL0 (j := 0) (v := fsv) hcT28 (by rw [eTm]; exact hd'.c (nd' := []) 1 (by simp) rfl) (hf'.range r24 .nil) rfl ?_
        exact hK'
      refine oCs ?_ ?_
      · refine op_c fun a' w' hk' hf' hd' K' hK' => ?_
        refine wMv (v := .int .i64 ((n % 2 : Nat) : Int)) (by rw [eTm, hk'.get 6 (by omega), g26_6]) ?_
        exact hK'
      refine oCs ?_ ?_
      · refine op_c fun a' w' hk' hf' hd' K' hK' => ?_
        refine wp_loadFlat (cs := [.int .i64 tn, sv, .bool nl, lv, uv]) (b := w.heap.size) (o := 0) hFlT26 rfl (by rw [eTm, hk'.get 3 (by omega), g26_3]) (hf'.range rb25 .nil) ?_
        exact hK'
      refine oCs ?_ ?_
      · refine op_r fun a' w' hk' hf' hd' K' hK' => ?_
        refine wCr (R := fun vz wz => ∃ gc : List Value, vz = .agg gc.toArray ∧ Fr [] w' wz ∧ RepT wz (fun b => B b ∨ From w'.heap.size wz b) gc (ft ((n % 2 : Nat) : Int) (.mk tn s nl l u))) (vs := #[fsv, .int .i64 ((n % 2 : Nat) : Int), .agg ([.int .i64 tn, sv, .bool nl, lv, uv] : List Value).toArray]) hFt.enters (by simp only [List.map_toArray, List.map_cons, List.map_nil]; rw [show a'.eval (.tmp 16) = fsv from (by rw [eTm]; exact hd'.c (nd' := [1]) 2 (by simp) rfl), show a'.eval (.tmp 17) = Value.int .i64 ((n % 2 : Nat) : Int) from (by rw [eTm]; exact hd'.c (nd' := []) 3 (by simp) rfl), show a'.eval (.tmp 18) = Value.agg ([.int .i64 tn, sv, .bool nl, lv, uv] : List Value).toArray from (by rw [eTm]; exact hd'.c (nd' := []) 4 (by simp) rfl)]) ((hFt.call w' _ B ((n % 2 : Nat) : Int) fsv _ _ (hfs4.kept hf' (by simp) (fun _ h => h)) (ht4.kept hf' (by simp) (fun _ h => h)) (fun b hb => Nat.lt_of_lt_of_le hb.2 (Nat.le_trans hL24_w15.size hf'.size)) (fun b hb => Nat.lt_of_lt_of_le (hB b hb) (Nat.le_trans hF24.size hf'.size))).mono (by rintro e wz ⟨cs, rfl, h1, h2⟩; exact ⟨_, rfl, cs, rfl, h1, h2⟩)) ?_
        rintro _ w28 ⟨gc, rfl, fr28, hg28⟩
        exact hK' _ w28 ⟨gc, rfl, hg28.kept (Fr.refl [] _) (by simp) (fun b hb => hb.imp id fun hb => (⟨Nat.le_trans hf'.size hb.1, hb.2⟩ : From w24.heap.size w28 b))⟩ fr28
      refine oCs ?_ ?_
      · refine op_r fun a' w' hk' hf' hd' K' hK' => ?_
        obtain ⟨gc, hgc, hgt⟩ : ∃ gc : List Value, get a' 19 = .agg gc.toArray ∧ RepT w' (fun b => B b ∨ From w24.heap.size w' b) gc (ft ((n % 2 : Nat) : Int) (.mk tn s nl l u)) := hd'.at (d := 5) (by simp) rfl
        refine wCr (R := fun vz wz => ∃ gc : List Value, vz = .agg gc.toArray ∧ Fr [] w' wz ∧ RepT wz (fun b => (B b ∨ From w24.heap.size w' b) ∨ From w'.heap.size wz b) gc (ft ((n % 2 : Nat) : Int) (.mk tn s nl l u))) (vs := #[.agg gc.toArray]) hGi.1 (by simp only [List.map_toArray, List.map_cons, List.map_nil]; rw [show a'.eval (.tmp 19) = Value.agg gc.toArray from (by rw [eTm]; exact hgc)]) ((hGi.2 _ w' _ gc hgt (fun b hb => by rcases hb with hb | hb; exact Nat.lt_of_lt_of_le (hB b hb) (Nat.le_trans hF24.size hf'.size); exact hb.2)).mono (by rintro e wz ⟨cs, rfl, h1, h2⟩; exact ⟨_, rfl, cs, rfl, h1, h2⟩)) ?_
        rintro _ w29 ⟨gc', rfl, fr29, hg29⟩
        exact hK' _ w29 ⟨gc', rfl, hg29.kept (Fr.refl [] _) (by simp) (fun b hb => by rcases hb with (hb | hb) | hb; exact .inl hb; exact .inr ⟨hb.1, Nat.lt_of_lt_of_le hb.2 fr29.size⟩; exact .inr ⟨Nat.le_trans hf'.size hb.1, hb.2⟩)⟩ fr29
      refine oCs ?_ ?_
      · refine op_r fun a' w' hk' hf' hd' K' hK' => ?_
        obtain ⟨gc, hgc, hgt⟩ : ∃ gc : List Value, get a' 20 = .agg gc.toArray ∧ RepT w' (fun b => B b ∨ From w24.heap.size w' b) gc (ft ((n % 2 : Nat) : Int) (.mk tn s nl l u)) := hd'.at (d := 6) (by simp) rfl
        refine wCr (R := fun vz wz => Fr [] w' wz ∧ ∃ ys, g ((n % 2 : Nat) : Int) (ft ((n % 2 : Nat) : Int) (.mk tn s nl l u)) ys ∧ OctE wz (From w'.heap.size wz) vz ys) (vs := #[.int .i64 ((n % 2 : Nat) : Int), .agg gc.toArray]) hMk.enters (by simp only [List.map_toArray, List.map_cons, List.map_nil]; rw [show a'.eval (.tmp 14) = Value.int .i64 ((n % 2 : Nat) : Int) from (by rw [eTm]; exact hd'.c (nd' := []) 0 (by simp) rfl), show a'.eval (.tmp 20) = Value.agg gc.toArray from (by rw [eTm]; exact hgc)]) ((hMk.call w' _ ((n % 2 : Nat) : Int) gc _ (by omega) (by omega) hgt (fun b hb => by rcases hb with hb | hb; exact Nat.lt_of_lt_of_le (hB b hb) (Nat.le_trans hF24.size hf'.size); exact hb.2) (fun ys hy => by rw [hres ys hy]; simp only [List.length_append, fxL]; omega)).mono (by rintro e wz ⟨v, ys, rfl, h1, h2, h3⟩; exact ⟨_, rfl, h2, ys, h1, h3⟩)) ?_
        rintro x30 w30 ⟨fr30, ys, hy30, ho30⟩
        exact hK' x30 w30 ⟨ys, hy30, ho30.kept (Fr.refl [] _) (by simp) (fun b hb => (⟨Nat.le_trans hf'.size hb.1, hb.2⟩ : From w24.heap.size w30 b))⟩ fr30
      refine oCs ?_ ?_
      · refine op_c fun a' w' hk' hf' hd' K' hK' => ?_
        refine wp_loadFlat (cs := [fsv, .int .i64 fx]) (b := w15.heap.size) (o := 0) hFlT30 rfl (by rw [eTm, hk'.get 5 (by omega), g26_5]) (hf'.range r24 .nil) ?_
        exact hK'
      refine oCs ?_ ?_
      · refine op_c fun a' w' hk' hf' hd' K' hK' => ?_
        refine wMv (v := .int .i64 ((n % 2 : Nat) : Int)) (by rw [eTm, hk'.get 6 (by omega), g26_6]) ?_
        exact hK'
      refine oCs ?_ ?_
      · refine op_c fun a' w' hk' hf' hd' K' hK' => ?_
        refine wp_loadFlat (cs := [.int .i64 tn, sv, .bool nl, lv, uv]) (b := w.heap.size) (o := 0) hFlT26 rfl (by rw [eTm, hk'.get 3 (by omega), g26_3]) (hf'.range rb25 .nil) ?_
        exact hK'
      refine oCs ?_ ?_
      · refine op_r fun a' w' hk' hf' hd' K' hK' => ?_
        refine wCr (R := fun vz wz => Fr [] w' wz ∧ OctE wz (From w'.heap.size wz) vz (fxW ((n % 2 : Nat) : Int) 2 ++ enc ((n % 2 : Nat) : Int) (decide (fx ≥ 0) && decide (((n % 2 : Nat) : Int) ≥ fx)) (.mk tn s nl l u))) (vs := #[.agg ([fsv, .int .i64 fx] : List Value).toArray, .int .i64 ((n % 2 : Nat) : Int), .agg ([.int .i64 tn, sv, .bool nl, lv, uv] : List Value).toArray]) hKp.enters (by simp only [List.map_toArray, List.map_cons, List.map_nil]; rw [show a'.eval (.tmp 22) = Value.agg ([fsv, .int .i64 fx] : List Value).toArray from (by rw [eTm]; exact hd'.c (nd' := []) 8 (by simp) rfl), show a'.eval (.tmp 23) = Value.int .i64 ((n % 2 : Nat) : Int) from (by rw [eTm]; exact hd'.c (nd' := []) 9 (by simp) rfl), show a'.eval (.tmp 24) = Value.agg ([.int .i64 tn, sv, .bool nl, lv, uv] : List Value).toArray from (by rw [eTm]; exact hd'.c (nd' := []) 10 (by simp) rfl)]) ((hKp.call w' _ B ((n % 2 : Nat) : Int) fx fsv _ _ (hfs4.kept hf' (by simp) (fun _ h => h)) (ht4.kept hf' (by simp) (fun _ h => h)) (fun b hb => Nat.lt_of_lt_of_le hb.2 (Nat.le_trans hL24_w15.size hf'.size)) (fun b hb => Nat.lt_of_lt_of_le (hB b hb) (Nat.le_trans hF24.size hf'.size)) (by omega)).mono (by rintro e wz ⟨v, rfl, h1, h2⟩; exact ⟨_, rfl, h1, h2⟩)) ?_
        rintro x31 w31 ⟨fr31, ho31⟩
        exact hK' x31 w31 (ho31.kept (Fr.refl [] _) (by simp) (fun b hb => (⟨Nat.le_trans hf'.size hb.1, hb.2⟩ : From w24.heap.size w31 b))) fr31
      refine oCs ?_ ?_
      · refine op_r fun a' w' hk' hf' hd' K' hK' => ?_
        obtain ⟨iv, hiv, ys, hy, hio⟩ : ∃ iv, get a' 21 = iv ∧ ∃ ys, g ((n % 2 : Nat) : Int) (ft ((n % 2 : Nat) : Int) (.mk tn s nl l u)) ys ∧ OctE w' (From w24.heap.size w') iv ys := ⟨_, rfl, hd'.at (d := 7) (by simp) rfl⟩
        obtain ⟨fv, hfv, hfo⟩ : ∃ fv, get a' 25 = fv ∧ OctE w' (From w24.heap.size w') fv (fxW ((n % 2 : Nat) : Int) 2 ++ enc ((n % 2 : Nat) : Int) (decide (fx ≥ 0) && decide (((n % 2 : Nat) : Int) ≥ fx)) (.mk tn s nl l u)) := ⟨_, rfl, hd'.at (d := 11) (by simp) rfl⟩
        rw [hres ys hy] at hio
        refine wCr (R := fun vz wz => vz = .bool true ∧ Fr [] w' wz) (vs := #[iv, fv]) hSame.enters (by simp only [List.map_toArray, List.map_cons, List.map_nil]; rw [show a'.eval (.tmp 21) = iv from (by rw [eTm]; exact hiv), show a'.eval (.tmp 25) = fv from (by rw [eTm]; exact hfv)]) ((hSame.call w' _ _ _ _ _ hio hfo).mono (by rintro e wz ⟨rfl, h⟩; exact ⟨_, rfl, rfl, h⟩)) ?_
        rintro _ w32 ⟨rfl, fr32⟩
        exact hK' _ w32 rfl fr32
      exact opsOk_nil
    intro a33 w33 k33 f33 hd_33
    have hz33 : a33.tmps.size = 27 := k33.size.trans hz26
    have hd33 : a33.defers = [] := k33.defers.trans hd26
    have hF34 : Fr [] w w33 := hF24.tr f33
    have rb35 := f33.range rb25 .nil
    have rb36 := f33.range r24 .nil
    have g33_26 : get a33 26 = .bool true := hd_33.at (d := 12) (by simp) rfl
    refine wC (wAs (v := .bool true) (eK g33_26) ?_)
    refine wEn fun a37 ha37 => ?_
    have hz37 := kS ha37 hz33
    have hd37 := kD ha37 hd33
    have g37_4 : get a37 4 = .bool true := kG ha37 hz33
    refine hK27 a37 w33 (tUp ?_)
    refine wp_ret ?_
    exact ⟨hd37, _, rIs hres' g37_4, rfl, hF34⟩
end Go.Kq

namespace Go.Kq
open Go
theorem fitN_str {k : Nat} {fr to nul tag df of : Int} {sub : List Fd} {ver : Int} {t : T} : (fitN k (.mk 8 fr to nul tag df of sub) ver t).s = wholeS t.s := by
  cases k <;> simp [fitN, fitK, Fd.kind, T.s]
theorem fitN_num {k : Nat} {kind fr to nul tag df of : Int} {sub : List Fd} {ver : Int} {t : T} (h : kind ≠ 8 ∧ kind ≠ 9 ∧ kind ≠ 10 ∧ kind ≠ 11) : (fitN k (.mk kind fr to nul tag df of sub) ver t).n = t.n := by
  obtain ⟨h1, h2, h3, h4⟩ := h
  cases k <;> simp [fitN, fitK, Fd.kind, T.n, h1, h2, h3, h4]
theorem fw_str {fr to nul tag df of : Int} {sub : List Fd} {ver : Int} {t : T} (hn : nul < 0) : fieldW (.mk 8 fr to nul tag df of sub) ver false t = apStr (.s (wholeS t.s)) := by
  rw [fieldW_eq, show Fd.kind (.mk 8 fr to nul tag df of sub) = 8 from rfl, fieldV_str (nullW_no (show Fd.nul (.mk 8 fr to nul tag df of sub) < 0 from hn))]; rfl
theorem fw_i32 {fr to nul tag df of : Int} {sub : List Fd} {ver : Int} {t : T} {fl : Bool} : fieldW (.mk 3 fr to nul tag df of sub) ver fl t = apInt 4 (.n (IntKind.i32.wrap t.n)) := by
  rw [fieldW_eq, show Fd.kind (.mk 3 fr to nul tag df of sub) = 3 from rfl, fieldV_i32]; simp only [apInt, fixedW_w32]
end Go.Kq
