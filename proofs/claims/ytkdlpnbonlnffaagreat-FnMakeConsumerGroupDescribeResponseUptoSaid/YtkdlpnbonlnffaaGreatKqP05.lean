/- A part of the library: rules of reasoning about the program's operations and what its shared functions do. -/
import Derived.Test.YtkdlpnbonlnffaaGreatKqP04
import Derived.Test.YtkdlpnbonlnffaaGreatKqP01
import Derived.Deep.LoopGhost
import Derived.Maps.RangeRun
import Derived.Lib.EndianBits
import Derived.ScopeJumps
import Derived.Laws.IdiomCopy
import Derived.Test.YtkdlpnbonlnffaaGreatKqP02
import Derived.Test.YtkdlpnbonlnffaaGreatKqP03
set_option linter.unusedVariables false
set_option linter.unusedSimpArgs false
namespace Go.Kq
open Go Go.Proofs
structure ApI (P : Program) (f : FuncId) (k : IntKind) (n : Nat) : Prop where
  enters : Enters P f
  call : ∀ (w : World) (A : Nat → Prop) (dst : Value) (xs : List UInt8) (i : Int), Own w A 1 dst xs.length (octets xs) → k.min ≤ i → i ≤ k.max → xs.length + n ≤ 4294967296 → Calls P f #[dst, .int k i] w (Apd w A dst (xs ++ fxW i n))
def TabL (tab : ByteArray) : Prop := ∀ y : Nat, y < 256 → ∃ c : UInt8, tab[y]? = some c ∧ c.toNat ≤ 8 ∧ (c.toNat ≤ 7 ↔ y < 128) ∧ (c.toNat ≤ 6 ↔ y < 64) ∧ (c.toNat ≤ 5 ↔ y < 32) ∧ (c.toNat ≤ 4 ↔ y < 16)
def TabU (tab : ByteArray) : Prop := ∀ k : Nat, k ≤ 32 → ∃ c : UInt8, tab[k]? = some c ∧ c.toNat = (if k ≤ 7 then 1 else if k ≤ 14 then 2 else if k ≤ 21 then 3 else if k ≤ 28 then 4 else 5)
def tabLB (tab : ByteArray) : Bool := (List.range 256).all fun y => match tab[y]? with
  | some c => decide (c.toNat ≤ 8 ∧ (c.toNat ≤ 7 ↔ y < 128) ∧ (c.toNat ≤ 6 ↔ y < 64) ∧ (c.toNat ≤ 5 ↔ y < 32) ∧ (c.toNat ≤ 4 ↔ y < 16))
  | none => false
theorem tabL_is {tab : ByteArray} (h : tabLB tab = true) : TabL tab := by
  intro y hy;have := List.all_eq_true.1 h y (List.mem_range.2 hy)
  split at this
  · rename_i c hc
    exact ⟨c, hc, by simpa using this⟩
  cases this
def tabUB (tab : ByteArray) : Bool := (List.range 33).all fun k => match tab[k]? with
  | some c => decide (c.toNat = (if k ≤ 7 then 1 else if k ≤ 14 then 2 else if k ≤ 21 then 3 else if k ≤ 28 then 4 else 5))
  | none => false
theorem tabU_is {tab : ByteArray} (h : tabUB tab = true) : TabU tab := by
  intro k hk;have := List.all_eq_true.1 h k (List.mem_range.2 (by omega))
  split at this
  · rename_i c hc
    exact ⟨c, hc, by simpa using this⟩
  cases this
structure Len32M (P : Program) (f : FuncId) : Prop where
  enters : Enters P f
  call : ∀ (w : World) (n : Nat), n < 4294967296 → Calls P f #[.int .u32 n] w fun e w' => ∃ k : Nat, e = .returned (.int .i64 k) ∧ w' = w ∧ k ≤ 32 ∧ (k ≤ 7 ↔ n < 128) ∧ (k ≤ 14 ↔ n < 16384) ∧ (k ≤ 21 ↔ n < 2097152) ∧ (k ≤ 28 ↔ n < 268435456)
def uvLen (n : Nat) : Nat := if n < 128 then 1 else if n < 16384 then 2 else if n < 2097152 then 3 else if n < 268435456 then 4 else 5
theorem uvLen_cases (n : Nat) : uvLen n = 5 ∨ uvLen n = 4 ∨ uvLen n = 3 ∨ uvLen n = 2 ∨ uvLen n = 1 := by
  unfold uvLen
  (repeat' split) <;> simp
structure UvLenM (P : Program) (f : FuncId) : Prop where
  enters : Enters P f
  call : ∀ (w : World) (n : Nat), n < 4294967296 → Calls P f #[.int .u32 n] w fun e w' => e = .returned (.int .i64 (uvLen n : Nat)) ∧ w' = w
structure ApU (P : Program) (f : FuncId) : Prop where
  enters : Enters P f
  call : ∀ (w : World) (A : Nat → Prop) (dst : Value) (xs : List UInt8) (n : Nat), Own w A 1 dst xs.length (octets xs) → n < 4294967296 → (xs ++ uvW n).length ≤ 4294967296 → Calls P f #[dst, .int .u32 n] w (Apd w A dst (xs ++ uvW n))
structure ApL (P : Program) (f : FuncId) (g : Nat → List UInt8) : Prop where
  enters : Enters P f
  call : ∀ (w : World) (A : Nat → Prop) (dst : Value) (xs : List UInt8) (n : Nat), Own w A 1 dst xs.length (octets xs) → n < 4294967295 → (xs ++ g n).length ≤ 4294967296 → Calls P f #[dst, .int .i64 n] w (Apd w A dst (xs ++ g n))
structure ApV (P : Program) (f : FuncId) (ty : Ty) (g : V → List UInt8) : Prop where
  enters : Enters P f
  call : ∀ (w : World) (A B : Nat → Prop) (dst : Value) (xs : List UInt8) (c : Value) (x : V), Own w A 1 dst xs.length (octets xs) → Rep w B ty [c] x → (∀ b, A b → ¬ B b) → (∀ b, B b → b < w.heap.size) → (xs ++ g x).length < 4294967296 →
    Calls P f #[dst, c] w (Apd w A dst (xs ++ g x))
def apStr (x : V) : List UInt8 := fxW x.octs.length 2 ++ x.octs
def apCStr (x : V) : List UInt8 := uvW (x.octs.length + 1) ++ x.octs
def apNStr (x : V) : List UInt8 := match x with | .nil => fxW (-1) 2 | _ => apStr x
def apCNStr (x : V) : List UInt8 := match x with | .nil => uvW 0 | _ => apCStr x
def apLen (n : Nat) : List UInt8 := fxW n 4
def apCLen (n : Nat) : List UInt8 := uvW (n + 1)
theorem w16 (i : Int) : IntKind.i16.min ≤ IntKind.i16.wrap i ∧ IntKind.i16.wrap i ≤ IntKind.i16.max := by
  simp [IntKind.min, IntKind.max, IntKind.wrap, IntKind.signed, IntKind.bits]; split <;> omega
theorem w32 (i : Int) : IntKind.i32.min ≤ IntKind.i32.wrap i ∧ IntKind.i32.wrap i ≤ IntKind.i32.max := by
  simp [IntKind.min, IntKind.max, IntKind.wrap, IntKind.signed, IntKind.bits]; split <;> omega
theorem fixedW_w16 (i : Int) : fxW (IntKind.i16.wrap i) 2 = fxW i 2 := by
  have h : IntKind.i16.wrap i % 65536 = i % 65536 := by simp [IntKind.wrap, IntKind.signed, IntKind.bits]; split <;> omega
  rw [← fixedW_mod2, h, fixedW_mod2]
theorem fixedW_w32 (i : Int) : fxW (IntKind.i32.wrap i) 4 = fxW i 4 := by
  have h : IntKind.i32.wrap i % 4294967296 = i % 4294967296 := by simp [IntKind.wrap, IntKind.signed, IntKind.bits]; split <;> omega
  rw [← fixedW_mod4, h, fixedW_mod4]
theorem band127u (m : Nat) (h : m < 4294967296) : bits .and .u32 (m : Int) 127 = ((m % 128 : Nat) : Int) := by
  have := bits_mask .u32 32 (by decide) wraps_u32 7 (by decide) (m : Int) (by omega) (by omega);simp at this
  rw [this]; omega
theorem bor128u (m : Nat) : bits .or .u32 ((m % 128 : Nat) : Int) 128 = ((m % 128 + 128 : Nat) : Int) := by
  have hm := Nat.mod_lt m (show 0 < 128 by omega);have := (bits_nat .u32 32 (by decide) wraps_u32 (m % 128) 128 (by omega) (by omega)).2;rw [show ((128 : Nat) : Int) = 128 from rfl] at this;rw [this, nat_or128 _ hm]
theorem uvW_1 {n : Nat} (_ : 0 ≤ n) (h : n < 128) : uvW n = [UInt8.ofNat (n)] := by rw [uvW, if_neg (by omega)]
theorem uvW_2 {n : Nat} (h0 : 128 ≤ n) (h : n < 16384) : uvW n = [UInt8.ofNat ((n) % 128 + 128), UInt8.ofNat (n / 128)] := by rw [uvW, if_pos (by omega), uvW_1 (by omega) (by omega)]
theorem uvW_3 {n : Nat} (h0 : 16384 ≤ n) (h : n < 2097152) : uvW n = [UInt8.ofNat ((n) % 128 + 128), UInt8.ofNat ((n / 128) % 128 + 128), UInt8.ofNat (n / 16384)] := by rw [uvW, if_pos (by omega), uvW_2 (by omega) (by omega), Nat.div_div_eq_div_mul]
theorem uvW_4 {n : Nat} (h0 : 2097152 ≤ n) (h : n < 268435456) : uvW n = [UInt8.ofNat ((n) % 128 + 128), UInt8.ofNat ((n / 128) % 128 + 128), UInt8.ofNat ((n / 16384) % 128 + 128), UInt8.ofNat (n / 2097152)] := by rw [uvW, if_pos (by omega), uvW_3 (by omega) (by omega), Nat.div_div_eq_div_mul, Nat.div_div_eq_div_mul]
theorem uvW_5 {n : Nat} (h0 : 268435456 ≤ n) (h : n < 4294967296) : uvW n = [UInt8.ofNat ((n) % 128 + 128), UInt8.ofNat ((n / 128) % 128 + 128), UInt8.ofNat ((n / 16384) % 128 + 128), UInt8.ofNat ((n / 2097152) % 128 + 128), UInt8.ofNat (n / 268435456)] := by
  rw [uvW, if_pos (by omega), uvW_4 (by omega) (by omega), Nat.div_div_eq_div_mul, Nat.div_div_eq_div_mul, Nat.div_div_eq_div_mul]
theorem ap_u16 {P : Program} {f : FuncId} {fn : Func} {T5 T22 T93 T101 : TypeId} {i0 i1 : Nat} {t0 t1 t2 t3 t4 t5 t6 t7 t8 t9 : TypeId} {p0 p1 p2 p3 p4 p5 p6 p7 p8 p9 : String} {e0 e1 e2 e3 e4 e5 e6 e7 e8 e9 : Array Edge} {te : TypeId}
    (hf : P.funcs[f]? = some fn) (hname : (fn.name == "runtime.NumGoroutine") = false) (hres : fn.results = #[.tmp 4]) (hN : fn.ntmps = 13)
    (hbody : fn.body = some (.seq (Code.region i0 ⟨[oA 4 (.const (.slice none 0 0)) t0 p0 e0]⟩ false) (.seq (Code.region i1 ⟨[oM 5 0 t1 p1 e1,
    oM 6 1 t2 p2 e2, ⟨some 7, .binOp .shr T101 (.tmp 6) (.const (.int .u64 8)) T93, t3, p3, e3, none⟩, ⟨some 8, .convert T101 T5 (.tmp 7), t4, p4, e4, none⟩,
    oM 9 1 t5 p5 e5, ⟨some 10, .convert T101 T5 (.tmp 9), t6, p6, e6, none⟩, ⟨some 11, .buildSlice T22 2 #[(0, .tmp 8), (1, .tmp 10)], t7, p7, e7, none⟩, ⟨some 12, .call ⟨.builtin .append, #[(.tmp 5), (.tmp 11)], #[T22, T22]⟩, t8, p8, e8, none⟩,
    oT 4 12 t9 p9 e9]⟩ false) .ret)))
    (hT101_u16 : intOf P T101 .u16 = true) (hT5_u8 : intOf P T5 .u8 = true) (hs_T22 : sliceOf P T22 te 1 1 = true) (hz_T22 : zeroIs P te [.int .u8 0])  : ApI P f .u16 2 := by
  refine ⟨enters_of hf hname hbody, ?_⟩;intro w A dst xs i own lo hi hb;refine calls_of_wp hf hbody ?_;generalize ha0 : ({ tmps := #[dst, Value.int .u16 i] ++ Array.replicate (fn.ntmps - (#[dst, Value.int .u16 i] : Array Value).size) undef, defers := [] } : Act) = a0;have hz0 : a0.tmps.size = 13 := by subst ha0; simp [hN]
  have hd0 : a0.defers = [] := by subst ha0; rfl
  have g0_0 : get a0 0 = dst := by subst ha0; exact gAr rfl
  have g0_1 : get a0 1 = .int .u16 i := by subst ha0; exact gAr rfl
  have hi0 : ∀ r ∈ spare dst 1, r.In (spare dst 1) w := fun r h => Rng.in_self h;have ho0 : Own w (fun b => A b ∨ (w.heap.size ≤ b ∧ b < w.heap.size)) 1 dst xs.length (octets xs) := own.imp_A fun _ h => .inl h;refine wT fun K1 hK1 => ?_;refine wC (wAs (v := .slice none 0 0) rfl ?_);refine wEk hz0 hd0 fun a2 ha2 hz2 hd2 => ?_;have g2_0 := kP ha2 g0_0;have g2_1 := kP ha2 g0_1;refine hK1 a2 w (tUp ?_);refine wT fun K3 hK3 => ?_;refine wC (wMv (v := dst) (eK g2_0) ?_);refine wC (wMv (v := .int .u16 i) (eK g2_1) ?_);refine wC (wp_shr (k1 := .u16) (i := i) (n := 8) (eS hz2) rfl (by decide) ?_);refine wC (wCv (k1 := .u16) (i := i / (2 ^ 8 : Nat)) hT101_u16 hT5_u8 (eS hz2) ?_);rw [show (IntKind.u8.wrap (i / (2 ^ 8 : Nat) : Int)) = (((UInt8.ofNat ((i / (2 ^ 8 : Nat)) % 256).toNat).toNat : Int) : Int) from wrap_u8_toNat _];refine wC (wMv (v := .int .u16 i) (eK g2_1) ?_);refine wC (wCv (k1 := .u16) (i := i) hT101_u16 hT5_u8 (eS hz2) ?_);rw [show (IntKind.u8.wrap (i : Int)) = (((UInt8.ofNat (i % 256).toNat).toNat : Int) : Int) from wrap_u8_toNat _];refine wC (wp_litN (xs := [.tmp 8, .tmp 10]) (cs := [UInt8.ofNat ((i / (2 ^ 8 : Nat)) % 256).toNat, UInt8.ofNat (i % 256).toNat]) hs_T22 (lX2 (eS hz2) (eS hz2)) rfl (by decide) (by decide) ?_);intro w4 u4 fr4 ou4;have h5 : Fr (spare dst 1) w w4 := (Fr.refl (spare dst 1) w).tr fr4.nil;have o5 : Own w4 (fun b => A b ∨ (w.heap.size ≤ b ∧ b < w4.heap.size)) 1 dst (xs).length (octets (xs)) := ho0.upTo fr4 (fun b hb => hb.imp id fun h => ⟨h.1, Nat.lt_of_lt_of_le h.2 fr4.size⟩);refine wC (wp_appA (xs := xs) (ys := [UInt8.ofNat ((i / (2 ^ 8 : Nat)) % 256).toNat, UInt8.ofNat (i % 256).toNat]) hs_T22 hz_T22 (eS hz2) (eS hz2) o5 ou4 (by simpa using hb) ?_);intro v6 w6 ha6;obtain ⟨_, hv6, f6, ho6, hi6⟩ := ha6 _ rfl
  cases hv6
  have h7 : Fr (spare dst 1) w w6 := h5.trans f6 hi0;have o7 : Own w6 (fun b => A b ∨ (w.heap.size ≤ b ∧ b < w6.heap.size)) 1 v6 (xs ++ [UInt8.ofNat ((i / (2 ^ 8 : Nat)) % 256).toNat, UInt8.ofNat (i % 256).toNat]).length (octets (xs ++ [UInt8.ofNat ((i / (2 ^ 8 : Nat)) % 256).toNat, UInt8.ofNat (i % 256).toNat])) := ho6.imp_A (own_or h5.size f6.size);have i7 : ∀ r ∈ spare v6 1, r.In (spare dst 1) w := fun r hr => Rng.in_trans (hi6 r hr) hi0 h5.size;refine wC (wAs (v := v6) (eS hz2) ?_);refine wEk hz2 hd2 fun a8 ha8 hz8 hd8 => ?_;have g8_4 : get a8 4 = v6 := kG ha8 hz2;refine hK3 a8 w6 (tUp ?_);refine wp_ret ?_;refine ⟨hd8, _, rIs hres g8_4, _, rfl, h7, ?_, i7⟩;have := o7;rw [show ([UInt8.ofNat ((i / (2 ^ 8 : Nat)) % 256).toNat, UInt8.ofNat (i % 256).toNat] : List UInt8) = fxW i 2 from by simp [fxW]] at this; exact this
theorem ap_u32 {P : Program} {f : FuncId} {fn : Func} {T5 T22 T58 T93 : TypeId} {i0 i1 : Nat} {t0 t1 t2 t3 t4 t5 t6 t7 t8 t9 t10 t11 t12 t13 t14 t15 : TypeId} {p0 p1 p2 p3 p4 p5 p6 p7 p8 p9 p10 p11 p12 p13 p14 p15 : String} {e0 e1 e2 e3 e4 e5 e6 e7 e8 e9 e10 e11 e12 e13 e14 e15 : Array Edge} {te : TypeId}
    (hf : P.funcs[f]? = some fn) (hname : (fn.name == "runtime.NumGoroutine") = false) (hres : fn.results = #[.tmp 4]) (hN : fn.ntmps = 19)
    (hbody : fn.body = some (.seq (Code.region i0 ⟨[oA 4 (.const (.slice none 0 0)) t0 p0 e0]⟩ false) (.seq (Code.region i1 ⟨[oM 5 0 t1 p1 e1,
    oM 6 1 t2 p2 e2, ⟨some 7, .binOp .shr T58 (.tmp 6) (.const (.int .u64 24)) T93, t3, p3, e3, none⟩, ⟨some 8, .convert T58 T5 (.tmp 7), t4, p4, e4, none⟩,
    oM 9 1 t5 p5 e5, ⟨some 10, .binOp .shr T58 (.tmp 9) (.const (.int .u64 16)) T93, t6, p6, e6, none⟩, ⟨some 11, .convert T58 T5 (.tmp 10), t7, p7, e7, none⟩,
    oM 12 1 t8 p8 e8, ⟨some 13, .binOp .shr T58 (.tmp 12) (.const (.int .u64 8)) T93, t9, p9, e9, none⟩, ⟨some 14, .convert T58 T5 (.tmp 13), t10, p10, e10, none⟩,
    oM 15 1 t11 p11 e11, ⟨some 16, .convert T58 T5 (.tmp 15), t12, p12, e12, none⟩, ⟨some 17, .buildSlice T22 4 #[(0, .tmp 8), (1, .tmp 11), (2, .tmp 14), (3, .tmp 16)], t13, p13, e13, none⟩, ⟨some 18, .call ⟨.builtin .append, #[(.tmp 5), (.tmp 17)], #[T22, T22]⟩, t14, p14, e14, none⟩,
    oT 4 18 t15 p15 e15]⟩ false) .ret)))
    (hT58_u32 : intOf P T58 .u32 = true) (hT5_u8 : intOf P T5 .u8 = true) (hs_T22 : sliceOf P T22 te 1 1 = true) (hz_T22 : zeroIs P te [.int .u8 0])  : ApI P f .u32 4 := by
  refine ⟨enters_of hf hname hbody, ?_⟩;intro w A dst xs i own lo hi hb;refine calls_of_wp hf hbody ?_;generalize ha0 : ({ tmps := #[dst, Value.int .u32 i] ++ Array.replicate (fn.ntmps - (#[dst, Value.int .u32 i] : Array Value).size) undef, defers := [] } : Act) = a0;have hz0 : a0.tmps.size = 19 := by subst ha0; simp [hN]
  have hd0 : a0.defers = [] := by subst ha0; rfl
  have g0_0 : get a0 0 = dst := by subst ha0; exact gAr rfl
  have g0_1 : get a0 1 = .int .u32 i := by subst ha0; exact gAr rfl
  have hi0 : ∀ r ∈ spare dst 1, r.In (spare dst 1) w := fun r h => Rng.in_self h;have ho0 : Own w (fun b => A b ∨ (w.heap.size ≤ b ∧ b < w.heap.size)) 1 dst xs.length (octets xs) := own.imp_A fun _ h => .inl h;refine wT fun K1 hK1 => ?_;refine wC (wAs (v := .slice none 0 0) rfl ?_);refine wEk hz0 hd0 fun a2 ha2 hz2 hd2 => ?_;have g2_0 := kP ha2 g0_0;have g2_1 := kP ha2 g0_1;refine hK1 a2 w (tUp ?_);refine wT fun K3 hK3 => ?_;refine wC (wMv (v := dst) (eK g2_0) ?_);refine wC (wMv (v := .int .u32 i) (eK g2_1) ?_);refine wC (wp_shr (k1 := .u32) (i := i) (n := 24) (eS hz2) rfl (by decide) ?_);refine wC (wCv (k1 := .u32) (i := i / (2 ^ 24 : Nat)) hT58_u32 hT5_u8 (eS hz2) ?_);rw [show (IntKind.u8.wrap (i / (2 ^ 24 : Nat) : Int)) = (((UInt8.ofNat ((i / (2 ^ 24 : Nat)) % 256).toNat).toNat : Int) : Int) from wrap_u8_toNat _];refine wC (wMv (v := .int .u32 i) (eK g2_1) ?_);refine wC (wp_shr (k1 := .u32) (i := i) (n := 16) (eS hz2) rfl (by decide) ?_);refine wC (wCv (k1 := .u32) (i := i / (2 ^ 16 : Nat)) hT58_u32 hT5_u8 (eS hz2) ?_);rw [show (IntKind.u8.wrap (i / (2 ^ 16 : Nat) : Int)) = (((UInt8.ofNat ((i / (2 ^ 16 : Nat)) % 256).toNat).toNat : Int) : Int) from wrap_u8_toNat _];refine wC (wMv (v := .int .u32 i) (eK g2_1) ?_);refine wC (wp_shr (k1 := .u32) (i := i) (n := 8) (eS hz2) rfl (by decide) ?_);refine wC (wCv (k1 := .u32) (i := i / (2 ^ 8 : Nat)) hT58_u32 hT5_u8 (eS hz2) ?_);rw [show (IntKind.u8.wrap (i / (2 ^ 8 : Nat) : Int)) = (((UInt8.ofNat ((i / (2 ^ 8 : Nat)) % 256).toNat).toNat : Int) : Int) from wrap_u8_toNat _];refine wC (wMv (v := .int .u32 i) (eK g2_1) ?_);refine wC (wCv (k1 := .u32) (i := i) hT58_u32 hT5_u8 (eS hz2) ?_);rw [show (IntKind.u8.wrap (i : Int)) = (((UInt8.ofNat (i % 256).toNat).toNat : Int) : Int) from wrap_u8_toNat _];refine wC (wp_litN (xs := [.tmp 8, .tmp 11, .tmp 14, .tmp 16]) (cs := [UInt8.ofNat ((i / (2 ^ 24 : Nat)) % 256).toNat, UInt8.ofNat ((i / (2 ^ 16 : Nat)) % 256).toNat, UInt8.ofNat ((i / (2 ^ 8 : Nat)) % 256).toNat, UInt8.ofNat (i % 256).toNat]) hs_T22 (lX4 (eS hz2) (eS hz2) (eS hz2) (eS hz2)) rfl (by decide) (by decide) ?_);intro w4 u4 fr4 ou4;have h5 : Fr (spare dst 1) w w4 := (Fr.refl (spare dst 1) w).tr fr4.nil;have o5 : Own w4 (fun b => A b ∨ (w.heap.size ≤ b ∧ b < w4.heap.size)) 1 dst (xs).length (octets (xs)) := ho0.upTo fr4 (fun b hb => hb.imp id fun h => ⟨h.1, Nat.lt_of_lt_of_le h.2 fr4.size⟩);refine wC (wp_appA (xs := xs) (ys := [UInt8.ofNat ((i / (2 ^ 24 : Nat)) % 256).toNat, UInt8.ofNat ((i / (2 ^ 16 : Nat)) % 256).toNat, UInt8.ofNat ((i / (2 ^ 8 : Nat)) % 256).toNat, UInt8.ofNat (i % 256).toNat]) hs_T22 hz_T22 (eS hz2) (eS hz2) o5 ou4 (by simpa using hb) ?_);intro v6 w6 ha6;obtain ⟨_, hv6, f6, ho6, hi6⟩ := ha6 _ rfl
  cases hv6
  have h7 : Fr (spare dst 1) w w6 := h5.trans f6 hi0;have o7 : Own w6 (fun b => A b ∨ (w.heap.size ≤ b ∧ b < w6.heap.size)) 1 v6 (xs ++ [UInt8.ofNat ((i / (2 ^ 24 : Nat)) % 256).toNat, UInt8.ofNat ((i / (2 ^ 16 : Nat)) % 256).toNat, UInt8.ofNat ((i / (2 ^ 8 : Nat)) % 256).toNat, UInt8.ofNat (i % 256).toNat]).length (octets (xs ++ [UInt8.ofNat ((i / (2 ^ 24 : Nat)) % 256).toNat, UInt8.ofNat ((i / (2 ^ 16 : Nat)) % 256).toNat, UInt8.ofNat ((i / (2 ^ 8 : Nat)) % 256).toNat, UInt8.ofNat (i % 256).toNat])) := ho6.imp_A (own_or h5.size f6.size);have i7 : ∀ r ∈ spare v6 1, r.In (spare dst 1) w := fun r hr => Rng.in_trans (hi6 r hr) hi0 h5.size;refine wC (wAs (v := v6) (eS hz2) ?_);refine wEk hz2 hd2 fun a8 ha8 hz8 hd8 => ?_;have g8_4 : get a8 4 = v6 := kG ha8 hz2;refine hK3 a8 w6 (tUp ?_);refine wp_ret ?_;refine ⟨hd8, _, rIs hres g8_4, _, rfl, h7, ?_, i7⟩;have := o7;rw [show ([UInt8.ofNat ((i / (2 ^ 24 : Nat)) % 256).toNat, UInt8.ofNat ((i / (2 ^ 16 : Nat)) % 256).toNat, UInt8.ofNat ((i / (2 ^ 8 : Nat)) % 256).toNat, UInt8.ofNat (i % 256).toNat] : List UInt8) = fxW i 4 from by simp [fxW]] at this; exact this
theorem ap_i16 {P : Program} {f : FuncId} {fn : Func} {T40 T101 : TypeId} {f83 : FuncId} {a0 : Array TypeId} {i0 i1 : Nat} {t0 t1 t2 t3 t4 t5 : TypeId} {p0 p1 p2 p3 p4 p5 : String} {e0 e1 e2 e3 e4 e5 : Array Edge} {te : TypeId}
    (hf : P.funcs[f]? = some fn) (hname : (fn.name == "runtime.NumGoroutine") = false) (hres : fn.results = #[.tmp 4]) (hN : fn.ntmps = 9)
    (hbody : fn.body = some (.seq (Code.region i0 ⟨[oA 4 (.const (.slice none 0 0)) t0 p0 e0]⟩ false) (.seq (Code.region i1 ⟨[oM 5 0 t1 p1 e1,
    oM 6 1 t2 p2 e2, ⟨some 7, .convert T40 T101 (.tmp 6), t3, p3, e3, none⟩,
    oC 8 f83 #[(.tmp 5), (.tmp 7)] a0 t4 p4 e4,
    oT 4 8 t5 p5 e5]⟩ false) .ret)))
    (hT40_i16 : intOf P T40 .i16 = true) (hT101_u16 : intOf P T101 .u16 = true) (hC : ApI P f83 .u16 2) : ApI P f .i16 2 := by
  refine ⟨enters_of hf hname hbody, ?_⟩;intro w A dst xs i own lo hi hb;refine calls_of_wp hf hbody ?_;generalize ha0 : ({ tmps := #[dst, Value.int .i16 i] ++ Array.replicate (fn.ntmps - (#[dst, Value.int .i16 i] : Array Value).size) undef, defers := [] } : Act) = a0;have hz0 : a0.tmps.size = 9 := by subst ha0; simp [hN]
  have hd0 : a0.defers = [] := by subst ha0; rfl
  have g0_0 : get a0 0 = dst := by subst ha0; exact gAr rfl
  have g0_1 : get a0 1 = .int .i16 i := by subst ha0; exact gAr rfl
  have hi0 : ∀ r ∈ spare dst 1, r.In (spare dst 1) w := fun r h => Rng.in_self h;have ho0 : Own w (fun b => A b ∨ (w.heap.size ≤ b ∧ b < w.heap.size)) 1 dst xs.length (octets xs) := own.imp_A fun _ h => .inl h;refine wT fun K1 hK1 => ?_;refine wC (wAs (v := .slice none 0 0) rfl ?_);refine wEk hz0 hd0 fun a2 ha2 hz2 hd2 => ?_;have g2_0 := kP ha2 g0_0;have g2_1 := kP ha2 g0_1;refine hK1 a2 w (tUp ?_);refine wT fun K3 hK3 => ?_;refine wC (wMv (v := dst) (eK g2_0) ?_);refine wC (wMv (v := .int .i16 i) (eK g2_1) ?_);refine wC (wCv (k1 := .i16) (i := i) hT40_i16 hT101_u16 (eS hz2) ?_);rw [show (IntKind.u16.wrap (i : Int)) = (i % 65536 : Int) from by simp [IntKind.wrap, IntKind.bits, IntKind.signed]];refine wC (wCr (R := fun vz wz => Fr (spare dst 1) w wz ∧ Own wz (fun b => (fun b => A b ∨ (w.heap.size ≤ b ∧ b < w.heap.size)) b ∨ (w.heap.size ≤ b ∧ b < wz.heap.size)) 1 vz (xs ++ (fxW (i % 65536) 2)).length (octets (xs ++ (fxW (i % 65536) 2))) ∧ ∀ r ∈ spare vz 1, r.In (spare dst 1) w) (vs := #[dst, .int .u16 (i % 65536)]) hC.enters (mX2 (eS hz2) (eS hz2)) (Apd.ret (hC.call w (fun b => A b ∨ (w.heap.size ≤ b ∧ b < w.heap.size)) _ _ (i % 65536) ho0 (by simp [IntKind.min, IntKind.signed, IntKind.bits]; omega) (by simp [IntKind.max, IntKind.signed, IntKind.bits]; omega) hb)) ?_);rintro v4 w4 ⟨f4, ho4, hi4⟩;have h5 : Fr (spare dst 1) w w4 := (Fr.refl (spare dst 1) w).trans f4 hi0;have o5 : Own w4 (fun b => A b ∨ (w.heap.size ≤ b ∧ b < w4.heap.size)) 1 v4 (xs ++ (fxW (i % 65536) 2)).length (octets (xs ++ (fxW (i % 65536) 2))) := ho4.imp_A (own_or (Fr.refl (spare dst 1) w).size f4.size);have i5 : ∀ r ∈ spare v4 1, r.In (spare dst 1) w := fun r hr => Rng.in_trans (hi4 r hr) hi0 (Fr.refl (spare dst 1) w).size;refine wC (wAs (v := v4) (eS hz2) ?_);refine wEk hz2 hd2 fun a6 ha6 hz6 hd6 => ?_;have g6_4 : get a6 4 = v4 := kG ha6 hz2;refine hK3 a6 w4 (tUp ?_);refine wp_ret ?_;refine ⟨hd6, _, rIs hres g6_4, _, rfl, h5, ?_, i5⟩;have := o5;rw [fixedW_mod2] at this; exact this
theorem ap_i32 {P : Program} {f : FuncId} {fn : Func} {T21 T58 : TypeId} {f82 : FuncId} {a0 : Array TypeId} {i0 i1 : Nat} {t0 t1 t2 t3 t4 t5 : TypeId} {p0 p1 p2 p3 p4 p5 : String} {e0 e1 e2 e3 e4 e5 : Array Edge} {te : TypeId}
    (hf : P.funcs[f]? = some fn) (hname : (fn.name == "runtime.NumGoroutine") = false) (hres : fn.results = #[.tmp 4]) (hN : fn.ntmps = 9)
    (hbody : fn.body = some (.seq (Code.region i0 ⟨[oA 4 (.const (.slice none 0 0)) t0 p0 e0]⟩ false) (.seq (Code.region i1 ⟨[oM 5 0 t1 p1 e1,
    oM 6 1 t2 p2 e2, ⟨some 7, .convert T21 T58 (.tmp 6), t3, p3, e3, none⟩,
    oC 8 f82 #[(.tmp 5), (.tmp 7)] a0 t4 p4 e4,
    oT 4 8 t5 p5 e5]⟩ false) .ret)))
    (hT21_i32 : intOf P T21 .i32 = true) (hT58_u32 : intOf P T58 .u32 = true) (hC : ApI P f82 .u32 4) : ApI P f .i32 4 := by
  refine ⟨enters_of hf hname hbody, ?_⟩;intro w A dst xs i own lo hi hb;refine calls_of_wp hf hbody ?_;generalize ha0 : ({ tmps := #[dst, Value.int .i32 i] ++ Array.replicate (fn.ntmps - (#[dst, Value.int .i32 i] : Array Value).size) undef, defers := [] } : Act) = a0;have hz0 : a0.tmps.size = 9 := by subst ha0; simp [hN]
  have hd0 : a0.defers = [] := by subst ha0; rfl
  have g0_0 : get a0 0 = dst := by subst ha0; exact gAr rfl
  have g0_1 : get a0 1 = .int .i32 i := by subst ha0; exact gAr rfl
  have hi0 : ∀ r ∈ spare dst 1, r.In (spare dst 1) w := fun r h => Rng.in_self h;have ho0 : Own w (fun b => A b ∨ (w.heap.size ≤ b ∧ b < w.heap.size)) 1 dst xs.length (octets xs) := own.imp_A fun _ h => .inl h;refine wT fun K1 hK1 => ?_;refine wC (wAs (v := .slice none 0 0) rfl ?_);refine wEk hz0 hd0 fun a2 ha2 hz2 hd2 => ?_;have g2_0 := kP ha2 g0_0;have g2_1 := kP ha2 g0_1;refine hK1 a2 w (tUp ?_);refine wT fun K3 hK3 => ?_;refine wC (wMv (v := dst) (eK g2_0) ?_);refine wC (wMv (v := .int .i32 i) (eK g2_1) ?_);refine wC (wCv (k1 := .i32) (i := i) hT21_i32 hT58_u32 (eS hz2) ?_);rw [show (IntKind.u32.wrap (i : Int)) = (i % 4294967296 : Int) from by simp [IntKind.wrap, IntKind.bits, IntKind.signed]];refine wC (wCr (R := fun vz wz => Fr (spare dst 1) w wz ∧ Own wz (fun b => (fun b => A b ∨ (w.heap.size ≤ b ∧ b < w.heap.size)) b ∨ (w.heap.size ≤ b ∧ b < wz.heap.size)) 1 vz (xs ++ (fxW (i % 4294967296) 4)).length (octets (xs ++ (fxW (i % 4294967296) 4))) ∧ ∀ r ∈ spare vz 1, r.In (spare dst 1) w) (vs := #[dst, .int .u32 (i % 4294967296)]) hC.enters (mX2 (eS hz2) (eS hz2)) (Apd.ret (hC.call w (fun b => A b ∨ (w.heap.size ≤ b ∧ b < w.heap.size)) _ _ (i % 4294967296) ho0 (by simp [IntKind.min, IntKind.signed, IntKind.bits]; omega) (by simp [IntKind.max, IntKind.signed, IntKind.bits]; omega) hb)) ?_);rintro v4 w4 ⟨f4, ho4, hi4⟩;have h5 : Fr (spare dst 1) w w4 := (Fr.refl (spare dst 1) w).trans f4 hi0;have o5 : Own w4 (fun b => A b ∨ (w.heap.size ≤ b ∧ b < w4.heap.size)) 1 v4 (xs ++ (fxW (i % 4294967296) 4)).length (octets (xs ++ (fxW (i % 4294967296) 4))) := ho4.imp_A (own_or (Fr.refl (spare dst 1) w).size f4.size);have i5 : ∀ r ∈ spare v4 1, r.In (spare dst 1) w := fun r hr => Rng.in_trans (hi4 r hr) hi0 (Fr.refl (spare dst 1) w).size;refine wC (wAs (v := v4) (eS hz2) ?_);refine wEk hz2 hd2 fun a6 ha6 hz6 hd6 => ?_;have g6_4 : get a6 4 = v4 := kG ha6 hz2;refine hK3 a6 w4 (tUp ?_);refine wp_ret ?_;refine ⟨hd6, _, rIs hres g6_4, _, rfl, h5, ?_, i5⟩;have := o5;rw [fixedW_mod4] at this; exact this
theorem ap_i8 {P : Program} {f : FuncId} {fn : Func} {T5 T22 T101 : TypeId} {i0 i1 : Nat} {t0 t1 t2 t3 t4 t5 t6 : TypeId} {p0 p1 p2 p3 p4 p5 p6 : String} {e0 e1 e2 e3 e4 e5 e6 : Array Edge} {te : TypeId}
    (hf : P.funcs[f]? = some fn) (hname : (fn.name == "runtime.NumGoroutine") = false) (hres : fn.results = #[.tmp 4]) (hN : fn.ntmps = 10)
    (hbody : fn.body = some (.seq (Code.region i0 ⟨[oA 4 (.const (.slice none 0 0)) t0 p0 e0]⟩ false) (.seq (Code.region i1 ⟨[oM 5 0 t1 p1 e1,
    oM 6 1 t2 p2 e2, ⟨some 7, .convert T101 T5 (.tmp 6), t3, p3, e3, none⟩, ⟨some 8, .buildSlice T22 1 #[(0, .tmp 7)], t4, p4, e4, none⟩, ⟨some 9, .call ⟨.builtin .append, #[(.tmp 5), (.tmp 8)], #[T22, T22]⟩, t5, p5, e5, none⟩,
    oT 4 9 t6 p6 e6]⟩ false) .ret)))
    (hT101_i8 : intOf P T101 .i8 = true) (hT5_u8 : intOf P T5 .u8 = true) (hs_T22 : sliceOf P T22 te 1 1 = true) (hz_T22 : zeroIs P te [.int .u8 0])  : ApI P f .i8 1 := by
  refine ⟨enters_of hf hname hbody, ?_⟩;intro w A dst xs i own lo hi hb;refine calls_of_wp hf hbody ?_;generalize ha0 : ({ tmps := #[dst, Value.int .i8 i] ++ Array.replicate (fn.ntmps - (#[dst, Value.int .i8 i] : Array Value).size) undef, defers := [] } : Act) = a0;have hz0 : a0.tmps.size = 10 := by subst ha0; simp [hN]
  have hd0 : a0.defers = [] := by subst ha0; rfl
  have g0_0 : get a0 0 = dst := by subst ha0; exact gAr rfl
  have g0_1 : get a0 1 = .int .i8 i := by subst ha0; exact gAr rfl
  have hi0 : ∀ r ∈ spare dst 1, r.In (spare dst 1) w := fun r h => Rng.in_self h;have ho0 : Own w (fun b => A b ∨ (w.heap.size ≤ b ∧ b < w.heap.size)) 1 dst xs.length (octets xs) := own.imp_A fun _ h => .inl h;refine wT fun K1 hK1 => ?_;refine wC (wAs (v := .slice none 0 0) rfl ?_);refine wEk hz0 hd0 fun a2 ha2 hz2 hd2 => ?_;have g2_0 := kP ha2 g0_0;have g2_1 := kP ha2 g0_1;refine hK1 a2 w (tUp ?_);refine wT fun K3 hK3 => ?_;refine wC (wMv (v := dst) (eK g2_0) ?_);refine wC (wMv (v := .int .i8 i) (eK g2_1) ?_);refine wC (wCv (k1 := .i8) (i := i) hT101_i8 hT5_u8 (eS hz2) ?_);rw [show (IntKind.u8.wrap (i : Int)) = (((UInt8.ofNat (i % 256).toNat).toNat : Int) : Int) from wrap_u8_toNat _];refine wC (wp_litN (xs := [.tmp 7]) (cs := [UInt8.ofNat (i % 256).toNat]) hs_T22 (lX1 (eS hz2)) rfl (by decide) (by decide) ?_);intro w4 u4 fr4 ou4;have h5 : Fr (spare dst 1) w w4 := (Fr.refl (spare dst 1) w).tr fr4.nil;have o5 : Own w4 (fun b => A b ∨ (w.heap.size ≤ b ∧ b < w4.heap.size)) 1 dst (xs).length (octets (xs)) := ho0.upTo fr4 (fun b hb => hb.imp id fun h => ⟨h.1, Nat.lt_of_lt_of_le h.2 fr4.size⟩);refine wC (wp_appA (xs := xs) (ys := [UInt8.ofNat (i % 256).toNat]) hs_T22 hz_T22 (eS hz2) (eS hz2) o5 ou4 (by simpa using hb) ?_);intro v6 w6 ha6;obtain ⟨_, hv6, f6, ho6, hi6⟩ := ha6 _ rfl
  cases hv6
  have h7 : Fr (spare dst 1) w w6 := h5.trans f6 hi0;have o7 : Own w6 (fun b => A b ∨ (w.heap.size ≤ b ∧ b < w6.heap.size)) 1 v6 (xs ++ [UInt8.ofNat (i % 256).toNat]).length (octets (xs ++ [UInt8.ofNat (i % 256).toNat])) := ho6.imp_A (own_or h5.size f6.size);have i7 : ∀ r ∈ spare v6 1, r.In (spare dst 1) w := fun r hr => Rng.in_trans (hi6 r hr) hi0 h5.size;refine wC (wAs (v := v6) (eS hz2) ?_);refine wEk hz2 hd2 fun a8 ha8 hz8 hd8 => ?_;have g8_4 : get a8 4 = v6 := kG ha8 hz2;refine hK3 a8 w6 (tUp ?_);refine wp_ret ?_;refine ⟨hd8, _, rIs hres g8_4, _, rfl, h7, ?_, i7⟩;have := o7;rw [show ([UInt8.ofNat (i % 256).toNat] : List UInt8) = fxW i 1 from by simp [fxW]] at this; exact this
theorem len32_m {P : Program} {f : FuncId} {fn : Func} {T3 T5 T9 T58 T93 : TypeId} {x0 : Value} {i0 i1 i2 i3 i4 i5 i6 i7 : Nat} {t0 t1 t2 t3 t4 t5 t6 t7 t8 t9 t10 t11 t12 t13 t14 t15 t16 t17 t18 t19 t20 t21 : TypeId} {p0 p1 p2 p3 p4 p5 p6 p7 p8 p9 p10 p11 p12 p13 p14 p15 p16 p17 p18 p19 p20 p21 : String} {e0 e1 e2 e3 e4 e5 e6 e7 e8 e9 e10 e11 e12 e13 e14 e15 e16 e17 e18 e19 e20 e21 : Array Edge} 
    (hf : P.funcs[f]? = some fn) (hname : (fn.name == "runtime.NumGoroutine") = false) (hres : fn.results = #[.tmp 2]) (hN : fn.ntmps = 19)
    (hbody : fn.body = some (.seq (Code.region i0 ⟨[oA 2 (.const (.int .i64 0)) t0 p0 e0]⟩ false) (.seq (.seq (Code.region i1 ⟨[oM 3 0 t1 p1 e1, ⟨some 4, .binOp .geq T58 (.tmp 3) (.const (.int .u32 65536)) T58, t2, p2, e2, none⟩]⟩ false) (.cond (.tmp 4) (.seq (Code.region i2 ⟨[oM 5 0 t3 p3 e3, ⟨some 6, .binOp .shr T58 (.tmp 5) (.const (.int .u64 16)) T93, t4, p4, e4, none⟩,
    oT 0 6 t5 p5 e5]⟩ false)
  (Code.region i3 ⟨[oA 2 (.const (.int .i64 16)) t6 p6 e6]⟩ false)) .skip)) (.seq (.seq (Code.region i4 ⟨[oM 7 0 t7 p7 e7, ⟨some 8, .binOp .geq T58 (.tmp 7) (.const (.int .u32 256)) T58, t8, p8, e8, none⟩]⟩ false) (.cond (.tmp 8) (.seq (Code.region i5 ⟨[oM 9 0 t9 p9 e9, ⟨some 10, .binOp .shr T58 (.tmp 9) (.const (.int .u64 8)) T93, t10, p10, e10, none⟩,
    oT 0 10 t11 p11 e11]⟩ false)
  (Code.region i6 ⟨[oM 11 2 t12 p12 e12, ⟨some 12, .binOp .add T3 (.tmp 11) (.const (.int .i64 8)) T3, t13, p13, e13, none⟩,
    oT 2 12 t14 p14 e14]⟩ false)) .skip)) (.seq (Code.region i7 ⟨[oM 13 2 t15 p15 e15,
    oM 14 0 t16 p16 e16, ⟨some 15, .convert T58 T5 (.tmp 14), t17, p17, e17, none⟩, ⟨some 16, .index T9 (.const x0) (.tmp 15), t18, p18, e18, none⟩, ⟨some 17, .convert T5 T3 (.tmp 16), t19, p19, e19, none⟩, ⟨some 18, .binOp .add T3 (.tmp 13) (.tmp 17) T3, t20, p20, e20, none⟩,
    oT 2 18 t21 p21 e21]⟩ false) .ret)))))
    (hT58_u32 : intOf P T58 .u32 = true) (hT5_u8 : intOf P T5 .u8 = true) (hST9 : strTy P T9 = true) (hT3_i64 : intOf P T3 .i64 = true) {tab : ByteArray} (hx : x0 = .string tab) (ht : TabL tab) : Len32M P f := by
  refine ⟨enters_of hf hname hbody, ?_⟩;intro w n hn;subst hx;refine calls_of_wp hf hbody ?_;generalize ha0 : ({ tmps := #[Value.int .u32 ((n : Nat) : Int)] ++ Array.replicate (fn.ntmps - (#[Value.int .u32 ((n : Nat) : Int)] : Array Value).size) undef, defers := [] } : Act) = a0;have hz0 : a0.tmps.size = 19 := by subst ha0; simp [hN]
  have hd0 : a0.defers = [] := by subst ha0; rfl
  have g0_0 : get a0 0 = .int .u32 ((n : Nat) : Int) := by subst ha0; exact gAr rfl
  refine wT fun K1 hK1 => ?_;refine wC (wAs (v := .int .i64 0) rfl ?_);refine wEk hz0 hd0 fun a2 ha2 hz2 hd2 => ?_;have g2_0 := kP ha2 g0_0;have g2_2 : get a2 2 = .int .i64 0 := kG ha2 hz0;refine hK1 a2 w (tUp ?_);refine tId (wp_seq_k fun K3 hK3 => ?_);refine wS fun K4 hK4 => ?_;refine wC (wMv (v := .int .u32 ((n : Nat) : Int)) (eK g2_0) ?_);refine wC (wp_geq (k1 := .u32) (i := ((n : Nat) : Int)) (j := 65536) (eS hz2) rfl ?_);refine wEk hz2 hd2 fun a5 ha5 hz5 hd5 => ?_;have g5_0 := kP ha5 g2_0;have g5_2 := kP ha5 g2_2;have g5_4 : get a5 4 = .bool (decide ((((n : Nat) : Int) : Int) ≥ (65536 : Int))) := kG ha5 hz2;refine hK4 a5 w ?_;refine wp_cond_split (t := decide ((((n : Nat) : Int) : Int) ≥ (65536 : Int))) (eK g5_4) (fun hc6 => ?_) (fun hc6 => ?_)
  · have h65 : 65536 ≤ n := by simp at hc6; omega
    refine wS fun K7 hK7 => ?_;refine wC (wMv (v := .int .u32 ((n : Nat) : Int)) (eK g5_0) ?_);refine wC (wp_shr (k1 := .u32) (i := ((n : Nat) : Int)) (n := 16) (eS hz5) rfl (by decide) ?_);rw [show (((n : Nat) : Int) / (2 ^ 16 : Nat)) = ((n / 65536 : Nat) : Int) from by simp];refine wC (wAs (v := .int .u32 ((n / 65536 : Nat) : Int)) (eS hz5) ?_);refine wEk hz5 hd5 fun a8 ha8 hz8 hd8 => ?_;have g8_0 : get a8 0 = .int .u32 ((n / 65536 : Nat) : Int) := kG ha8 hz5;refine hK7 a8 w ?_;refine wp_reg ?_;refine wC (wAs (v := .int .i64 16) rfl ?_);refine wEk hz8 hd8 fun a9 ha9 hz9 hd9 => ?_;have g9_0 := kP ha9 g8_0;have g9_2 : get a9 2 = .int .i64 16 := kG ha9 hz8;refine hK3 a9 w (tUp ?_);refine tId (wp_seq_k fun K10 hK10 => ?_);refine wS fun K11 hK11 => ?_;refine wC (wMv (v := .int .u32 ((n / 65536 : Nat) : Int)) (eK g9_0) ?_);refine wC (wp_geq (k1 := .u32) (i := ((n / 65536 : Nat) : Int)) (j := 256) (eS hz9) rfl ?_);refine wEk hz9 hd9 fun a12 ha12 hz12 hd12 => ?_;have g12_0 := kP ha12 g9_0;have g12_2 := kP ha12 g9_2;have g12_8 : get a12 8 = .bool (decide ((((n / 65536 : Nat) : Int) : Int) ≥ (256 : Int))) := kG ha12 hz9;refine hK11 a12 w ?_;refine wp_cond_split (t := decide ((((n / 65536 : Nat) : Int) : Int) ≥ (256 : Int))) (eK g12_8) (fun hc13 => ?_) (fun hc13 => ?_)
    · have h256 : 256 ≤ n / 65536 := by simp at hc13; omega
      refine wS fun K14 hK14 => ?_;refine wC (wMv (v := .int .u32 ((n / 65536 : Nat) : Int)) (eK g12_0) ?_);refine wC (wp_shr (k1 := .u32) (i := ((n / 65536 : Nat) : Int)) (n := 8) (eS hz12) rfl (by decide) ?_);rw [show (((n / 65536 : Nat) : Int) / (2 ^ 8 : Nat)) = ((n / 65536 / 256 : Nat) : Int) from by simp];refine wC (wAs (v := .int .u32 ((n / 65536 / 256 : Nat) : Int)) (eS hz12) ?_);refine wEk hz12 hd12 fun a15 ha15 hz15 hd15 => ?_;have g15_0 : get a15 0 = .int .u32 ((n / 65536 / 256 : Nat) : Int) := kG ha15 hz12;have g15_2 := kP ha15 g12_2;refine hK14 a15 w ?_;refine wp_reg ?_;refine wC (wMv (v := .int .i64 16) (eK g15_2) ?_);refine wC (wp_add (k1 := .i64) (i := 16) (j := 8) (eS hz15) rfl ?_);rw [show (IntKind.i64.wrap ((16 : Int) + (8 : Int)) : Int) = (24 : Int) from by decide];refine wC (wAs (v := .int .i64 24) (eS hz15) ?_);refine wEk hz15 hd15 fun a16 ha16 hz16 hd16 => ?_;have g16_0 := kP ha16 g15_0;have g16_2 : get a16 2 = .int .i64 24 := kG ha16 hz15;refine hK10 a16 w (tUp ?_);refine tId (wp_seq_k fun K17 hK17 => ?_);obtain ⟨c, hc, c8, c7, c6, c5, c4⟩ := ht (n / 65536 / 256) (by omega);refine wp_reg ?_;refine wC (wMv (v := .int .i64 24) (eK g16_2) ?_);refine wC (wMv (v := .int .u32 ((n / 65536 / 256 : Nat) : Int)) (eK g16_0) ?_);refine wC (wCv (k1 := .u32) (i := ((n / 65536 / 256 : Nat) : Int)) hT58_u32 hT5_u8 (eS hz16) ?_);rw [show (IntKind.u8.wrap (((n / 65536 / 256 : Nat) : Int) : Int)) = (((n / 65536 / 256 : Nat) : Int) : Int) from by simp only [IntKind.wrap, IntKind.bits, IntKind.signed]; simp; omega];refine wC (wp_strIx (k1 := .u8) (i := n / 65536 / 256) (s := tab) hST9 rfl (eS hz16) hc ?_);refine wC (wCv (k1 := .u8) (i := (c.toNat : Int)) hT5_u8 hT3_i64 (eS hz16) ?_);rw [show (IntKind.i64.wrap ((c.toNat : Int) : Int)) = ((c.toNat : Int) : Int) from by simp only [IntKind.wrap, IntKind.bits, IntKind.signed]; simp; omega];refine wC (wp_add (k1 := .i64) (i := 24) (j := (c.toNat : Int)) (eS hz16) (eS hz16) ?_);rw [show (IntKind.i64.wrap ((24 : Int) + ((c.toNat : Int) : Int)) : Int) = (((24 + c.toNat : Nat) : Int) : Int) from by simp only [IntKind.wrap, IntKind.bits, IntKind.signed]; simp; omega];refine wC (wAs (v := .int .i64 ((24 + c.toNat : Nat) : Int)) (eS hz16) ?_);refine wEk hz16 hd16 fun a18 ha18 hz18 hd18 => ?_;have g18_2 : get a18 2 = .int .i64 ((24 + c.toNat : Nat) : Int) := kG ha18 hz16;refine hK17 a18 w (tUp ?_);refine wp_ret ?_;exact ⟨hd18, _, rIs hres g18_2, 24 + c.toNat, rfl, rfl, by omega, by omega, by omega, by omega, by omega⟩
    have h256 : ¬ 256 ≤ n / 65536 := by simp at hc13; omega
    refine wp_skip ?_;refine hK10 a12 w (tUp ?_);refine tId (wp_seq_k fun K19 hK19 => ?_);obtain ⟨c, hc, c8, c7, c6, c5, c4⟩ := ht (n / 65536) (by omega);refine wp_reg ?_;refine wC (wMv (v := .int .i64 16) (eK g12_2) ?_);refine wC (wMv (v := .int .u32 ((n / 65536 : Nat) : Int)) (eK g12_0) ?_);refine wC (wCv (k1 := .u32) (i := ((n / 65536 : Nat) : Int)) hT58_u32 hT5_u8 (eS hz12) ?_);rw [show (IntKind.u8.wrap (((n / 65536 : Nat) : Int) : Int)) = (((n / 65536 : Nat) : Int) : Int) from by simp only [IntKind.wrap, IntKind.bits, IntKind.signed]; simp; omega];refine wC (wp_strIx (k1 := .u8) (i := n / 65536) (s := tab) hST9 rfl (eS hz12) hc ?_);refine wC (wCv (k1 := .u8) (i := (c.toNat : Int)) hT5_u8 hT3_i64 (eS hz12) ?_);rw [show (IntKind.i64.wrap ((c.toNat : Int) : Int)) = ((c.toNat : Int) : Int) from by simp only [IntKind.wrap, IntKind.bits, IntKind.signed]; simp; omega];refine wC (wp_add (k1 := .i64) (i := 16) (j := (c.toNat : Int)) (eS hz12) (eS hz12) ?_);rw [show (IntKind.i64.wrap ((16 : Int) + ((c.toNat : Int) : Int)) : Int) = (((16 + c.toNat : Nat) : Int) : Int) from by simp only [IntKind.wrap, IntKind.bits, IntKind.signed]; simp; omega];refine wC (wAs (v := .int .i64 ((16 + c.toNat : Nat) : Int)) (eS hz12) ?_);refine wEk hz12 hd12 fun a20 ha20 hz20 hd20 => ?_;have g20_2 : get a20 2 = .int .i64 ((16 + c.toNat : Nat) : Int) := kG ha20 hz12;refine hK19 a20 w (tUp ?_);refine wp_ret ?_;exact ⟨hd20, _, rIs hres g20_2, 16 + c.toNat, rfl, rfl, by omega, by omega, by omega, by omega, by omega⟩
  have h65 : ¬ 65536 ≤ n := by simp at hc6; omega
  refine wp_skip ?_;refine hK3 a5 w (tUp ?_);refine tId (wp_seq_k fun K21 hK21 => ?_);refine wS fun K22 hK22 => ?_;refine wC (wMv (v := .int .u32 ((n : Nat) : Int)) (eK g5_0) ?_);refine wC (wp_geq (k1 := .u32) (i := ((n : Nat) : Int)) (j := 256) (eS hz5) rfl ?_);refine wEk hz5 hd5 fun a23 ha23 hz23 hd23 => ?_;have g23_0 := kP ha23 g5_0;have g23_2 := kP ha23 g5_2;have g23_8 : get a23 8 = .bool (decide ((((n : Nat) : Int) : Int) ≥ (256 : Int))) := kG ha23 hz5;refine hK22 a23 w ?_;refine wp_cond_split (t := decide ((((n : Nat) : Int) : Int) ≥ (256 : Int))) (eK g23_8) (fun hc24 => ?_) (fun hc24 => ?_)
  · have h256 : 256 ≤ n := by simp at hc24; omega
    refine wS fun K25 hK25 => ?_;refine wC (wMv (v := .int .u32 ((n : Nat) : Int)) (eK g23_0) ?_);refine wC (wp_shr (k1 := .u32) (i := ((n : Nat) : Int)) (n := 8) (eS hz23) rfl (by decide) ?_);rw [show (((n : Nat) : Int) / (2 ^ 8 : Nat)) = ((n / 256 : Nat) : Int) from by simp];refine wC (wAs (v := .int .u32 ((n / 256 : Nat) : Int)) (eS hz23) ?_);refine wEk hz23 hd23 fun a26 ha26 hz26 hd26 => ?_;have g26_0 : get a26 0 = .int .u32 ((n / 256 : Nat) : Int) := kG ha26 hz23;have g26_2 := kP ha26 g23_2;refine hK25 a26 w ?_;refine wp_reg ?_;refine wC (wMv (v := .int .i64 0) (eK g26_2) ?_);refine wC (wp_add (k1 := .i64) (i := 0) (j := 8) (eS hz26) rfl ?_);rw [show (IntKind.i64.wrap ((0 : Int) + (8 : Int)) : Int) = (8 : Int) from by decide];refine wC (wAs (v := .int .i64 8) (eS hz26) ?_);refine wEk hz26 hd26 fun a27 ha27 hz27 hd27 => ?_;have g27_0 := kP ha27 g26_0;have g27_2 : get a27 2 = .int .i64 8 := kG ha27 hz26;refine hK21 a27 w (tUp ?_);refine tId (wp_seq_k fun K28 hK28 => ?_);obtain ⟨c, hc, c8, c7, c6, c5, c4⟩ := ht (n / 256) (by omega);refine wp_reg ?_;refine wC (wMv (v := .int .i64 8) (eK g27_2) ?_);refine wC (wMv (v := .int .u32 ((n / 256 : Nat) : Int)) (eK g27_0) ?_);refine wC (wCv (k1 := .u32) (i := ((n / 256 : Nat) : Int)) hT58_u32 hT5_u8 (eS hz27) ?_);rw [show (IntKind.u8.wrap (((n / 256 : Nat) : Int) : Int)) = (((n / 256 : Nat) : Int) : Int) from by simp only [IntKind.wrap, IntKind.bits, IntKind.signed]; simp; omega];refine wC (wp_strIx (k1 := .u8) (i := n / 256) (s := tab) hST9 rfl (eS hz27) hc ?_);refine wC (wCv (k1 := .u8) (i := (c.toNat : Int)) hT5_u8 hT3_i64 (eS hz27) ?_);rw [show (IntKind.i64.wrap ((c.toNat : Int) : Int)) = ((c.toNat : Int) : Int) from by simp only [IntKind.wrap, IntKind.bits, IntKind.signed]; simp; omega];refine wC (wp_add (k1 := .i64) (i := 8) (j := (c.toNat : Int)) (eS hz27) (eS hz27) ?_);rw [show (IntKind.i64.wrap ((8 : Int) + ((c.toNat : Int) : Int)) : Int) = (((8 + c.toNat : Nat) : Int) : Int) from by simp only [IntKind.wrap, IntKind.bits, IntKind.signed]; simp; omega];refine wC (wAs (v := .int .i64 ((8 + c.toNat : Nat) : Int)) (eS hz27) ?_);refine wEk hz27 hd27 fun a29 ha29 hz29 hd29 => ?_;have g29_2 : get a29 2 = .int .i64 ((8 + c.toNat : Nat) : Int) := kG ha29 hz27;refine hK28 a29 w (tUp ?_);refine wp_ret ?_;exact ⟨hd29, _, rIs hres g29_2, 8 + c.toNat, rfl, rfl, by omega, by omega, by omega, by omega, by omega⟩
  have h256 : ¬ 256 ≤ n := by simp at hc24; omega
  refine wp_skip ?_;refine hK21 a23 w (tUp ?_);refine tId (wp_seq_k fun K30 hK30 => ?_);obtain ⟨c, hc, c8, c7, c6, c5, c4⟩ := ht (n) (by omega);refine wp_reg ?_;refine wC (wMv (v := .int .i64 0) (eK g23_2) ?_);refine wC (wMv (v := .int .u32 ((n : Nat) : Int)) (eK g23_0) ?_);refine wC (wCv (k1 := .u32) (i := ((n : Nat) : Int)) hT58_u32 hT5_u8 (eS hz23) ?_);rw [show (IntKind.u8.wrap (((n : Nat) : Int) : Int)) = (((n : Nat) : Int) : Int) from by simp only [IntKind.wrap, IntKind.bits, IntKind.signed]; simp; omega];refine wC (wp_strIx (k1 := .u8) (i := n) (s := tab) hST9 rfl (eS hz23) hc ?_);refine wC (wCv (k1 := .u8) (i := (c.toNat : Int)) hT5_u8 hT3_i64 (eS hz23) ?_);rw [show (IntKind.i64.wrap ((c.toNat : Int) : Int)) = ((c.toNat : Int) : Int) from by simp only [IntKind.wrap, IntKind.bits, IntKind.signed]; simp; omega];refine wC (wp_add (k1 := .i64) (i := 0) (j := (c.toNat : Int)) (eS hz23) (eS hz23) ?_);rw [show (IntKind.i64.wrap ((0 : Int) + ((c.toNat : Int) : Int)) : Int) = (((0 + c.toNat : Nat) : Int) : Int) from by simp only [IntKind.wrap, IntKind.bits, IntKind.signed]; simp; omega];refine wC (wAs (v := .int .i64 ((0 + c.toNat : Nat) : Int)) (eS hz23) ?_);refine wEk hz23 hd23 fun a31 ha31 hz31 hd31 => ?_;have g31_2 : get a31 2 = .int .i64 ((0 + c.toNat : Nat) : Int) := kG ha31 hz23;refine hK30 a31 w (tUp ?_);refine wp_ret ?_;exact ⟨hd31, _, rIs hres g31_2, 0 + c.toNat, rfl, rfl, by omega, by omega, by omega, by omega, by omega⟩
theorem uvlen_m {P : Program} {f : FuncId} {fn : Func} {T3 T5 T9 : TypeId} {f98 : FuncId} {a0 : Array TypeId} {x1 : Value} {i0 i1 : Nat} {t0 t1 t2 t3 t4 t5 t6 : TypeId} {p0 p1 p2 p3 p4 p5 p6 : String} {e0 e1 e2 e3 e4 e5 e6 : Array Edge} 
    (hf : P.funcs[f]? = some fn) (hname : (fn.name == "runtime.NumGoroutine") = false) (hres : fn.results = #[.tmp 2]) (hN : fn.ntmps = 8)
    (hbody : fn.body = some (.seq (Code.region i0 ⟨[oA 2 (.const (.int .i64 0)) t0 p0 e0]⟩ false) (.seq (Code.region i1 ⟨[oM 3 0 t1 p1 e1,
    oC 4 f98 #[(.tmp 3)] a0 t2 p2 e2, ⟨some 5, .convert T3 T5 (.tmp 4), t3, p3, e3, none⟩, ⟨some 6, .index T9 (.const x1) (.tmp 5), t4, p4, e4, none⟩, ⟨some 7, .convert T5 T3 (.tmp 6), t5, p5, e5, none⟩,
    oT 2 7 t6 p6 e6]⟩ false) .ret)))
    (hT3_i64 : intOf P T3 .i64 = true) (hT5_u8 : intOf P T5 .u8 = true) (hST9 : strTy P T9 = true) {tab : ByteArray} (hx : x1 = .string tab) (ht : TabU tab) (hL : Len32M P f98) : UvLenM P f := by
  refine ⟨enters_of hf hname hbody, ?_⟩;intro w n hn;subst hx;refine calls_of_wp hf hbody ?_;generalize ha0 : ({ tmps := #[Value.int .u32 ((n : Nat) : Int)] ++ Array.replicate (fn.ntmps - (#[Value.int .u32 ((n : Nat) : Int)] : Array Value).size) undef, defers := [] } : Act) = a0;have hz0 : a0.tmps.size = 8 := by subst ha0; simp [hN]
  have hd0 : a0.defers = [] := by subst ha0; rfl
  have g0_0 : get a0 0 = .int .u32 ((n : Nat) : Int) := by subst ha0; exact gAr rfl
  refine wT fun K1 hK1 => ?_;refine wC (wAs (v := .int .i64 0) rfl ?_);refine wEk hz0 hd0 fun a2 ha2 hz2 hd2 => ?_;have g2_0 := kP ha2 g0_0;refine hK1 a2 w (tUp ?_);refine wT fun K3 hK3 => ?_;refine wC (wMv (v := .int .u32 ((n : Nat) : Int)) (eK g2_0) ?_);refine wC (wCr (R := fun x wz => ∃ k : Nat, x = .int .i64 k ∧ w = wz ∧ k ≤ 32 ∧ (k ≤ 7 ↔ n < 128) ∧ (k ≤ 14 ↔ n < 16384) ∧ (k ≤ 21 ↔ n < 2097152) ∧ (k ≤ 28 ↔ n < 268435456)) (vs := #[.int .u32 ((n : Nat) : Int)]) hL.enters (mX1 (eS hz2)) ((hL.call w n hn).mono (by rintro e wz ⟨k, rfl, h0, h⟩; exact ⟨_, rfl, k, rfl, h0.symm, h⟩)) ?_);rintro _ _ ⟨k, rfl, rfl, k32, k7, k14, k21, k28⟩;obtain ⟨c, hc, hck⟩ := ht k k32;refine wC (wCv (k1 := .i64) (i := ((k : Nat) : Int)) hT3_i64 hT5_u8 (eS hz2) ?_);rw [show (IntKind.u8.wrap (((k : Nat) : Int) : Int)) = (((k : Nat) : Int) : Int) from by simp only [IntKind.wrap, IntKind.bits, IntKind.signed]; simp; omega];refine wC (wp_strIx (k1 := .u8) (i := k) (s := tab) hST9 rfl (eS hz2) hc ?_);refine wC (wCv (k1 := .u8) (i := (c.toNat : Int)) hT5_u8 hT3_i64 (eS hz2) ?_);rw [show (IntKind.i64.wrap ((c.toNat : Int) : Int)) = ((c.toNat : Int) : Int) from by have := c.toNat_lt; simp only [IntKind.wrap, IntKind.bits, IntKind.signed]; simp; omega];refine wC (wAs (v := .int .i64 (c.toNat : Int)) (eS hz2) ?_);refine wEk hz2 hd2 fun a4 ha4 hz4 hd4 => ?_;have g4_2 : get a4 2 = .int .i64 (c.toNat : Int) := kG ha4 hz2;refine hK3 a4 w (tUp ?_);refine wp_ret ?_;exact ⟨hd4, _, rIs hres g4_2, by rw [hck]; unfold uvLen; exact congrArg (fun z : Nat => Ending.returned (.int .i64 (z : Int))) (by (repeat' split) <;> first | rfl | (exfalso; omega)), rfl⟩
theorem ap_uv {P : Program} {f : FuncId} {fn : Func} {T3 T5 T22 T58 T93 : TypeId} {f84 : FuncId} {a0 : Array TypeId} {i0 i1 i2 i3 i4 i5 i6 i7 i8 i9 i10 i11 i12 : Nat} {t0 t1 t2 t3 t4 t5 t6 t7 t8 t9 t10 t11 t12 t13 t14 t15 t16 t17 t18 t19 t20 t21 t22 t23 t24 t25 t26 t27 t28 t29 t30 t31 t32 t33 t34 t35 t36 t37 t38 t39 t40 t41 t42 t43 t44 t45 t46 t47 t48 t49 t50 t51 t52 t53 t54 t55 t56 t57 t58 t59 t60 t61 t62 t63 t64 t65 t66 t67 t68 t69 t70 t71 t72 t73 t74 t75 t76 t77 t78 t79 t80 t81 t82 t83 t84 t85 t86 t87 t88 t89 t90 t91 t92 t93 t94 : TypeId} {p0 p1 p2 p3 p4 p5 p6 p7 p8 p9 p10 p11 p12 p13 p14 p15 p16 p17 p18 p19 p20 p21 p22 p23 p24 p25 p26 p27 p28 p29 p30 p31 p32 p33 p34 p35 p36 p37 p38 p39 p40 p41 p42 p43 p44 p45 p46 p47 p48 p49 p50 p51 p52 p53 p54 p55 p56 p57 p58 p59 p60 p61 p62 p63 p64 p65 p66 p67 p68 p69 p70 p71 p72 p73 p74 p75 p76 p77 p78 p79 p80 p81 p82 p83 p84 p85 p86 p87 p88 p89 p90 p91 p92 p93 p94 : String} {e0 e1 e2 e3 e4 e5 e6 e7 e8 e9 e10 e11 e12 e13 e14 e15 e16 e17 e18 e19 e20 e21 e22 e23 e24 e25 e26 e27 e28 e29 e30 e31 e32 e33 e34 e35 e36 e37 e38 e39 e40 e41 e42 e43 e44 e45 e46 e47 e48 e49 e50 e51 e52 e53 e54 e55 e56 e57 e58 e59 e60 e61 e62 e63 e64 e65 e66 e67 e68 e69 e70 e71 e72 e73 e74 e75 e76 e77 e78 e79 e80 e81 e82 e83 e84 e85 e86 e87 e88 e89 e90 e91 e92 e93 e94 : Array Edge} {te : TypeId}
    (hf : P.funcs[f]? = some fn) (hname : (fn.name == "runtime.NumGoroutine") = false) (hres : fn.results = #[.tmp 4]) (hN : fn.ntmps = 93)
    (hbody : fn.body = some (.seq (Code.region i0 ⟨[oA 4 (.const (.slice none 0 0)) t0 p0 e0]⟩ false) (.seq (.seq (Code.region i1 ⟨[oM 5 1 t1 p1 e1,
    oC 6 f84 #[(.tmp 5)] a0 t2 p2 e2]⟩ false) (.block 0 (.seq (Code.region i2 ⟨[⟨some 8, .binOp .eql T3 (.tmp 6) (.const (.int .i64 5)) T3, t3, p3, e3, none⟩,
    oT 7 8 t4 p4 e4]⟩ false) (.cond (.tmp 7) (.seq (Code.region i3 ⟨[oM 9 0 t5 p5 e5,
    oM 10 1 t6 p6 e6, ⟨some 11, .binOp .and T58 (.tmp 10) (.const (.int .u32 127)) T58, t7, p7, e7, none⟩, ⟨some 12, .binOp .or T58 (.tmp 11) (.const (.int .u32 128)) T58, t8, p8, e8, none⟩, ⟨some 13, .convert T58 T5 (.tmp 12), t9, p9, e9, none⟩,
    oM 14 1 t10 p10 e10, ⟨some 15, .binOp .shr T58 (.tmp 14) (.const (.int .u64 7)) T93, t11, p11, e11, none⟩, ⟨some 16, .binOp .and T58 (.tmp 15) (.const (.int .u32 127)) T58, t12, p12, e12, none⟩, ⟨some 17, .binOp .or T58 (.tmp 16) (.const (.int .u32 128)) T58, t13, p13, e13, none⟩, ⟨some 18, .convert T58 T5 (.tmp 17), t14, p14, e14, none⟩,
    oM 19 1 t15 p15 e15, ⟨some 20, .binOp .shr T58 (.tmp 19) (.const (.int .u64 14)) T93, t16, p16, e16, none⟩, ⟨some 21, .binOp .and T58 (.tmp 20) (.const (.int .u32 127)) T58, t17, p17, e17, none⟩, ⟨some 22, .binOp .or T58 (.tmp 21) (.const (.int .u32 128)) T58, t18, p18, e18, none⟩, ⟨some 23, .convert T58 T5 (.tmp 22), t19, p19, e19, none⟩,
    oM 24 1 t20 p20 e20, ⟨some 25, .binOp .shr T58 (.tmp 24) (.const (.int .u64 21)) T93, t21, p21, e21, none⟩, ⟨some 26, .binOp .and T58 (.tmp 25) (.const (.int .u32 127)) T58, t22, p22, e22, none⟩, ⟨some 27, .binOp .or T58 (.tmp 26) (.const (.int .u32 128)) T58, t23, p23, e23, none⟩, ⟨some 28, .convert T58 T5 (.tmp 27), t24, p24, e24, none⟩,
    oM 29 1 t25 p25 e25, ⟨some 30, .binOp .shr T58 (.tmp 29) (.const (.int .u64 28)) T93, t26, p26, e26, none⟩, ⟨some 31, .convert T58 T5 (.tmp 30), t27, p27, e27, none⟩, ⟨some 32, .buildSlice T22 5 #[(0, .tmp 13), (1, .tmp 18), (2, .tmp 23), (3, .tmp 28), (4, .tmp 31)], t28, p28, e28, none⟩, ⟨some 33, .call ⟨.builtin .append, #[(.tmp 9), (.tmp 32)], #[T22, T22]⟩, t29, p29, e29, none⟩,
    oT 4 33 t30 p30 e30]⟩ false) .ret) (.seq (Code.region i4 ⟨[⟨some 35, .binOp .eql T3 (.tmp 6) (.const (.int .i64 4)) T3, t31, p31, e31, none⟩,
    oT 34 35 t32 p32 e32]⟩ false) (.cond (.tmp 34) (.seq (Code.region i5 ⟨[oM 36 0 t33 p33 e33,
    oM 37 1 t34 p34 e34, ⟨some 38, .binOp .and T58 (.tmp 37) (.const (.int .u32 127)) T58, t35, p35, e35, none⟩, ⟨some 39, .binOp .or T58 (.tmp 38) (.const (.int .u32 128)) T58, t36, p36, e36, none⟩, ⟨some 40, .convert T58 T5 (.tmp 39), t37, p37, e37, none⟩,
    oM 41 1 t38 p38 e38, ⟨some 42, .binOp .shr T58 (.tmp 41) (.const (.int .u64 7)) T93, t39, p39, e39, none⟩, ⟨some 43, .binOp .and T58 (.tmp 42) (.const (.int .u32 127)) T58, t40, p40, e40, none⟩, ⟨some 44, .binOp .or T58 (.tmp 43) (.const (.int .u32 128)) T58, t41, p41, e41, none⟩, ⟨some 45, .convert T58 T5 (.tmp 44), t42, p42, e42, none⟩,
    oM 46 1 t43 p43 e43, ⟨some 47, .binOp .shr T58 (.tmp 46) (.const (.int .u64 14)) T93, t44, p44, e44, none⟩, ⟨some 48, .binOp .and T58 (.tmp 47) (.const (.int .u32 127)) T58, t45, p45, e45, none⟩, ⟨some 49, .binOp .or T58 (.tmp 48) (.const (.int .u32 128)) T58, t46, p46, e46, none⟩, ⟨some 50, .convert T58 T5 (.tmp 49), t47, p47, e47, none⟩,
    oM 51 1 t48 p48 e48, ⟨some 52, .binOp .shr T58 (.tmp 51) (.const (.int .u64 21)) T93, t49, p49, e49, none⟩, ⟨some 53, .convert T58 T5 (.tmp 52), t50, p50, e50, none⟩, ⟨some 54, .buildSlice T22 4 #[(0, .tmp 40), (1, .tmp 45), (2, .tmp 50), (3, .tmp 53)], t51, p51, e51, none⟩, ⟨some 55, .call ⟨.builtin .append, #[(.tmp 36), (.tmp 54)], #[T22, T22]⟩, t52, p52, e52, none⟩,
    oT 4 55 t53 p53 e53]⟩ false) .ret) (.seq (Code.region i6 ⟨[⟨some 57, .binOp .eql T3 (.tmp 6) (.const (.int .i64 3)) T3, t54, p54, e54, none⟩,
    oT 56 57 t55 p55 e55]⟩ false) (.cond (.tmp 56) (.seq (Code.region i7 ⟨[oM 58 0 t56 p56 e56,
    oM 59 1 t57 p57 e57, ⟨some 60, .binOp .and T58 (.tmp 59) (.const (.int .u32 127)) T58, t58, p58, e58, none⟩, ⟨some 61, .binOp .or T58 (.tmp 60) (.const (.int .u32 128)) T58, t59, p59, e59, none⟩, ⟨some 62, .convert T58 T5 (.tmp 61), t60, p60, e60, none⟩,
    oM 63 1 t61 p61 e61, ⟨some 64, .binOp .shr T58 (.tmp 63) (.const (.int .u64 7)) T93, t62, p62, e62, none⟩, ⟨some 65, .binOp .and T58 (.tmp 64) (.const (.int .u32 127)) T58, t63, p63, e63, none⟩, ⟨some 66, .binOp .or T58 (.tmp 65) (.const (.int .u32 128)) T58, t64, p64, e64, none⟩, ⟨some 67, .convert T58 T5 (.tmp 66), t65, p65, e65, none⟩,
    oM 68 1 t66 p66 e66, ⟨some 69, .binOp .shr T58 (.tmp 68) (.const (.int .u64 14)) T93, t67, p67, e67, none⟩, ⟨some 70, .convert T58 T5 (.tmp 69), t68, p68, e68, none⟩, ⟨some 71, .buildSlice T22 3 #[(0, .tmp 62), (1, .tmp 67), (2, .tmp 70)], t69, p69, e69, none⟩, ⟨some 72, .call ⟨.builtin .append, #[(.tmp 58), (.tmp 71)], #[T22, T22]⟩, t70, p70, e70, none⟩,
    oT 4 72 t71 p71 e71]⟩ false) .ret) (.seq (Code.region i8 ⟨[⟨some 74, .binOp .eql T3 (.tmp 6) (.const (.int .i64 2)) T3, t72, p72, e72, none⟩,
    oT 73 74 t73 p73 e73]⟩ false) (.cond (.tmp 73) (.seq (Code.region i9 ⟨[oM 75 0 t74 p74 e74,
    oM 76 1 t75 p75 e75, ⟨some 77, .binOp .and T58 (.tmp 76) (.const (.int .u32 127)) T58, t76, p76, e76, none⟩, ⟨some 78, .binOp .or T58 (.tmp 77) (.const (.int .u32 128)) T58, t77, p77, e77, none⟩, ⟨some 79, .convert T58 T5 (.tmp 78), t78, p78, e78, none⟩,
    oM 80 1 t79 p79 e79, ⟨some 81, .binOp .shr T58 (.tmp 80) (.const (.int .u64 7)) T93, t80, p80, e80, none⟩, ⟨some 82, .convert T58 T5 (.tmp 81), t81, p81, e81, none⟩, ⟨some 83, .buildSlice T22 2 #[(0, .tmp 79), (1, .tmp 82)], t82, p82, e82, none⟩, ⟨some 84, .call ⟨.builtin .append, #[(.tmp 75), (.tmp 83)], #[T22, T22]⟩, t83, p83, e83, none⟩,
    oT 4 84 t84 p84 e84]⟩ false) .ret) (.seq (Code.region i10 ⟨[⟨some 86, .binOp .eql T3 (.tmp 6) (.const (.int .i64 1)) T3, t85, p85, e85, none⟩,
    oT 85 86 t86 p86 e86]⟩ false) (.cond (.tmp 85) (.seq (Code.region i11 ⟨[oM 87 0 t87 p87 e87,
    oM 88 1 t88 p88 e88, ⟨some 89, .convert T58 T5 (.tmp 88), t89, p89, e89, none⟩, ⟨some 90, .buildSlice T22 1 #[(0, .tmp 89)], t90, p90, e90, none⟩, ⟨some 91, .call ⟨.builtin .append, #[(.tmp 87), (.tmp 90)], #[T22, T22]⟩, t91, p91, e91, none⟩,
    oT 4 91 t92 p92 e92]⟩ false) .ret) .skip)))))))))))) (.seq (Code.region i12 ⟨[oM 92 0 t93 p93 e93,
    oT 4 92 t94 p94 e94]⟩ false) .ret))))
    (hT58_u32 : intOf P T58 .u32 = true) (hT5_u8 : intOf P T5 .u8 = true) (hs_T22 : sliceOf P T22 te 1 1 = true) (hz_T22 : zeroIs P te [.int .u8 0]) (hL : UvLenM P f84) : ApU P f := by
  refine ⟨enters_of hf hname hbody, ?_⟩;intro w A dst xs n own hn hb;refine calls_of_wp hf hbody ?_;generalize ha0 : ({ tmps := #[dst, Value.int .u32 ((n : Nat) : Int)] ++ Array.replicate (fn.ntmps - (#[dst, Value.int .u32 ((n : Nat) : Int)] : Array Value).size) undef, defers := [] } : Act) = a0;have hz0 : a0.tmps.size = 93 := by subst ha0; simp [hN]
  have hd0 : a0.defers = [] := by subst ha0; rfl
  have g0_0 : get a0 0 = dst := by subst ha0; exact gAr rfl
  have g0_1 : get a0 1 = .int .u32 ((n : Nat) : Int) := by subst ha0; exact gAr rfl
  have hi0 : ∀ r ∈ spare dst 1, r.In (spare dst 1) w := fun r h => Rng.in_self h;have ho0 : Own w (fun b => A b ∨ (w.heap.size ≤ b ∧ b < w.heap.size)) 1 dst xs.length (octets xs) := own.imp_A fun _ h => .inl h;refine wT fun K1 hK1 => ?_;refine wC (wAs (v := .slice none 0 0) rfl ?_);refine wEk hz0 hd0 fun a2 ha2 hz2 hd2 => ?_;have g2_0 := kP ha2 g0_0;have g2_1 := kP ha2 g0_1;refine hK1 a2 w (tUp ?_);refine tId (wp_seq_k fun K3 hK3 => ?_);refine wS fun K4 hK4 => ?_;refine wC (wMv (v := .int .u32 ((n : Nat) : Int)) (eK g2_1) ?_);refine wC (wCr (R := fun x wz => x = .int .i64 ((uvLen n : Nat) : Int) ∧ w = wz) (vs := #[.int .u32 ((n : Nat) : Int)]) hL.enters (mX1 (eS hz2)) ((hL.call w n hn).mono (by rintro e wz ⟨rfl, rfl⟩; exact ⟨_, rfl, rfl, rfl⟩)) ?_);rintro _ _ ⟨rfl, rfl⟩;refine wEk hz2 hd2 fun a5 ha5 hz5 hd5 => ?_;have g5_0 := kP ha5 g2_0;have g5_1 := kP ha5 g2_1;have g5_6 : get a5 6 = .int .i64 ((uvLen n : Nat) : Int) := kG ha5 hz2;refine hK4 a5 w ?_;refine wp_blockT ?_;refine wS fun K6 hK6 => ?_;refine wC (wp_eql (k1 := .i64) (i := ((uvLen n : Nat) : Int)) (j := 5) (eK g5_6) rfl ?_);refine wC (wAs (v := .bool ((((uvLen n : Nat) : Int) : Int) == (5 : Int))) (eS hz5) ?_);refine wEk hz5 hd5 fun a7 ha7 hz7 hd7 => ?_;have g7_0 := kP ha7 g5_0;have g7_1 := kP ha7 g5_1;have g7_6 := kP ha7 g5_6;have g7_7 : get a7 7 = .bool ((((uvLen n : Nat) : Int) : Int) == (5 : Int)) := kG ha7 hz5;refine hK6 a7 w ?_;refine wp_cond_split (t := ((((uvLen n : Nat) : Int) : Int) == (5 : Int))) (eK g7_7) (fun hc8 => ?_) (fun hc8 => ?_)
  · have hk5 : uvLen n = 5 := by simp at hc8; omega
    have hb5 : 268435456 ≤ n ∧ n < 4294967296 := by unfold uvLen at hk5; (repeat' (split at hk5)) <;> omega
    have huv : uvW n = [UInt8.ofNat ((n) % 128 + 128), UInt8.ofNat ((n / 128) % 128 + 128), UInt8.ofNat ((n / 16384) % 128 + 128), UInt8.ofNat ((n / 2097152) % 128 + 128), UInt8.ofNat (n / 268435456)] := uvW_5 hb5.1 hb5.2;refine wS fun K9 hK9 => ?_;refine wC (wMv (v := dst) (eK g7_0) ?_);refine wC (wMv (v := .int .u32 ((n : Nat) : Int)) (eK g7_1) ?_);refine wC (wp_band (k1 := .u32) (i := ((n : Nat) : Int)) (j := 127) (eS hz7) rfl ?_);rw [band127u (n) (by omega)];refine wC (wp_bor (k1 := .u32) (i := (((n) % 128 : Nat) : Int)) (j := 128) (eS hz7) rfl ?_);rw [bor128u (n)];refine wC (wCv (k1 := .u32) (i := (((n) % 128 + 128 : Nat) : Int)) hT58_u32 hT5_u8 (eS hz7) ?_);rw [show (IntKind.u8.wrap ((((n) % 128 + 128 : Nat) : Int) : Int)) = (((UInt8.ofNat ((n) % 128 + 128)).toNat : Int) : Int) from by simp only [IntKind.wrap, IntKind.bits, IntKind.signed]; simp <;> omega];refine wC (wMv (v := .int .u32 ((n : Nat) : Int)) (eK g7_1) ?_);refine wC (wp_shr (k1 := .u32) (i := ((n : Nat) : Int)) (n := 7) (eS hz7) rfl (by decide) ?_);rw [show (((n : Nat) : Int) / (2 ^ 7 : Nat)) = ((n / 128 : Nat) : Int) from by simp];refine wC (wp_band (k1 := .u32) (i := ((n / 128 : Nat) : Int)) (j := 127) (eS hz7) rfl ?_);rw [band127u (n / 128) (by omega)];refine wC (wp_bor (k1 := .u32) (i := (((n / 128) % 128 : Nat) : Int)) (j := 128) (eS hz7) rfl ?_);rw [bor128u (n / 128)];refine wC (wCv (k1 := .u32) (i := (((n / 128) % 128 + 128 : Nat) : Int)) hT58_u32 hT5_u8 (eS hz7) ?_);rw [show (IntKind.u8.wrap ((((n / 128) % 128 + 128 : Nat) : Int) : Int)) = (((UInt8.ofNat ((n / 128) % 128 + 128)).toNat : Int) : Int) from by simp only [IntKind.wrap, IntKind.bits, IntKind.signed]; simp <;> omega];refine wC (wMv (v := .int .u32 ((n : Nat) : Int)) (eK g7_1) ?_);refine wC (wp_shr (k1 := .u32) (i := ((n : Nat) : Int)) (n := 14) (eS hz7) rfl (by decide) ?_);rw [show (((n : Nat) : Int) / (2 ^ 14 : Nat)) = ((n / 16384 : Nat) : Int) from by simp];refine wC (wp_band (k1 := .u32) (i := ((n / 16384 : Nat) : Int)) (j := 127) (eS hz7) rfl ?_);rw [band127u (n / 16384) (by omega)];refine wC (wp_bor (k1 := .u32) (i := (((n / 16384) % 128 : Nat) : Int)) (j := 128) (eS hz7) rfl ?_);rw [bor128u (n / 16384)];refine wC (wCv (k1 := .u32) (i := (((n / 16384) % 128 + 128 : Nat) : Int)) hT58_u32 hT5_u8 (eS hz7) ?_);rw [show (IntKind.u8.wrap ((((n / 16384) % 128 + 128 : Nat) : Int) : Int)) = (((UInt8.ofNat ((n / 16384) % 128 + 128)).toNat : Int) : Int) from by simp only [IntKind.wrap, IntKind.bits, IntKind.signed]; simp <;> omega];refine wC (wMv (v := .int .u32 ((n : Nat) : Int)) (eK g7_1) ?_);refine wC (wp_shr (k1 := .u32) (i := ((n : Nat) : Int)) (n := 21) (eS hz7) rfl (by decide) ?_);rw [show (((n : Nat) : Int) / (2 ^ 21 : Nat)) = ((n / 2097152 : Nat) : Int) from by simp];refine wC (wp_band (k1 := .u32) (i := ((n / 2097152 : Nat) : Int)) (j := 127) (eS hz7) rfl ?_);rw [band127u (n / 2097152) (by omega)];refine wC (wp_bor (k1 := .u32) (i := (((n / 2097152) % 128 : Nat) : Int)) (j := 128) (eS hz7) rfl ?_);rw [bor128u (n / 2097152)];refine wC (wCv (k1 := .u32) (i := (((n / 2097152) % 128 + 128 : Nat) : Int)) hT58_u32 hT5_u8 (eS hz7) ?_);rw [show (IntKind.u8.wrap ((((n / 2097152) % 128 + 128 : Nat) : Int) : Int)) = (((UInt8.ofNat ((n / 2097152) % 128 + 128)).toNat : Int) : Int) from by simp only [IntKind.wrap, IntKind.bits, IntKind.signed]; simp <;> omega];refine wC (wMv (v := .int .u32 ((n : Nat) : Int)) (eK g7_1) ?_);refine wC (wp_shr (k1 := .u32) (i := ((n : Nat) : Int)) (n := 28) (eS hz7) rfl (by decide) ?_);rw [show (((n : Nat) : Int) / (2 ^ 28 : Nat)) = ((n / 268435456 : Nat) : Int) from by simp];refine wC (wCv (k1 := .u32) (i := ((n / 268435456 : Nat) : Int)) hT58_u32 hT5_u8 (eS hz7) ?_);rw [show (IntKind.u8.wrap (((n / 268435456 : Nat) : Int) : Int)) = (((UInt8.ofNat (n / 268435456)).toNat : Int) : Int) from by simp only [IntKind.wrap, IntKind.bits, IntKind.signed]; simp <;> omega];refine wC (wp_litN (xs := [.tmp 13, .tmp 18, .tmp 23, .tmp 28, .tmp 31]) (cs := [UInt8.ofNat ((n) % 128 + 128), UInt8.ofNat ((n / 128) % 128 + 128), UInt8.ofNat ((n / 16384) % 128 + 128), UInt8.ofNat ((n / 2097152) % 128 + 128), UInt8.ofNat (n / 268435456)]) hs_T22 (by simp only [List.map_cons, List.map_nil]; rw [eTm, nZ (by decide), nZ (by decide), nZ (by decide), nZ (by decide), nZ (by decide), nZ (by decide), nZ (by decide), nZ (by decide), nZ (by decide), nZ (by decide), nZ (by decide), nZ (by decide), nZ (by decide), nZ (by decide), nZ (by decide), nZ (by decide), nZ (by decide), nZ (by decide), sZ (zZ (zZ (zZ (zZ hz7)))) (by decide), eTm, nZ (by decide), nZ (by decide), nZ (by decide), nZ (by decide), nZ (by decide), nZ (by decide), nZ (by decide), nZ (by decide), nZ (by decide), nZ (by decide), nZ (by decide), nZ (by decide), nZ (by decide), sZ (zZ (zZ (zZ (zZ (zZ (zZ (zZ (zZ (zZ hz7))))))))) (by decide), eTm, nZ (by decide), nZ (by decide), nZ (by decide), nZ (by decide), nZ (by decide), nZ (by decide), nZ (by decide), nZ (by decide), sZ (zZ (zZ (zZ (zZ (zZ (zZ (zZ (zZ (zZ (zZ (zZ (zZ (zZ (zZ hz7)))))))))))))) (by decide), eTm, nZ (by decide), nZ (by decide), nZ (by decide), sZ (zZ (zZ (zZ (zZ (zZ (zZ (zZ (zZ (zZ (zZ (zZ (zZ (zZ (zZ (zZ (zZ (zZ (zZ (zZ hz7))))))))))))))))))) (by decide), eTm, sZ (zZ (zZ (zZ (zZ (zZ (zZ (zZ (zZ (zZ (zZ (zZ (zZ (zZ (zZ (zZ (zZ (zZ (zZ (zZ (zZ (zZ (zZ hz7)))))))))))))))))))))) (by decide)]) rfl (by decide) (by decide) ?_);intro w10 u10 fr10 ou10;have h11 : Fr (spare dst 1) w w10 := (Fr.refl (spare dst 1) w).tr fr10.nil;have o11 : Own w10 (fun b => A b ∨ (w.heap.size ≤ b ∧ b < w10.heap.size)) 1 dst (xs).length (octets (xs)) := ho0.upTo fr10 (fun b hb => hb.imp id fun h => ⟨h.1, Nat.lt_of_lt_of_le h.2 fr10.size⟩);refine wC (wp_appA (xs := xs) (ys := [UInt8.ofNat ((n) % 128 + 128), UInt8.ofNat ((n / 128) % 128 + 128), UInt8.ofNat ((n / 16384) % 128 + 128), UInt8.ofNat ((n / 2097152) % 128 + 128), UInt8.ofNat (n / 268435456)]) hs_T22 hz_T22 (eS hz7) (eS hz7) o11 ou10 (by rw [List.length_append, huv] at hb; simpa using hb) ?_);intro v12 w12 ha12;obtain ⟨_, hv12, f12, ho12, hi12⟩ := ha12 _ rfl
    cases hv12
    have h13 : Fr (spare dst 1) w w12 := h11.trans f12 hi0;have o13 : Own w12 (fun b => A b ∨ (w.heap.size ≤ b ∧ b < w12.heap.size)) 1 v12 (xs ++ [UInt8.ofNat ((n) % 128 + 128), UInt8.ofNat ((n / 128) % 128 + 128), UInt8.ofNat ((n / 16384) % 128 + 128), UInt8.ofNat ((n / 2097152) % 128 + 128), UInt8.ofNat (n / 268435456)]).length (octets (xs ++ [UInt8.ofNat ((n) % 128 + 128), UInt8.ofNat ((n / 128) % 128 + 128), UInt8.ofNat ((n / 16384) % 128 + 128), UInt8.ofNat ((n / 2097152) % 128 + 128), UInt8.ofNat (n / 268435456)])) := ho12.imp_A (own_or h11.size f12.size);have i13 : ∀ r ∈ spare v12 1, r.In (spare dst 1) w := fun r hr => Rng.in_trans (hi12 r hr) hi0 h11.size;refine wC (wAs (v := v12) (eS hz7) ?_);refine wEk hz7 hd7 fun a14 ha14 hz14 hd14 => ?_;have g14_4 : get a14 4 = v12 := kG ha14 hz7;refine hK9 a14 w12 ?_;refine wp_ret ?_;rw [huv];exact ⟨hd14, _, rIs hres g14_4, _, rfl, h13, o13, i13⟩
  have hn5 : uvLen n ≠ 5 := by simp at hc8; omega
  refine wS fun K15 hK15 => ?_;refine wC (wp_eql (k1 := .i64) (i := ((uvLen n : Nat) : Int)) (j := 4) (eK g7_6) rfl ?_);refine wC (wAs (v := .bool ((((uvLen n : Nat) : Int) : Int) == (4 : Int))) (eS hz7) ?_);refine wEk hz7 hd7 fun a16 ha16 hz16 hd16 => ?_;have g16_0 := kP ha16 g7_0;have g16_1 := kP ha16 g7_1;have g16_6 := kP ha16 g7_6;have g16_34 : get a16 34 = .bool ((((uvLen n : Nat) : Int) : Int) == (4 : Int)) := kG ha16 hz7;refine hK15 a16 w ?_;refine wp_cond_split (t := ((((uvLen n : Nat) : Int) : Int) == (4 : Int))) (eK g16_34) (fun hc17 => ?_) (fun hc17 => ?_)
  · have hk4 : uvLen n = 4 := by simp at hc17; omega
    have hb4 : 2097152 ≤ n ∧ n < 268435456 := by unfold uvLen at hk4; (repeat' (split at hk4)) <;> omega
    have huv : uvW n = [UInt8.ofNat ((n) % 128 + 128), UInt8.ofNat ((n / 128) % 128 + 128), UInt8.ofNat ((n / 16384) % 128 + 128), UInt8.ofNat (n / 2097152)] := uvW_4 hb4.1 hb4.2;refine wS fun K18 hK18 => ?_;refine wC (wMv (v := dst) (eK g16_0) ?_);refine wC (wMv (v := .int .u32 ((n : Nat) : Int)) (eK g16_1) ?_);refine wC (wp_band (k1 := .u32) (i := ((n : Nat) : Int)) (j := 127) (eS hz16) rfl ?_);rw [band127u (n) (by omega)];refine wC (wp_bor (k1 := .u32) (i := (((n) % 128 : Nat) : Int)) (j := 128) (eS hz16) rfl ?_);rw [bor128u (n)];refine wC (wCv (k1 := .u32) (i := (((n) % 128 + 128 : Nat) : Int)) hT58_u32 hT5_u8 (eS hz16) ?_);rw [show (IntKind.u8.wrap ((((n) % 128 + 128 : Nat) : Int) : Int)) = (((UInt8.ofNat ((n) % 128 + 128)).toNat : Int) : Int) from by simp only [IntKind.wrap, IntKind.bits, IntKind.signed]; simp <;> omega];refine wC (wMv (v := .int .u32 ((n : Nat) : Int)) (eK g16_1) ?_);refine wC (wp_shr (k1 := .u32) (i := ((n : Nat) : Int)) (n := 7) (eS hz16) rfl (by decide) ?_);rw [show (((n : Nat) : Int) / (2 ^ 7 : Nat)) = ((n / 128 : Nat) : Int) from by simp];refine wC (wp_band (k1 := .u32) (i := ((n / 128 : Nat) : Int)) (j := 127) (eS hz16) rfl ?_);rw [band127u (n / 128) (by omega)];refine wC (wp_bor (k1 := .u32) (i := (((n / 128) % 128 : Nat) : Int)) (j := 128) (eS hz16) rfl ?_);rw [bor128u (n / 128)];refine wC (wCv (k1 := .u32) (i := (((n / 128) % 128 + 128 : Nat) : Int)) hT58_u32 hT5_u8 (eS hz16) ?_);rw [show (IntKind.u8.wrap ((((n / 128) % 128 + 128 : Nat) : Int) : Int)) = (((UInt8.ofNat ((n / 128) % 128 + 128)).toNat : Int) : Int) from by simp only [IntKind.wrap, IntKind.bits, IntKind.signed]; simp <;> omega];refine wC (wMv (v := .int .u32 ((n : Nat) : Int)) (eK g16_1) ?_);refine wC (wp_shr (k1 := .u32) (i := ((n : Nat) : Int)) (n := 14) (eS hz16) rfl (by decide) ?_);rw [show (((n : Nat) : Int) / (2 ^ 14 : Nat)) = ((n / 16384 : Nat) : Int) from by simp];refine wC (wp_band (k1 := .u32) (i := ((n / 16384 : Nat) : Int)) (j := 127) (eS hz16) rfl ?_);rw [band127u (n / 16384) (by omega)];refine wC (wp_bor (k1 := .u32) (i := (((n / 16384) % 128 : Nat) : Int)) (j := 128) (eS hz16) rfl ?_);rw [bor128u (n / 16384)];refine wC (wCv (k1 := .u32) (i := (((n / 16384) % 128 + 128 : Nat) : Int)) hT58_u32 hT5_u8 (eS hz16) ?_);rw [show (IntKind.u8.wrap ((((n / 16384) % 128 + 128 : Nat) : Int) : Int)) = (((UInt8.ofNat ((n / 16384) % 128 + 128)).toNat : Int) : Int) from by simp only [IntKind.wrap, IntKind.bits, IntKind.signed]; simp <;> omega];refine wC (wMv (v := .int .u32 ((n : Nat) : Int)) (eK g16_1) ?_);refine wC (wp_shr (k1 := .u32) (i := ((n : Nat) : Int)) (n := 21) (eS hz16) rfl (by decide) ?_);rw [show (((n : Nat) : Int) / (2 ^ 21 : Nat)) = ((n / 2097152 : Nat) : Int) from by simp];refine wC (wCv (k1 := .u32) (i := ((n / 2097152 : Nat) : Int)) hT58_u32 hT5_u8 (eS hz16) ?_);rw [show (IntKind.u8.wrap (((n / 2097152 : Nat) : Int) : Int)) = (((UInt8.ofNat (n / 2097152)).toNat : Int) : Int) from by simp only [IntKind.wrap, IntKind.bits, IntKind.signed]; simp <;> omega];refine wC (wp_litN (xs := [.tmp 40, .tmp 45, .tmp 50, .tmp 53]) (cs := [UInt8.ofNat ((n) % 128 + 128), UInt8.ofNat ((n / 128) % 128 + 128), UInt8.ofNat ((n / 16384) % 128 + 128), UInt8.ofNat (n / 2097152)]) hs_T22 (lX4 (eS hz16) (eS hz16) (eS hz16) (eS hz16)) rfl (by decide) (by decide) ?_);intro w19 u19 fr19 ou19;have h20 : Fr (spare dst 1) w w19 := (Fr.refl (spare dst 1) w).tr fr19.nil;have o20 : Own w19 (fun b => A b ∨ (w.heap.size ≤ b ∧ b < w19.heap.size)) 1 dst (xs).length (octets (xs)) := ho0.upTo fr19 (fun b hb => hb.imp id fun h => ⟨h.1, Nat.lt_of_lt_of_le h.2 fr19.size⟩);refine wC (wp_appA (xs := xs) (ys := [UInt8.ofNat ((n) % 128 + 128), UInt8.ofNat ((n / 128) % 128 + 128), UInt8.ofNat ((n / 16384) % 128 + 128), UInt8.ofNat (n / 2097152)]) hs_T22 hz_T22 (eS hz16) (eS hz16) o20 ou19 (by rw [List.length_append, huv] at hb; simpa using hb) ?_);intro v21 w21 ha21;obtain ⟨_, hv21, f21, ho21, hi21⟩ := ha21 _ rfl
    cases hv21
    have h22 : Fr (spare dst 1) w w21 := h20.trans f21 hi0;have o22 : Own w21 (fun b => A b ∨ (w.heap.size ≤ b ∧ b < w21.heap.size)) 1 v21 (xs ++ [UInt8.ofNat ((n) % 128 + 128), UInt8.ofNat ((n / 128) % 128 + 128), UInt8.ofNat ((n / 16384) % 128 + 128), UInt8.ofNat (n / 2097152)]).length (octets (xs ++ [UInt8.ofNat ((n) % 128 + 128), UInt8.ofNat ((n / 128) % 128 + 128), UInt8.ofNat ((n / 16384) % 128 + 128), UInt8.ofNat (n / 2097152)])) := ho21.imp_A (own_or h20.size f21.size);have i22 : ∀ r ∈ spare v21 1, r.In (spare dst 1) w := fun r hr => Rng.in_trans (hi21 r hr) hi0 h20.size;refine wC (wAs (v := v21) (eS hz16) ?_);refine wEk hz16 hd16 fun a23 ha23 hz23 hd23 => ?_;have g23_4 : get a23 4 = v21 := kG ha23 hz16;refine hK18 a23 w21 ?_;refine wp_ret ?_;rw [huv];exact ⟨hd23, _, rIs hres g23_4, _, rfl, h22, o22, i22⟩
  have hn4 : uvLen n ≠ 4 := by simp at hc17; omega
  refine wS fun K24 hK24 => ?_;refine wC (wp_eql (k1 := .i64) (i := ((uvLen n : Nat) : Int)) (j := 3) (eK g16_6) rfl ?_);refine wC (wAs (v := .bool ((((uvLen n : Nat) : Int) : Int) == (3 : Int))) (eS hz16) ?_);refine wEk hz16 hd16 fun a25 ha25 hz25 hd25 => ?_;have g25_0 := kP ha25 g16_0;have g25_1 := kP ha25 g16_1;have g25_6 := kP ha25 g16_6;have g25_56 : get a25 56 = .bool ((((uvLen n : Nat) : Int) : Int) == (3 : Int)) := kG ha25 hz16;refine hK24 a25 w ?_;refine wp_cond_split (t := ((((uvLen n : Nat) : Int) : Int) == (3 : Int))) (eK g25_56) (fun hc26 => ?_) (fun hc26 => ?_)
  · have hk3 : uvLen n = 3 := by simp at hc26; omega
    have hb3 : 16384 ≤ n ∧ n < 2097152 := by unfold uvLen at hk3; (repeat' (split at hk3)) <;> omega
    have huv : uvW n = [UInt8.ofNat ((n) % 128 + 128), UInt8.ofNat ((n / 128) % 128 + 128), UInt8.ofNat (n / 16384)] := uvW_3 hb3.1 hb3.2;refine wS fun K27 hK27 => ?_;refine wC (wMv (v := dst) (eK g25_0) ?_);refine wC (wMv (v := .int .u32 ((n : Nat) : Int)) (eK g25_1) ?_);refine wC (wp_band (k1 := .u32) (i := ((n : Nat) : Int)) (j := 127) (eS hz25) rfl ?_);rw [band127u (n) (by omega)];refine wC (wp_bor (k1 := .u32) (i := (((n) % 128 : Nat) : Int)) (j := 128) (eS hz25) rfl ?_);rw [bor128u (n)];refine wC (wCv (k1 := .u32) (i := (((n) % 128 + 128 : Nat) : Int)) hT58_u32 hT5_u8 (eS hz25) ?_);rw [show (IntKind.u8.wrap ((((n) % 128 + 128 : Nat) : Int) : Int)) = (((UInt8.ofNat ((n) % 128 + 128)).toNat : Int) : Int) from by simp only [IntKind.wrap, IntKind.bits, IntKind.signed]; simp <;> omega];refine wC (wMv (v := .int .u32 ((n : Nat) : Int)) (eK g25_1) ?_);refine wC (wp_shr (k1 := .u32) (i := ((n : Nat) : Int)) (n := 7) (eS hz25) rfl (by decide) ?_);rw [show (((n : Nat) : Int) / (2 ^ 7 : Nat)) = ((n / 128 : Nat) : Int) from by simp];refine wC (wp_band (k1 := .u32) (i := ((n / 128 : Nat) : Int)) (j := 127) (eS hz25) rfl ?_);rw [band127u (n / 128) (by omega)];refine wC (wp_bor (k1 := .u32) (i := (((n / 128) % 128 : Nat) : Int)) (j := 128) (eS hz25) rfl ?_);rw [bor128u (n / 128)];refine wC (wCv (k1 := .u32) (i := (((n / 128) % 128 + 128 : Nat) : Int)) hT58_u32 hT5_u8 (eS hz25) ?_);rw [show (IntKind.u8.wrap ((((n / 128) % 128 + 128 : Nat) : Int) : Int)) = (((UInt8.ofNat ((n / 128) % 128 + 128)).toNat : Int) : Int) from by simp only [IntKind.wrap, IntKind.bits, IntKind.signed]; simp <;> omega];refine wC (wMv (v := .int .u32 ((n : Nat) : Int)) (eK g25_1) ?_);refine wC (wp_shr (k1 := .u32) (i := ((n : Nat) : Int)) (n := 14) (eS hz25) rfl (by decide) ?_);rw [show (((n : Nat) : Int) / (2 ^ 14 : Nat)) = ((n / 16384 : Nat) : Int) from by simp];refine wC (wCv (k1 := .u32) (i := ((n / 16384 : Nat) : Int)) hT58_u32 hT5_u8 (eS hz25) ?_);rw [show (IntKind.u8.wrap (((n / 16384 : Nat) : Int) : Int)) = (((UInt8.ofNat (n / 16384)).toNat : Int) : Int) from by simp only [IntKind.wrap, IntKind.bits, IntKind.signed]; simp <;> omega];refine wC (wp_litN (xs := [.tmp 62, .tmp 67, .tmp 70]) (cs := [UInt8.ofNat ((n) % 128 + 128), UInt8.ofNat ((n / 128) % 128 + 128), UInt8.ofNat (n / 16384)]) hs_T22 (lX3 (eS hz25) (eS hz25) (eS hz25)) rfl (by decide) (by decide) ?_);intro w28 u28 fr28 ou28;have h29 : Fr (spare dst 1) w w28 := (Fr.refl (spare dst 1) w).tr fr28.nil;have o29 : Own w28 (fun b => A b ∨ (w.heap.size ≤ b ∧ b < w28.heap.size)) 1 dst (xs).length (octets (xs)) := ho0.upTo fr28 (fun b hb => hb.imp id fun h => ⟨h.1, Nat.lt_of_lt_of_le h.2 fr28.size⟩);refine wC (wp_appA (xs := xs) (ys := [UInt8.ofNat ((n) % 128 + 128), UInt8.ofNat ((n / 128) % 128 + 128), UInt8.ofNat (n / 16384)]) hs_T22 hz_T22 (eS hz25) (eS hz25) o29 ou28 (by rw [List.length_append, huv] at hb; simpa using hb) ?_);intro v30 w30 ha30;obtain ⟨_, hv30, f30, ho30, hi30⟩ := ha30 _ rfl
    cases hv30
    have h31 : Fr (spare dst 1) w w30 := h29.trans f30 hi0;have o31 : Own w30 (fun b => A b ∨ (w.heap.size ≤ b ∧ b < w30.heap.size)) 1 v30 (xs ++ [UInt8.ofNat ((n) % 128 + 128), UInt8.ofNat ((n / 128) % 128 + 128), UInt8.ofNat (n / 16384)]).length (octets (xs ++ [UInt8.ofNat ((n) % 128 + 128), UInt8.ofNat ((n / 128) % 128 + 128), UInt8.ofNat (n / 16384)])) := ho30.imp_A (own_or h29.size f30.size);have i31 : ∀ r ∈ spare v30 1, r.In (spare dst 1) w := fun r hr => Rng.in_trans (hi30 r hr) hi0 h29.size;refine wC (wAs (v := v30) (eS hz25) ?_);refine wEk hz25 hd25 fun a32 ha32 hz32 hd32 => ?_;have g32_4 : get a32 4 = v30 := kG ha32 hz25;refine hK27 a32 w30 ?_;refine wp_ret ?_;rw [huv];exact ⟨hd32, _, rIs hres g32_4, _, rfl, h31, o31, i31⟩
  have hn3 : uvLen n ≠ 3 := by simp at hc26; omega
  refine wS fun K33 hK33 => ?_;refine wC (wp_eql (k1 := .i64) (i := ((uvLen n : Nat) : Int)) (j := 2) (eK g25_6) rfl ?_);refine wC (wAs (v := .bool ((((uvLen n : Nat) : Int) : Int) == (2 : Int))) (eS hz25) ?_);refine wEk hz25 hd25 fun a34 ha34 hz34 hd34 => ?_;have g34_0 := kP ha34 g25_0;have g34_1 := kP ha34 g25_1;have g34_6 := kP ha34 g25_6;have g34_73 : get a34 73 = .bool ((((uvLen n : Nat) : Int) : Int) == (2 : Int)) := kG ha34 hz25;refine hK33 a34 w ?_;refine wp_cond_split (t := ((((uvLen n : Nat) : Int) : Int) == (2 : Int))) (eK g34_73) (fun hc35 => ?_) (fun hc35 => ?_)
  · have hk2 : uvLen n = 2 := by simp at hc35; omega
    have hb2 : 128 ≤ n ∧ n < 16384 := by unfold uvLen at hk2; (repeat' (split at hk2)) <;> omega
    have huv : uvW n = [UInt8.ofNat ((n) % 128 + 128), UInt8.ofNat (n / 128)] := uvW_2 hb2.1 hb2.2;refine wS fun K36 hK36 => ?_;refine wC (wMv (v := dst) (eK g34_0) ?_);refine wC (wMv (v := .int .u32 ((n : Nat) : Int)) (eK g34_1) ?_);refine wC (wp_band (k1 := .u32) (i := ((n : Nat) : Int)) (j := 127) (eS hz34) rfl ?_);rw [band127u (n) (by omega)];refine wC (wp_bor (k1 := .u32) (i := (((n) % 128 : Nat) : Int)) (j := 128) (eS hz34) rfl ?_);rw [bor128u (n)];refine wC (wCv (k1 := .u32) (i := (((n) % 128 + 128 : Nat) : Int)) hT58_u32 hT5_u8 (eS hz34) ?_);rw [show (IntKind.u8.wrap ((((n) % 128 + 128 : Nat) : Int) : Int)) = (((UInt8.ofNat ((n) % 128 + 128)).toNat : Int) : Int) from by simp only [IntKind.wrap, IntKind.bits, IntKind.signed]; simp <;> omega];refine wC (wMv (v := .int .u32 ((n : Nat) : Int)) (eK g34_1) ?_);refine wC (wp_shr (k1 := .u32) (i := ((n : Nat) : Int)) (n := 7) (eS hz34) rfl (by decide) ?_);rw [show (((n : Nat) : Int) / (2 ^ 7 : Nat)) = ((n / 128 : Nat) : Int) from by simp];refine wC (wCv (k1 := .u32) (i := ((n / 128 : Nat) : Int)) hT58_u32 hT5_u8 (eS hz34) ?_);rw [show (IntKind.u8.wrap (((n / 128 : Nat) : Int) : Int)) = (((UInt8.ofNat (n / 128)).toNat : Int) : Int) from by simp only [IntKind.wrap, IntKind.bits, IntKind.signed]; simp <;> omega];refine wC (wp_litN (xs := [.tmp 79, .tmp 82]) (cs := [UInt8.ofNat ((n) % 128 + 128), UInt8.ofNat (n / 128)]) hs_T22 (lX2 (eS hz34) (eS hz34)) rfl (by decide) (by decide) ?_);intro w37 u37 fr37 ou37;have h38 : Fr (spare dst 1) w w37 := (Fr.refl (spare dst 1) w).tr fr37.nil;have o38 : Own w37 (fun b => A b ∨ (w.heap.size ≤ b ∧ b < w37.heap.size)) 1 dst (xs).length (octets (xs)) := ho0.upTo fr37 (fun b hb => hb.imp id fun h => ⟨h.1, Nat.lt_of_lt_of_le h.2 fr37.size⟩);refine wC (wp_appA (xs := xs) (ys := [UInt8.ofNat ((n) % 128 + 128), UInt8.ofNat (n / 128)]) hs_T22 hz_T22 (eS hz34) (eS hz34) o38 ou37 (by rw [List.length_append, huv] at hb; simpa using hb) ?_);intro v39 w39 ha39;obtain ⟨_, hv39, f39, ho39, hi39⟩ := ha39 _ rfl
    cases hv39
    have h40 : Fr (spare dst 1) w w39 := h38.trans f39 hi0;have o40 : Own w39 (fun b => A b ∨ (w.heap.size ≤ b ∧ b < w39.heap.size)) 1 v39 (xs ++ [UInt8.ofNat ((n) % 128 + 128), UInt8.ofNat (n / 128)]).length (octets (xs ++ [UInt8.ofNat ((n) % 128 + 128), UInt8.ofNat (n / 128)])) := ho39.imp_A (own_or h38.size f39.size);have i40 : ∀ r ∈ spare v39 1, r.In (spare dst 1) w := fun r hr => Rng.in_trans (hi39 r hr) hi0 h38.size;refine wC (wAs (v := v39) (eS hz34) ?_);refine wEk hz34 hd34 fun a41 ha41 hz41 hd41 => ?_;have g41_4 : get a41 4 = v39 := kG ha41 hz34;refine hK36 a41 w39 ?_;refine wp_ret ?_;rw [huv];exact ⟨hd41, _, rIs hres g41_4, _, rfl, h40, o40, i40⟩
  have hn2 : uvLen n ≠ 2 := by simp at hc35; omega
  refine wS fun K42 hK42 => ?_;refine wC (wp_eql (k1 := .i64) (i := ((uvLen n : Nat) : Int)) (j := 1) (eK g34_6) rfl ?_);refine wC (wAs (v := .bool ((((uvLen n : Nat) : Int) : Int) == (1 : Int))) (eS hz34) ?_);refine wEk hz34 hd34 fun a43 ha43 hz43 hd43 => ?_;have g43_0 := kP ha43 g34_0;have g43_1 := kP ha43 g34_1;have g43_85 : get a43 85 = .bool ((((uvLen n : Nat) : Int) : Int) == (1 : Int)) := kG ha43 hz34;refine hK42 a43 w ?_;refine wp_cond_split (t := ((((uvLen n : Nat) : Int) : Int) == (1 : Int))) (eK g43_85) (fun hc44 => ?_) (fun hc44 => ?_)
  · have hk1 : uvLen n = 1 := by simp at hc44; omega
    have hb1 : 0 ≤ n ∧ n < 128 := by unfold uvLen at hk1; (repeat' (split at hk1)) <;> omega
    have huv : uvW n = [UInt8.ofNat (n)] := uvW_1 hb1.1 hb1.2;refine wS fun K45 hK45 => ?_;refine wC (wMv (v := dst) (eK g43_0) ?_);refine wC (wMv (v := .int .u32 ((n : Nat) : Int)) (eK g43_1) ?_);refine wC (wCv (k1 := .u32) (i := ((n : Nat) : Int)) hT58_u32 hT5_u8 (eS hz43) ?_);rw [show (IntKind.u8.wrap (((n : Nat) : Int) : Int)) = (((UInt8.ofNat (n)).toNat : Int) : Int) from by simp only [IntKind.wrap, IntKind.bits, IntKind.signed]; simp <;> omega];refine wC (wp_litN (xs := [.tmp 89]) (cs := [UInt8.ofNat (n)]) hs_T22 (lX1 (eS hz43)) rfl (by decide) (by decide) ?_);intro w46 u46 fr46 ou46;have h47 : Fr (spare dst 1) w w46 := (Fr.refl (spare dst 1) w).tr fr46.nil;have o47 : Own w46 (fun b => A b ∨ (w.heap.size ≤ b ∧ b < w46.heap.size)) 1 dst (xs).length (octets (xs)) := ho0.upTo fr46 (fun b hb => hb.imp id fun h => ⟨h.1, Nat.lt_of_lt_of_le h.2 fr46.size⟩);refine wC (wp_appA (xs := xs) (ys := [UInt8.ofNat (n)]) hs_T22 hz_T22 (eS hz43) (eS hz43) o47 ou46 (by rw [List.length_append, huv] at hb; simpa using hb) ?_);intro v48 w48 ha48;obtain ⟨_, hv48, f48, ho48, hi48⟩ := ha48 _ rfl
    cases hv48
    have h49 : Fr (spare dst 1) w w48 := h47.trans f48 hi0;have o49 : Own w48 (fun b => A b ∨ (w.heap.size ≤ b ∧ b < w48.heap.size)) 1 v48 (xs ++ [UInt8.ofNat (n)]).length (octets (xs ++ [UInt8.ofNat (n)])) := ho48.imp_A (own_or h47.size f48.size);have i49 : ∀ r ∈ spare v48 1, r.In (spare dst 1) w := fun r hr => Rng.in_trans (hi48 r hr) hi0 h47.size;refine wC (wAs (v := v48) (eS hz43) ?_);refine wEk hz43 hd43 fun a50 ha50 hz50 hd50 => ?_;have g50_4 : get a50 4 = v48 := kG ha50 hz43;refine hK45 a50 w48 ?_;refine wp_ret ?_;rw [huv];exact ⟨hd50, _, rIs hres g50_4, _, rfl, h49, o49, i49⟩
  have hn1 : uvLen n ≠ 1 := by simp at hc44; omega
  refine wp_skip ?_;refine hK3 a43 w (tUp ?_);refine wT fun K51 hK51 => ?_;refine wC (wMv (v := dst) (eK g43_0) ?_);refine wC (wAs (v := dst) (eS hz43) ?_);refine wEn fun a52 ha52 => ?_;have hz52 := kS ha52 hz43;refine hK51 a52 w (tUp ?_);refine wp_ret ?_;exact absurd (uvLen_cases n) (by omega)
theorem ap_str {P : Program} {f : FuncId} {fn : Func} {T3 T9 T22 T40 : TypeId} {f39 : FuncId} {a0 : Array TypeId} {i0 i1 i2 : Nat} {t0 t1 t2 t3 t4 t5 t6 t7 t8 t9 t10 : TypeId} {p0 p1 p2 p3 p4 p5 p6 p7 p8 p9 p10 : String} {e0 e1 e2 e3 e4 e5 e6 e7 e8 e9 e10 : Array Edge} {te : TypeId}
    (hf : P.funcs[f]? = some fn) (hname : (fn.name == "runtime.NumGoroutine") = false) (hres : fn.results = #[.tmp 4]) (hN : fn.ntmps = 13)
    (hbody : fn.body = some (.seq (Code.region i0 ⟨[oA 4 (.const (.slice none 0 0)) t0 p0 e0]⟩ false) (.seq (Code.region i1 ⟨[oM 5 0 t1 p1 e1,
    oM 6 1 t2 p2 e2, ⟨some 7, .call ⟨.builtin .len, #[(.tmp 6)], #[T9]⟩, t3, p3, e3, none⟩, ⟨some 8, .convert T3 T40 (.tmp 7), t4, p4, e4, none⟩,
    oC 9 f39 #[(.tmp 5), (.tmp 8)] a0 t5 p5 e5,
    oT 0 9 t6 p6 e6]⟩ false) (.seq (Code.region i2 ⟨[oM 10 0 t7 p7 e7,
    oM 11 1 t8 p8 e8, ⟨some 12, .call ⟨.builtin .append, #[(.tmp 10), (.tmp 11)], #[T22, T9]⟩, t9, p9, e9, none⟩,
    oT 4 12 t10 p10 e10]⟩ false) .ret))))
    (hST9 : strTy P T9 = true) (hT3_i64 : intOf P T3 .i64 = true) (hT40_i16 : intOf P T40 .i16 = true) (hs_T22 : sliceOf P T22 te 1 1 = true) (hz_T22 : zeroIs P te [.int .u8 0]) (hC : ApI P f39 .i16 2) : ApV P f .str apStr := by
  refine ⟨enters_of hf hname hbody, ?_⟩;intro w A B dst xs c x own hr hAB hB hb;obtain ⟨s, hc, rfl, hsl⟩ := hr
  cases hc
  rw [List.length_append, show (apStr (.s s.data.toList)).length = (fxW (s.data.toList.length : Int) 2).length + s.data.toList.length from by simp [apStr, V.octs]] at hb;refine calls_of_wp hf hbody ?_;generalize ha0 : ({ tmps := #[dst, Value.string s] ++ Array.replicate (fn.ntmps - (#[dst, Value.string s] : Array Value).size) undef, defers := [] } : Act) = a0;have hz0 : a0.tmps.size = 13 := by subst ha0; simp [hN]
  have hd0 : a0.defers = [] := by subst ha0; rfl
  have g0_0 : get a0 0 = dst := by subst ha0; exact gAr rfl
  have g0_1 : get a0 1 = .string s := by subst ha0; exact gAr rfl
  have hi0 : ∀ r ∈ spare dst 1, r.In (spare dst 1) w := fun r h => Rng.in_self h;have ho0 : Own w (fun b => A b ∨ (w.heap.size ≤ b ∧ b < w.heap.size)) 1 dst xs.length (octets xs) := own.imp_A fun _ h => .inl h;refine wT fun K1 hK1 => ?_;refine wC (wAs (v := .slice none 0 0) rfl ?_);refine wEk hz0 hd0 fun a2 ha2 hz2 hd2 => ?_;have g2_0 := kP ha2 g0_0;have g2_1 := kP ha2 g0_1;refine hK1 a2 w (tUp ?_);refine wT fun K3 hK3 => ?_;refine wC (wMv (v := dst) (eK g2_0) ?_);refine wC (wMv (v := .string s) (eK g2_1) ?_);refine wC (wp_lenStr (s := s) hST9 (eS hz2) ?_);refine wC (wCv (k1 := .i64) (i := ((s.data.toList.length : Nat) : Int)) hT3_i64 hT40_i16 (eS hz2) ?_);refine wC (wCr (R := fun vz wz => Fr (spare dst 1) w wz ∧ Own wz (fun b => (fun b => A b ∨ (w.heap.size ≤ b ∧ b < w.heap.size)) b ∨ (w.heap.size ≤ b ∧ b < wz.heap.size)) 1 vz (xs ++ (fxW (IntKind.i16.wrap (s.data.toList.length : Int)) 2)).length (octets (xs ++ (fxW (IntKind.i16.wrap (s.data.toList.length : Int)) 2))) ∧ ∀ r ∈ spare vz 1, r.In (spare dst 1) w) (vs := #[dst, .int .i16 (IntKind.i16.wrap (((s.data.toList.length : Nat) : Int) : Int))]) hC.enters (mX2 (eS hz2) (eS hz2)) (Apd.ret (hC.call w (fun b => A b ∨ (w.heap.size ≤ b ∧ b < w.heap.size)) _ _ _ ho0 (w16 _).1 (w16 _).2 (by have := fxL s.data.toList.length 2; rw [fxL] at hb; omega))) ?_);rintro v4 w4 ⟨f4, ho4, hi4⟩;have h5 : Fr (spare dst 1) w w4 := (Fr.refl (spare dst 1) w).trans f4 hi0;have o5 : Own w4 (fun b => A b ∨ (w.heap.size ≤ b ∧ b < w4.heap.size)) 1 v4 (xs ++ (fxW (IntKind.i16.wrap (s.data.toList.length : Int)) 2)).length (octets (xs ++ (fxW (IntKind.i16.wrap (s.data.toList.length : Int)) 2))) := ho4.imp_A (own_or (Fr.refl (spare dst 1) w).size f4.size);have i5 : ∀ r ∈ spare v4 1, r.In (spare dst 1) w := fun r hr => Rng.in_trans (hi4 r hr) hi0 (Fr.refl (spare dst 1) w).size;refine wC (wAs (v := v4) (eS hz2) ?_);refine wEk hz2 hd2 fun a6 ha6 hz6 hd6 => ?_;have g6_0 : get a6 0 = v4 := kG ha6 hz2;have g6_1 := kP ha6 g2_1;refine hK3 a6 w4 (tUp ?_);refine wT fun K7 hK7 => ?_;refine wC (wMv (v := v4) (eK g6_0) ?_);refine wC (wMv (v := .string s) (eK g6_1) ?_);refine wC (wp_appStr (xs := (xs ++ (fxW (IntKind.i16.wrap (s.data.toList.length : Int)) 2))) (s := s) hs_T22 hST9 hz_T22 (eS hz6) (eS hz6) o5 (by simp only [List.length_append, fxL] at hb ⊢; omega) ?_);intro v8 w8 ha8;obtain ⟨_, hv8, f8, ho8, hi8⟩ := ha8 _ rfl
  cases hv8
  have h9 : Fr (spare dst 1) w w8 := h5.trans f8 i5;have o9 : Own w8 (fun b => A b ∨ (w.heap.size ≤ b ∧ b < w8.heap.size)) 1 v8 (xs ++ (fxW (IntKind.i16.wrap (s.data.toList.length : Int)) 2) ++ s.data.toList).length (octets (xs ++ (fxW (IntKind.i16.wrap (s.data.toList.length : Int)) 2) ++ s.data.toList)) := ho8.imp_A (own_or h5.size f8.size);have i9 : ∀ r ∈ spare v8 1, r.In (spare dst 1) w := fun r hr => Rng.in_trans (hi8 r hr) i5 h5.size;refine wC (wAs (v := v8) (eS hz6) ?_);refine wEk hz6 hd6 fun a10 ha10 hz10 hd10 => ?_;have g10_4 : get a10 4 = v8 := kG ha10 hz6;refine hK7 a10 w8 (tUp ?_);refine wp_ret ?_;have := o9;have hfin : xs ++ (fxW (IntKind.i16.wrap (s.data.toList.length : Int)) 2) ++ s.data.toList = xs ++ apStr (.s s.data.toList) := by simp [apStr, V.octs, fixedW_w16]
  rw [hfin] at this;exact ⟨hd10, _, rIs hres g10_4, _, rfl, h9, this, i9⟩
theorem ap_cstr {P : Program} {f : FuncId} {fn : Func} {T3 T9 T22 T55 : TypeId} {f45 : FuncId} {a0 : Array TypeId} {i0 i1 i2 : Nat} {t0 t1 t2 t3 t4 t5 t6 t7 t8 t9 t10 t11 : TypeId} {p0 p1 p2 p3 p4 p5 p6 p7 p8 p9 p10 p11 : String} {e0 e1 e2 e3 e4 e5 e6 e7 e8 e9 e10 e11 : Array Edge} {te : TypeId}
    (hf : P.funcs[f]? = some fn) (hname : (fn.name == "runtime.NumGoroutine") = false) (hres : fn.results = #[.tmp 4]) (hN : fn.ntmps = 14)
    (hbody : fn.body = some (.seq (Code.region i0 ⟨[oA 4 (.const (.slice none 0 0)) t0 p0 e0]⟩ false) (.seq (Code.region i1 ⟨[oM 5 0 t1 p1 e1,
    oM 6 1 t2 p2 e2, ⟨some 7, .call ⟨.builtin .len, #[(.tmp 6)], #[T9]⟩, t3, p3, e3, none⟩, ⟨some 8, .convert T3 T55 (.tmp 7), t4, p4, e4, none⟩, ⟨some 9, .binOp .add T55 (.const (.int .u32 1)) (.tmp 8) T55, t5, p5, e5, none⟩,
    oC 10 f45 #[(.tmp 5), (.tmp 9)] a0 t6 p6 e6,
    oT 0 10 t7 p7 e7]⟩ false) (.seq (Code.region i2 ⟨[oM 11 0 t8 p8 e8,
    oM 12 1 t9 p9 e9, ⟨some 13, .call ⟨.builtin .append, #[(.tmp 11), (.tmp 12)], #[T22, T9]⟩, t10, p10, e10, none⟩,
    oT 4 13 t11 p11 e11]⟩ false) .ret))))
    (hST9 : strTy P T9 = true) (hT3_i64 : intOf P T3 .i64 = true) (hT55_u32 : intOf P T55 .u32 = true) (hs_T22 : sliceOf P T22 te 1 1 = true) (hz_T22 : zeroIs P te [.int .u8 0]) (hC : ApU P f45) : ApV P f .str apCStr := by
  refine ⟨enters_of hf hname hbody, ?_⟩;intro w A B dst xs c x own hr hAB hB hb;obtain ⟨s, hc, rfl, hsl⟩ := hr
  cases hc
  rw [List.length_append, show (apCStr (.s s.data.toList)).length = (uvW (s.data.toList.length + 1)).length + s.data.toList.length from by simp [apCStr, V.octs]] at hb;refine calls_of_wp hf hbody ?_;generalize ha0 : ({ tmps := #[dst, Value.string s] ++ Array.replicate (fn.ntmps - (#[dst, Value.string s] : Array Value).size) undef, defers := [] } : Act) = a0;have hz0 : a0.tmps.size = 14 := by subst ha0; simp [hN]
  have hd0 : a0.defers = [] := by subst ha0; rfl
  have g0_0 : get a0 0 = dst := by subst ha0; exact gAr rfl
  have g0_1 : get a0 1 = .string s := by subst ha0; exact gAr rfl
  have hi0 : ∀ r ∈ spare dst 1, r.In (spare dst 1) w := fun r h => Rng.in_self h;have ho0 : Own w (fun b => A b ∨ (w.heap.size ≤ b ∧ b < w.heap.size)) 1 dst xs.length (octets xs) := own.imp_A fun _ h => .inl h;refine wT fun K1 hK1 => ?_;refine wC (wAs (v := .slice none 0 0) rfl ?_);refine wEk hz0 hd0 fun a2 ha2 hz2 hd2 => ?_;have g2_0 := kP ha2 g0_0;have g2_1 := kP ha2 g0_1;refine hK1 a2 w (tUp ?_);refine wT fun K3 hK3 => ?_;refine wC (wMv (v := dst) (eK g2_0) ?_);refine wC (wMv (v := .string s) (eK g2_1) ?_);refine wC (wp_lenStr (s := s) hST9 (eS hz2) ?_);refine wC (wCv (k1 := .i64) (i := ((s.data.toList.length : Nat) : Int)) hT3_i64 hT55_u32 (eS hz2) ?_);rw [show (IntKind.u32.wrap (((s.data.toList.length : Nat) : Int) : Int)) = (((s.data.toList.length : Nat) : Int) : Int) from by have hq : s.data.toList.length < 4294967296 := (by omega); generalize s.data.toList.length = m at hq ⊢; simp only [IntKind.wrap, IntKind.bits, IntKind.signed]; simp; omega];refine wC (wp_add (k1 := .u32) (i := 1) (j := ((s.data.toList.length : Nat) : Int)) rfl (eS hz2) ?_);rw [show (IntKind.u32.wrap ((1 : Int) + (((s.data.toList.length : Nat) : Int) : Int)) : Int) = (((s.data.toList.length + 1 : Nat) : Int) : Int) from by have := uvW_pos (s.data.toList.length + 1); have hq : s.data.toList.length < 4294967295 := (by omega); generalize s.data.toList.length = m at hq ⊢; simp only [IntKind.wrap, IntKind.bits, IntKind.signed]; simp; omega];refine wC (wCr (R := fun vz wz => Fr (spare dst 1) w wz ∧ Own wz (fun b => (fun b => A b ∨ (w.heap.size ≤ b ∧ b < w.heap.size)) b ∨ (w.heap.size ≤ b ∧ b < wz.heap.size)) 1 vz (xs ++ (uvW (s.data.toList.length + 1))).length (octets (xs ++ (uvW (s.data.toList.length + 1)))) ∧ ∀ r ∈ spare vz 1, r.In (spare dst 1) w) (vs := #[dst, .int .u32 ((s.data.toList.length + 1 : Nat) : Int)]) hC.enters (mX2 (eS hz2) (eS hz2)) (Apd.ret (hC.call w (fun b => A b ∨ (w.heap.size ≤ b ∧ b < w.heap.size)) _ _ (s.data.toList.length + 1) ho0 (by have := uvW_pos (s.data.toList.length + 1); omega) (by rw [List.length_append]; omega))) ?_);rintro v4 w4 ⟨f4, ho4, hi4⟩;have h5 : Fr (spare dst 1) w w4 := (Fr.refl (spare dst 1) w).trans f4 hi0;have o5 : Own w4 (fun b => A b ∨ (w.heap.size ≤ b ∧ b < w4.heap.size)) 1 v4 (xs ++ (uvW (s.data.toList.length + 1))).length (octets (xs ++ (uvW (s.data.toList.length + 1)))) := ho4.imp_A (own_or (Fr.refl (spare dst 1) w).size f4.size);have i5 : ∀ r ∈ spare v4 1, r.In (spare dst 1) w := fun r hr => Rng.in_trans (hi4 r hr) hi0 (Fr.refl (spare dst 1) w).size;refine wC (wAs (v := v4) (eS hz2) ?_);refine wEk hz2 hd2 fun a6 ha6 hz6 hd6 => ?_;have g6_0 : get a6 0 = v4 := kG ha6 hz2;have g6_1 := kP ha6 g2_1;refine hK3 a6 w4 (tUp ?_);refine wT fun K7 hK7 => ?_;refine wC (wMv (v := v4) (eK g6_0) ?_);refine wC (wMv (v := .string s) (eK g6_1) ?_);refine wC (wp_appStr (xs := (xs ++ (uvW (s.data.toList.length + 1)))) (s := s) hs_T22 hST9 hz_T22 (eS hz6) (eS hz6) o5 (by simp only [List.length_append, fxL] at hb ⊢; omega) ?_);intro v8 w8 ha8;obtain ⟨_, hv8, f8, ho8, hi8⟩ := ha8 _ rfl
  cases hv8
  have h9 : Fr (spare dst 1) w w8 := h5.trans f8 i5;have o9 : Own w8 (fun b => A b ∨ (w.heap.size ≤ b ∧ b < w8.heap.size)) 1 v8 (xs ++ (uvW (s.data.toList.length + 1)) ++ s.data.toList).length (octets (xs ++ (uvW (s.data.toList.length + 1)) ++ s.data.toList)) := ho8.imp_A (own_or h5.size f8.size);have i9 : ∀ r ∈ spare v8 1, r.In (spare dst 1) w := fun r hr => Rng.in_trans (hi8 r hr) i5 h5.size;refine wC (wAs (v := v8) (eS hz6) ?_);refine wEk hz6 hd6 fun a10 ha10 hz10 hd10 => ?_;have g10_4 : get a10 4 = v8 := kG ha10 hz6;refine hK7 a10 w8 (tUp ?_);refine wp_ret ?_;have := o9;have hfin : xs ++ (uvW (s.data.toList.length + 1)) ++ s.data.toList = xs ++ apCStr (.s s.data.toList) := by simp [apCStr, V.octs, Nat.add_comm]
  rw [hfin] at this;exact ⟨hd10, _, rIs hres g10_4, _, rfl, h9, this, i9⟩
theorem ap_nstr {P : Program} {f : FuncId} {fn : Func} {T9 T82 : TypeId} {f39 f43 : FuncId} {a0 : Array TypeId} {a1 : Array TypeId} {i0 i1 i2 i3 : Nat} {t0 t1 t2 t3 t4 t5 t6 t7 t8 t9 t10 t11 : TypeId} {p0 p1 p2 p3 p4 p5 p6 p7 p8 p9 p10 p11 : String} {e0 e1 e2 e3 e4 e5 e6 e7 e8 e9 e10 e11 : Array Edge} {te : TypeId}
    (hf : P.funcs[f]? = some fn) (hname : (fn.name == "runtime.NumGoroutine") = false) (hres : fn.results = #[.tmp 4]) (hN : fn.ntmps = 14)
    (hbody : fn.body = some (.seq (Code.region i0 ⟨[oA 4 (.const (.slice none 0 0)) t0 p0 e0]⟩ false) (.seq (.seq (Code.region i1 ⟨[oM 5 1 t1 p1 e1, ⟨some 6, .binOp .eql T82 (.tmp 5) (.const (.pointer none)) T82, t2, p2, e2, none⟩]⟩ false) (.cond (.tmp 6) (.seq (Code.region i2 ⟨[oM 7 0 t3 p3 e3,
    oC 8 f39 #[(.tmp 7), (.const (.int .i16 (-1)))] a0 t4 p4 e4,
    oT 4 8 t5 p5 e5]⟩ false) .ret) .skip)) (.seq (Code.region i3 ⟨[oM 9 0 t6 p6 e6,
    oM 10 1 t7 p7 e7, ⟨some 11, .nilCheck (.tmp 10), t8, p8, e8, none⟩,
    oL 12 T9 11 t9 p9 e9,
    oC 13 f43 #[(.tmp 9), (.tmp 12)] a1 t10 p10 e10,
    oT 4 13 t11 p11 e11]⟩ false) .ret))))
    (hpT82 : ptrTy P T82 = true) (hcT9 : scal P T9 = true) (hNul : ApI P f39 .i16 2) (hC : ApV P f43 .str apStr) : ApV P f .pstr apNStr := by
  refine ⟨enters_of hf hname hbody, ?_⟩;intro w A B dst xs c x own hr hAB hB hb
  rcases hr with ⟨hc, rfl⟩ | ⟨b, o, s, hbb, hc, hcell, rfl, hsl⟩ <;> cases hc
  · refine calls_of_wp hf hbody ?_;generalize ha0 : ({ tmps := #[dst, Value.pointer none] ++ Array.replicate (fn.ntmps - (#[dst, Value.pointer none] : Array Value).size) undef, defers := [] } : Act) = a0;have hz0 : a0.tmps.size = 14 := by subst ha0; simp [hN]
    have hd0 : a0.defers = [] := by subst ha0; rfl
    have g0_0 : get a0 0 = dst := by subst ha0; exact gAr rfl
    have g0_1 : get a0 1 = .pointer none := by subst ha0; exact gAr rfl
    have hi0 : ∀ r ∈ spare dst 1, r.In (spare dst 1) w := fun r h => Rng.in_self h;have ho0 : Own w (fun b => A b ∨ (w.heap.size ≤ b ∧ b < w.heap.size)) 1 dst xs.length (octets xs) := own.imp_A fun _ h => .inl h;refine wT fun K1 hK1 => ?_;refine wC (wAs (v := .slice none 0 0) rfl ?_);refine wEk hz0 hd0 fun a2 ha2 hz2 hd2 => ?_;have g2_0 := kP ha2 g0_0;have g2_1 := kP ha2 g0_1;refine hK1 a2 w (tUp ?_);refine tId (wp_seq_k fun K3 hK3 => ?_);refine wS fun K4 hK4 => ?_;refine wC (wMv (v := .pointer none) (eK g2_1) ?_);refine wC (wp_eqlPtrNil (q := none) hpT82 (eS hz2) ?_);rw [show (none : Option Addr).isNone = true from rfl];refine wEk hz2 hd2 fun a5 ha5 hz5 hd5 => ?_;have g5_0 := kP ha5 g2_0;have g5_1 := kP ha5 g2_1;have g5_6 : get a5 6 = .bool true := kG ha5 hz2;refine hK4 a5 w ?_;refine wp_cond_split (t := true) (eK g5_6) (fun _ => ?_) (fun h => by cases h);refine wS fun K7 hK7 => ?_;refine wC (wMv (v := dst) (eK g5_0) ?_);refine wC (wCr (R := fun vz wz => Fr (spare dst 1) w wz ∧ Own wz (fun b => (fun b => A b ∨ (w.heap.size ≤ b ∧ b < w.heap.size)) b ∨ (w.heap.size ≤ b ∧ b < wz.heap.size)) 1 vz (xs ++ (fxW (-1) 2)).length (octets (xs ++ (fxW (-1) 2))) ∧ ∀ r ∈ spare vz 1, r.In (spare dst 1) w) (vs := #[dst, .int .i16 (-1)]) hNul.enters (by simp only [List.map_toArray, List.map_cons, List.map_nil]; rw [eTm, sZ hz5 (by decide), show (a5.put (some 7) dst).eval (.const (.int .i16 (-1))) = Value.int .i16 (-1) from rfl]) (Apd.ret (hNul.call w (fun b => A b ∨ (w.heap.size ≤ b ∧ b < w.heap.size)) _ _ (-1) ho0 (by decide) (by decide) (by rw [List.length_append] at hb; have : (apNStr .nil).length = 2 := rfl; omega))) ?_);rintro v8 w8 ⟨f8, ho8, hi8⟩;have h9 : Fr (spare dst 1) w w8 := (Fr.refl (spare dst 1) w).trans f8 hi0;have o9 : Own w8 (fun b => A b ∨ (w.heap.size ≤ b ∧ b < w8.heap.size)) 1 v8 (xs ++ (fxW (-1) 2)).length (octets (xs ++ (fxW (-1) 2))) := ho8.imp_A (own_or (Fr.refl (spare dst 1) w).size f8.size);have i9 : ∀ r ∈ spare v8 1, r.In (spare dst 1) w := fun r hr => Rng.in_trans (hi8 r hr) hi0 (Fr.refl (spare dst 1) w).size;refine wC (wAs (v := v8) (eS hz5) ?_);refine wEk hz5 hd5 fun a10 ha10 hz10 hd10 => ?_;have g10_4 : get a10 4 = v8 := kG ha10 hz5;refine hK7 a10 w8 ?_;refine wp_ret ?_;have := o9;have hfin : xs ++ (fxW (-1) 2) = xs ++ apNStr .nil := rfl;rw [hfin] at this;exact ⟨hd10, _, rIs hres g10_4, _, rfl, h9, this, i9⟩
  refine calls_of_wp hf hbody ?_;generalize ha0 : ({ tmps := #[dst, Value.pointer (some ⟨b, o, none⟩)] ++ Array.replicate (fn.ntmps - (#[dst, Value.pointer (some ⟨b, o, none⟩)] : Array Value).size) undef, defers := [] } : Act) = a0;have hz0 : a0.tmps.size = 14 := by subst ha0; simp [hN]
  have hd0 : a0.defers = [] := by subst ha0; rfl
  have g0_0 : get a0 0 = dst := by subst ha0; exact gAr rfl
  have g0_1 : get a0 1 = .pointer (some ⟨b, o, none⟩) := by subst ha0; exact gAr rfl
  have hi0 : ∀ r ∈ spare dst 1, r.In (spare dst 1) w := fun r h => Rng.in_self h;have ho0 : Own w (fun b => A b ∨ (w.heap.size ≤ b ∧ b < w.heap.size)) 1 dst xs.length (octets xs) := own.imp_A fun _ h => .inl h;refine wT fun K1 hK1 => ?_;refine wC (wAs (v := .slice none 0 0) rfl ?_);refine wEk hz0 hd0 fun a2 ha2 hz2 hd2 => ?_;have g2_0 := kP ha2 g0_0;have g2_1 := kP ha2 g0_1;refine hK1 a2 w (tUp ?_);refine tId (wp_seq_k fun K3 hK3 => ?_);refine wS fun K4 hK4 => ?_;refine wC (wMv (v := .pointer (some ⟨b, o, none⟩)) (eK g2_1) ?_);refine wC (wp_eqlPtrNil (q := some ⟨b, o, none⟩) hpT82 (eS hz2) ?_);rw [show (some (⟨b, o, none⟩ : Addr)).isNone = false from rfl];refine wEk hz2 hd2 fun a5 ha5 hz5 hd5 => ?_;have g5_0 := kP ha5 g2_0;have g5_1 := kP ha5 g2_1;have g5_6 : get a5 6 = .bool false := kG ha5 hz2;refine hK4 a5 w ?_;refine wp_cond_split (t := false) (eK g5_6) (fun h => by cases h) (fun _ => ?_);refine wp_skip ?_;refine hK3 a5 w (tUp ?_);refine wT fun K7 hK7 => ?_;refine wC (wMv (v := dst) (eK g5_0) ?_);refine wC (wMv (v := .pointer (some ⟨b, o, none⟩)) (eK g5_1) ?_);refine wC (wNc (q := ⟨b, o, none⟩) (eS hz5) ?_);refine wC (wp_load (b := b) (o := o) (v := .string s) hcT9 (eS hz5) hcell ?_);refine wC (wCr (R := fun vz wz => Fr (spare dst 1) w wz ∧ Own wz (fun b => (fun b => A b ∨ (w.heap.size ≤ b ∧ b < w.heap.size)) b ∨ (w.heap.size ≤ b ∧ b < wz.heap.size)) 1 vz (xs ++ (apStr (.s s.data.toList))).length (octets (xs ++ (apStr (.s s.data.toList)))) ∧ ∀ r ∈ spare vz 1, r.In (spare dst 1) w) (vs := #[dst, .string s]) hC.enters (mX2 (eS hz5) (eS hz5)) (Apd.ret (hC.call w (fun b => A b ∨ (w.heap.size ≤ b ∧ b < w.heap.size)) B _ _ _ (.s s.data.toList) ho0 ⟨s, rfl, rfl, hsl⟩ (fun b hb h => by rcases hb with hb | hb; exact hAB b hb h; have := hB b h; omega) hB hb)) ?_);rintro v8 w8 ⟨f8, ho8, hi8⟩;have h9 : Fr (spare dst 1) w w8 := (Fr.refl (spare dst 1) w).trans f8 hi0;have o9 : Own w8 (fun b => A b ∨ (w.heap.size ≤ b ∧ b < w8.heap.size)) 1 v8 (xs ++ (apStr (.s s.data.toList))).length (octets (xs ++ (apStr (.s s.data.toList)))) := ho8.imp_A (own_or (Fr.refl (spare dst 1) w).size f8.size);have i9 : ∀ r ∈ spare v8 1, r.In (spare dst 1) w := fun r hr => Rng.in_trans (hi8 r hr) hi0 (Fr.refl (spare dst 1) w).size;refine wC (wAs (v := v8) (eS hz5) ?_);refine wEk hz5 hd5 fun a10 ha10 hz10 hd10 => ?_;have g10_4 : get a10 4 = v8 := kG ha10 hz5;refine hK7 a10 w8 (tUp ?_);refine wp_ret ?_;have := o9;have hfin : xs ++ (apStr (.s s.data.toList)) = xs ++ apNStr (.s s.data.toList) := rfl;rw [hfin] at this;exact ⟨hd10, _, rIs hres g10_4, _, rfl, h9, this, i9⟩
theorem ap_cnstr {P : Program} {f : FuncId} {fn : Func} {T9 T82 : TypeId} {f42 f45 : FuncId} {a0 : Array TypeId} {a1 : Array TypeId} {i0 i1 i2 i3 : Nat} {t0 t1 t2 t3 t4 t5 t6 t7 t8 t9 t10 t11 : TypeId} {p0 p1 p2 p3 p4 p5 p6 p7 p8 p9 p10 p11 : String} {e0 e1 e2 e3 e4 e5 e6 e7 e8 e9 e10 e11 : Array Edge} {te : TypeId}
    (hf : P.funcs[f]? = some fn) (hname : (fn.name == "runtime.NumGoroutine") = false) (hres : fn.results = #[.tmp 4]) (hN : fn.ntmps = 14)
    (hbody : fn.body = some (.seq (Code.region i0 ⟨[oA 4 (.const (.slice none 0 0)) t0 p0 e0]⟩ false) (.seq (.seq (Code.region i1 ⟨[oM 5 1 t1 p1 e1, ⟨some 6, .binOp .eql T82 (.tmp 5) (.const (.pointer none)) T82, t2, p2, e2, none⟩]⟩ false) (.cond (.tmp 6) (.seq (Code.region i2 ⟨[oM 7 0 t3 p3 e3,
    oC 8 f45 #[(.tmp 7), (.const (.int .u32 0))] a0 t4 p4 e4,
    oT 4 8 t5 p5 e5]⟩ false) .ret) .skip)) (.seq (Code.region i3 ⟨[oM 9 0 t6 p6 e6,
    oM 10 1 t7 p7 e7, ⟨some 11, .nilCheck (.tmp 10), t8, p8, e8, none⟩,
    oL 12 T9 11 t9 p9 e9,
    oC 13 f42 #[(.tmp 9), (.tmp 12)] a1 t10 p10 e10,
    oT 4 13 t11 p11 e11]⟩ false) .ret))))
    (hpT82 : ptrTy P T82 = true) (hcT9 : scal P T9 = true) (hNul : ApU P f45) (hC : ApV P f42 .str apCStr) : ApV P f .pstr apCNStr := by
  refine ⟨enters_of hf hname hbody, ?_⟩;intro w A B dst xs c x own hr hAB hB hb
  rcases hr with ⟨hc, rfl⟩ | ⟨b, o, s, hbb, hc, hcell, rfl, hsl⟩ <;> cases hc
  · refine calls_of_wp hf hbody ?_;generalize ha0 : ({ tmps := #[dst, Value.pointer none] ++ Array.replicate (fn.ntmps - (#[dst, Value.pointer none] : Array Value).size) undef, defers := [] } : Act) = a0;have hz0 : a0.tmps.size = 14 := by subst ha0; simp [hN]
    have hd0 : a0.defers = [] := by subst ha0; rfl
    have g0_0 : get a0 0 = dst := by subst ha0; exact gAr rfl
    have g0_1 : get a0 1 = .pointer none := by subst ha0; exact gAr rfl
    have hi0 : ∀ r ∈ spare dst 1, r.In (spare dst 1) w := fun r h => Rng.in_self h;have ho0 : Own w (fun b => A b ∨ (w.heap.size ≤ b ∧ b < w.heap.size)) 1 dst xs.length (octets xs) := own.imp_A fun _ h => .inl h;refine wT fun K1 hK1 => ?_;refine wC (wAs (v := .slice none 0 0) rfl ?_);refine wEk hz0 hd0 fun a2 ha2 hz2 hd2 => ?_;have g2_0 := kP ha2 g0_0;have g2_1 := kP ha2 g0_1;refine hK1 a2 w (tUp ?_);refine tId (wp_seq_k fun K3 hK3 => ?_);refine wS fun K4 hK4 => ?_;refine wC (wMv (v := .pointer none) (eK g2_1) ?_);refine wC (wp_eqlPtrNil (q := none) hpT82 (eS hz2) ?_);rw [show (none : Option Addr).isNone = true from rfl];refine wEk hz2 hd2 fun a5 ha5 hz5 hd5 => ?_;have g5_0 := kP ha5 g2_0;have g5_1 := kP ha5 g2_1;have g5_6 : get a5 6 = .bool true := kG ha5 hz2;refine hK4 a5 w ?_;refine wp_cond_split (t := true) (eK g5_6) (fun _ => ?_) (fun h => by cases h);refine wS fun K7 hK7 => ?_;refine wC (wMv (v := dst) (eK g5_0) ?_);refine wC (wCr (R := fun vz wz => Fr (spare dst 1) w wz ∧ Own wz (fun b => (fun b => A b ∨ (w.heap.size ≤ b ∧ b < w.heap.size)) b ∨ (w.heap.size ≤ b ∧ b < wz.heap.size)) 1 vz (xs ++ (uvW 0)).length (octets (xs ++ (uvW 0))) ∧ ∀ r ∈ spare vz 1, r.In (spare dst 1) w) (vs := #[dst, .int .u32 0]) hNul.enters (by simp only [List.map_toArray, List.map_cons, List.map_nil]; rw [eTm, sZ hz5 (by decide), show (a5.put (some 7) dst).eval (.const (.int .u32 0)) = Value.int .u32 0 from rfl]) (Apd.ret (hNul.call w (fun b => A b ∨ (w.heap.size ≤ b ∧ b < w.heap.size)) _ _ 0 ho0 (by decide) (Nat.le_of_lt hb))) ?_);rintro v8 w8 ⟨f8, ho8, hi8⟩;have h9 : Fr (spare dst 1) w w8 := (Fr.refl (spare dst 1) w).trans f8 hi0;have o9 : Own w8 (fun b => A b ∨ (w.heap.size ≤ b ∧ b < w8.heap.size)) 1 v8 (xs ++ (uvW 0)).length (octets (xs ++ (uvW 0))) := ho8.imp_A (own_or (Fr.refl (spare dst 1) w).size f8.size);have i9 : ∀ r ∈ spare v8 1, r.In (spare dst 1) w := fun r hr => Rng.in_trans (hi8 r hr) hi0 (Fr.refl (spare dst 1) w).size;refine wC (wAs (v := v8) (eS hz5) ?_);refine wEk hz5 hd5 fun a10 ha10 hz10 hd10 => ?_;have g10_4 : get a10 4 = v8 := kG ha10 hz5;refine hK7 a10 w8 ?_;refine wp_ret ?_;have := o9;have hfin : xs ++ (uvW 0) = xs ++ apCNStr .nil := rfl;rw [hfin] at this;exact ⟨hd10, _, rIs hres g10_4, _, rfl, h9, this, i9⟩
  refine calls_of_wp hf hbody ?_;generalize ha0 : ({ tmps := #[dst, Value.pointer (some ⟨b, o, none⟩)] ++ Array.replicate (fn.ntmps - (#[dst, Value.pointer (some ⟨b, o, none⟩)] : Array Value).size) undef, defers := [] } : Act) = a0;have hz0 : a0.tmps.size = 14 := by subst ha0; simp [hN]
  have hd0 : a0.defers = [] := by subst ha0; rfl
  have g0_0 : get a0 0 = dst := by subst ha0; exact gAr rfl
  have g0_1 : get a0 1 = .pointer (some ⟨b, o, none⟩) := by subst ha0; exact gAr rfl
  have hi0 : ∀ r ∈ spare dst 1, r.In (spare dst 1) w := fun r h => Rng.in_self h;have ho0 : Own w (fun b => A b ∨ (w.heap.size ≤ b ∧ b < w.heap.size)) 1 dst xs.length (octets xs) := own.imp_A fun _ h => .inl h;refine wT fun K1 hK1 => ?_;refine wC (wAs (v := .slice none 0 0) rfl ?_);refine wEk hz0 hd0 fun a2 ha2 hz2 hd2 => ?_;have g2_0 := kP ha2 g0_0;have g2_1 := kP ha2 g0_1;refine hK1 a2 w (tUp ?_);refine tId (wp_seq_k fun K3 hK3 => ?_);refine wS fun K4 hK4 => ?_;refine wC (wMv (v := .pointer (some ⟨b, o, none⟩)) (eK g2_1) ?_);refine wC (wp_eqlPtrNil (q := some ⟨b, o, none⟩) hpT82 (eS hz2) ?_);rw [show (some (⟨b, o, none⟩ : Addr)).isNone = false from rfl];refine wEk hz2 hd2 fun a5 ha5 hz5 hd5 => ?_;have g5_0 := kP ha5 g2_0;have g5_1 := kP ha5 g2_1;have g5_6 : get a5 6 = .bool false := kG ha5 hz2;refine hK4 a5 w ?_;refine wp_cond_split (t := false) (eK g5_6) (fun h => by cases h) (fun _ => ?_);refine wp_skip ?_;refine hK3 a5 w (tUp ?_);refine wT fun K7 hK7 => ?_;refine wC (wMv (v := dst) (eK g5_0) ?_);refine wC (wMv (v := .pointer (some ⟨b, o, none⟩)) (eK g5_1) ?_);refine wC (wNc (q := ⟨b, o, none⟩) (eS hz5) ?_);refine wC (wp_load (b := b) (o := o) (v := .string s) hcT9 (eS hz5) hcell ?_);refine wC (wCr (R := fun vz wz => Fr (spare dst 1) w wz ∧ Own wz (fun b => (fun b => A b ∨ (w.heap.size ≤ b ∧ b < w.heap.size)) b ∨ (w.heap.size ≤ b ∧ b < wz.heap.size)) 1 vz (xs ++ (apCStr (.s s.data.toList))).length (octets (xs ++ (apCStr (.s s.data.toList)))) ∧ ∀ r ∈ spare vz 1, r.In (spare dst 1) w) (vs := #[dst, .string s]) hC.enters (mX2 (eS hz5) (eS hz5)) (Apd.ret (hC.call w (fun b => A b ∨ (w.heap.size ≤ b ∧ b < w.heap.size)) B _ _ _ (.s s.data.toList) ho0 ⟨s, rfl, rfl, hsl⟩ (fun b hb h => by rcases hb with hb | hb; exact hAB b hb h; have := hB b h; omega) hB hb)) ?_);rintro v8 w8 ⟨f8, ho8, hi8⟩;have h9 : Fr (spare dst 1) w w8 := (Fr.refl (spare dst 1) w).trans f8 hi0;have o9 : Own w8 (fun b => A b ∨ (w.heap.size ≤ b ∧ b < w8.heap.size)) 1 v8 (xs ++ (apCStr (.s s.data.toList))).length (octets (xs ++ (apCStr (.s s.data.toList)))) := ho8.imp_A (own_or (Fr.refl (spare dst 1) w).size f8.size);have i9 : ∀ r ∈ spare v8 1, r.In (spare dst 1) w := fun r hr => Rng.in_trans (hi8 r hr) hi0 (Fr.refl (spare dst 1) w).size;refine wC (wAs (v := v8) (eS hz5) ?_);refine wEk hz5 hd5 fun a10 ha10 hz10 hd10 => ?_;have g10_4 : get a10 4 = v8 := kG ha10 hz5;refine hK7 a10 w8 (tUp ?_);refine wp_ret ?_;have := o9;have hfin : xs ++ (apCStr (.s s.data.toList)) = xs ++ apCNStr (.s s.data.toList) := rfl;rw [hfin] at this;exact ⟨hd10, _, rIs hres g10_4, _, rfl, h9, this, i9⟩
theorem ap_len {P : Program} {f : FuncId} {fn : Func} {T3 T21 : TypeId} {f44 : FuncId} {a0 : Array TypeId} {i0 i1 : Nat} {t0 t1 t2 t3 t4 t5 : TypeId} {p0 p1 p2 p3 p4 p5 : String} {e0 e1 e2 e3 e4 e5 : Array Edge} {te : TypeId}
    (hf : P.funcs[f]? = some fn) (hname : (fn.name == "runtime.NumGoroutine") = false) (hres : fn.results = #[.tmp 4]) (hN : fn.ntmps = 9)
    (hbody : fn.body = some (.seq (Code.region i0 ⟨[oA 4 (.const (.slice none 0 0)) t0 p0 e0]⟩ false) (.seq (Code.region i1 ⟨[oM 5 0 t1 p1 e1,
    oM 6 1 t2 p2 e2, ⟨some 7, .convert T3 T21 (.tmp 6), t3, p3, e3, none⟩,
    oC 8 f44 #[(.tmp 5), (.tmp 7)] a0 t4 p4 e4,
    oT 4 8 t5 p5 e5]⟩ false) .ret)))
    (hT3_i64 : intOf P T3 .i64 = true) (hT21_i32 : intOf P T21 .i32 = true) (hC : ApI P f44 .i32 4) : ApL P f apLen := by
  refine ⟨enters_of hf hname hbody, ?_⟩;intro w A dst xs n own hn hb;refine calls_of_wp hf hbody ?_;generalize ha0 : ({ tmps := #[dst, Value.int .i64 ((n : Nat) : Int)] ++ Array.replicate (fn.ntmps - (#[dst, Value.int .i64 ((n : Nat) : Int)] : Array Value).size) undef, defers := [] } : Act) = a0;have hz0 : a0.tmps.size = 9 := by subst ha0; simp [hN]
  have hd0 : a0.defers = [] := by subst ha0; rfl
  have g0_0 : get a0 0 = dst := by subst ha0; exact gAr rfl
  have g0_1 : get a0 1 = .int .i64 ((n : Nat) : Int) := by subst ha0; exact gAr rfl
  have hi0 : ∀ r ∈ spare dst 1, r.In (spare dst 1) w := fun r h => Rng.in_self h;have ho0 : Own w (fun b => A b ∨ (w.heap.size ≤ b ∧ b < w.heap.size)) 1 dst xs.length (octets xs) := own.imp_A fun _ h => .inl h;refine wT fun K1 hK1 => ?_;refine wC (wAs (v := .slice none 0 0) rfl ?_);refine wEk hz0 hd0 fun a2 ha2 hz2 hd2 => ?_;have g2_0 := kP ha2 g0_0;have g2_1 := kP ha2 g0_1;refine hK1 a2 w (tUp ?_);refine wT fun K3 hK3 => ?_;refine wC (wMv (v := dst) (eK g2_0) ?_);refine wC (wMv (v := .int .i64 ((n : Nat) : Int)) (eK g2_1) ?_);refine wC (wCv (k1 := .i64) (i := ((n : Nat) : Int)) hT3_i64 hT21_i32 (eS hz2) ?_);refine wC (wCr (R := fun vz wz => Fr (spare dst 1) w wz ∧ Own wz (fun b => (fun b => A b ∨ (w.heap.size ≤ b ∧ b < w.heap.size)) b ∨ (w.heap.size ≤ b ∧ b < wz.heap.size)) 1 vz (xs ++ (fxW (IntKind.i32.wrap ((n : Nat) : Int)) 4)).length (octets (xs ++ (fxW (IntKind.i32.wrap ((n : Nat) : Int)) 4))) ∧ ∀ r ∈ spare vz 1, r.In (spare dst 1) w) (vs := #[dst, .int .i32 (IntKind.i32.wrap (((n : Nat) : Int) : Int))]) hC.enters (mX2 (eS hz2) (eS hz2)) (Apd.ret (hC.call w (fun b => A b ∨ (w.heap.size ≤ b ∧ b < w.heap.size)) _ _ _ ho0 (w32 _).1 (w32 _).2 (by rw [List.length_append, show (apLen n).length = 4 from by simp [apLen, fxL]] at hb; omega))) ?_);rintro v4 w4 ⟨f4, ho4, hi4⟩;have h5 : Fr (spare dst 1) w w4 := (Fr.refl (spare dst 1) w).trans f4 hi0;have o5 : Own w4 (fun b => A b ∨ (w.heap.size ≤ b ∧ b < w4.heap.size)) 1 v4 (xs ++ (fxW (IntKind.i32.wrap ((n : Nat) : Int)) 4)).length (octets (xs ++ (fxW (IntKind.i32.wrap ((n : Nat) : Int)) 4))) := ho4.imp_A (own_or (Fr.refl (spare dst 1) w).size f4.size);have i5 : ∀ r ∈ spare v4 1, r.In (spare dst 1) w := fun r hr => Rng.in_trans (hi4 r hr) hi0 (Fr.refl (spare dst 1) w).size;refine wC (wAs (v := v4) (eS hz2) ?_);refine wEk hz2 hd2 fun a6 ha6 hz6 hd6 => ?_;have g6_4 : get a6 4 = v4 := kG ha6 hz2;refine hK3 a6 w4 (tUp ?_);refine wp_ret ?_;have := o5;have hfin : xs ++ (fxW (IntKind.i32.wrap ((n : Nat) : Int)) 4) = xs ++ apLen n := by simp [apLen, fixedW_w32]
  rw [hfin] at this;exact ⟨hd6, _, rIs hres g6_4, _, rfl, h5, this, i5⟩
theorem ap_clen {P : Program} {f : FuncId} {fn : Func} {T3 T55 : TypeId} {f45 : FuncId} {a0 : Array TypeId} {i0 i1 : Nat} {t0 t1 t2 t3 t4 t5 t6 : TypeId} {p0 p1 p2 p3 p4 p5 p6 : String} {e0 e1 e2 e3 e4 e5 e6 : Array Edge} {te : TypeId}
    (hf : P.funcs[f]? = some fn) (hname : (fn.name == "runtime.NumGoroutine") = false) (hres : fn.results = #[.tmp 4]) (hN : fn.ntmps = 10)
    (hbody : fn.body = some (.seq (Code.region i0 ⟨[oA 4 (.const (.slice none 0 0)) t0 p0 e0]⟩ false) (.seq (Code.region i1 ⟨[oM 5 0 t1 p1 e1,
    oM 6 1 t2 p2 e2, ⟨some 7, .convert T3 T55 (.tmp 6), t3, p3, e3, none⟩, ⟨some 8, .binOp .add T55 (.const (.int .u32 1)) (.tmp 7) T55, t4, p4, e4, none⟩,
    oC 9 f45 #[(.tmp 5), (.tmp 8)] a0 t5 p5 e5,
    oT 4 9 t6 p6 e6]⟩ false) .ret)))
    (hT3_i64 : intOf P T3 .i64 = true) (hT55_u32 : intOf P T55 .u32 = true) (hC : ApU P f45) : ApL P f apCLen := by
  refine ⟨enters_of hf hname hbody, ?_⟩;intro w A dst xs n own hn hb;refine calls_of_wp hf hbody ?_;generalize ha0 : ({ tmps := #[dst, Value.int .i64 ((n : Nat) : Int)] ++ Array.replicate (fn.ntmps - (#[dst, Value.int .i64 ((n : Nat) : Int)] : Array Value).size) undef, defers := [] } : Act) = a0;have hz0 : a0.tmps.size = 10 := by subst ha0; simp [hN]
  have hd0 : a0.defers = [] := by subst ha0; rfl
  have g0_0 : get a0 0 = dst := by subst ha0; exact gAr rfl
  have g0_1 : get a0 1 = .int .i64 ((n : Nat) : Int) := by subst ha0; exact gAr rfl
  have hi0 : ∀ r ∈ spare dst 1, r.In (spare dst 1) w := fun r h => Rng.in_self h;have ho0 : Own w (fun b => A b ∨ (w.heap.size ≤ b ∧ b < w.heap.size)) 1 dst xs.length (octets xs) := own.imp_A fun _ h => .inl h;refine wT fun K1 hK1 => ?_;refine wC (wAs (v := .slice none 0 0) rfl ?_);refine wEk hz0 hd0 fun a2 ha2 hz2 hd2 => ?_;have g2_0 := kP ha2 g0_0;have g2_1 := kP ha2 g0_1;refine hK1 a2 w (tUp ?_);refine wT fun K3 hK3 => ?_;refine wC (wMv (v := dst) (eK g2_0) ?_);refine wC (wMv (v := .int .i64 ((n : Nat) : Int)) (eK g2_1) ?_);refine wC (wCv (k1 := .i64) (i := ((n : Nat) : Int)) hT3_i64 hT55_u32 (eS hz2) ?_);rw [show (IntKind.u32.wrap (((n : Nat) : Int) : Int)) = (((n : Nat) : Int) : Int) from by simp only [IntKind.wrap, IntKind.bits, IntKind.signed]; simp; omega];refine wC (wp_add (k1 := .u32) (i := 1) (j := ((n : Nat) : Int)) rfl (eS hz2) ?_);rw [show (IntKind.u32.wrap ((1 : Int) + (((n : Nat) : Int) : Int)) : Int) = (((n + 1 : Nat) : Int) : Int) from by simp only [IntKind.wrap, IntKind.bits, IntKind.signed]; simp; omega];refine wC (wCr (R := fun vz wz => Fr (spare dst 1) w wz ∧ Own wz (fun b => (fun b => A b ∨ (w.heap.size ≤ b ∧ b < w.heap.size)) b ∨ (w.heap.size ≤ b ∧ b < wz.heap.size)) 1 vz (xs ++ (uvW (n + 1))).length (octets (xs ++ (uvW (n + 1)))) ∧ ∀ r ∈ spare vz 1, r.In (spare dst 1) w) (vs := #[dst, .int .u32 ((n + 1 : Nat) : Int)]) hC.enters (mX2 (eS hz2) (eS hz2)) (Apd.ret (hC.call w (fun b => A b ∨ (w.heap.size ≤ b ∧ b < w.heap.size)) _ _ (n + 1) ho0 (by omega) hb)) ?_);rintro v4 w4 ⟨f4, ho4, hi4⟩;have h5 : Fr (spare dst 1) w w4 := (Fr.refl (spare dst 1) w).trans f4 hi0;have o5 : Own w4 (fun b => A b ∨ (w.heap.size ≤ b ∧ b < w4.heap.size)) 1 v4 (xs ++ (uvW (n + 1))).length (octets (xs ++ (uvW (n + 1)))) := ho4.imp_A (own_or (Fr.refl (spare dst 1) w).size f4.size);have i5 : ∀ r ∈ spare v4 1, r.In (spare dst 1) w := fun r hr => Rng.in_trans (hi4 r hr) hi0 (Fr.refl (spare dst 1) w).size;refine wC (wAs (v := v4) (eS hz2) ?_);refine wEk hz2 hd2 fun a6 ha6 hz6 hd6 => ?_;have g6_4 : get a6 4 = v4 := kG ha6 hz2;refine hK3 a6 w4 (tUp ?_);refine wp_ret ?_;have := o5;have hfin : xs ++ (uvW (n + 1)) = xs ++ apCLen n := by simp [apCLen]
  rw [hfin] at this;exact ⟨hd6, _, rIs hres g6_4, _, rfl, h5, this, i5⟩
end Go.Kq

namespace Go.Kq
open Go Go.Proofs
abbrev Ctx := List (Nat × Value)
def Ctx.on (c : Ctx) (a : Act) : Prop := ∀ s ∈ c, get a s.1 = s.2
def Ctx.free (c : Ctx) (m : Nat) (l : List Nat) : Bool := c.all fun s => decide (s.1 < m) && !l.contains s.1
theorem Ctx.on_put {c : Ctx} {a : Act} {m d : Nat} {l : List Nat} {v : Value} (h : c.on a) (hf : c.free m l = true) (hd : m ≤ d ∨ d ∈ l) : c.on (a.put (some d) v) := by
  intro s hs;have := List.all_eq_true.1 hf s hs;simp only [Bool.and_eq_true, decide_eq_true_eq, Bool.not_eq_true', List.contains_eq_mem, decide_eq_false_iff_not] at this;rw [gPn, h s hs];rintro rfl
  rcases hd with hd | hd
  · omega
  exact this.2 hd
theorem Ctx.on_cons {c : Ctx} {a : Act} {d : Nat} {v : Value} (h : c.on a) (hd : get a d = v) : Ctx.on ((d, v) :: c) a := by
  intro s hs
  rcases List.mem_cons.1 hs with rfl | hs
  · exact hd
  exact h s hs
theorem Ctx.on_tail {c : Ctx} {a : Act} {x : Nat × Value} (h : Ctx.on (x :: c) a) : c.on a := fun s hs => h s (List.mem_cons_of_mem _ hs)
theorem Ctx.lt {c : Ctx} {m : Nat} {l : List Nat} {s : Nat × Value} (hf : c.free m l = true) (hs : s ∈ c) : s.1 < m ∧ s.1 ∉ l := by
  have := List.all_eq_true.1 hf s hs
  simpa only [Bool.and_eq_true, decide_eq_true_eq, Bool.not_eq_true', List.contains_eq_mem, decide_eq_false_iff_not] using this
structure AE where
  w0 : World
  A : Nat → Prop
  B : Nat → Prop
  d0 : Value
def AE.Aw (e : AE) (w : World) (b : Nat) : Prop := e.A b ∨ (e.w0.heap.size ≤ b ∧ b < w.heap.size)
structure AE.Ok (e : AE) : Prop where
  AB : ∀ b, e.A b → ¬ e.B b
  lt : ∀ b, e.B b → b < e.w0.heap.size
  Alt : ∀ b, e.A b → b < e.w0.heap.size
  sp : ∀ r ∈ spare e.d0 1, e.A r.b
structure ASt (e : AE) (xs : List UInt8) (v : Value) (w : World) : Prop where
  ok : e.Ok
  fr : Fr (spare e.d0 1) e.w0 w
  own : Own w (e.Aw w) 1 v xs.length (octets xs)
  inn : ∀ r ∈ spare v 1, r.In (spare e.d0 1) e.w0
theorem ASt.on {e : AE} {xs zs : List UInt8} {v v' : Value} {w w' : World} (h : ASt e xs v w) (f : Fr (spare v 1) w w') (ho : Own w' (fun b => e.Aw w b ∨ (w.heap.size ≤ b ∧ b < w'.heap.size)) 1 v' zs.length (octets zs)) (hi : ∀ r ∈ spare v' 1, r.In (spare v 1) w) : ASt e zs v' w' :=
  ⟨h.ok, h.fr.trans f h.inn, ho.imp_A (own_or h.fr.size f.size), fun r hr => Rng.in_trans (hi r hr) h.inn h.fr.size⟩
theorem ASt.rep {e : AE} {xs : List UInt8} {v : Value} {w : World} (h : ASt e xs v w) {ty : Ty} {cs : List Value} {x : V} (hr : Rep e.w0 e.B ty cs x) : Rep w e.B ty cs x :=
  Rep.kept h.fr (fun r hr hb => h.ok.AB _ (h.ok.sp r hr) hb) (fun _ h => h) hr
theorem ASt.cell {e : AE} {xs : List UInt8} {v c : Value} {w : World} {b o : Nat} (h : ASt e xs v w) (hB : e.B b) (hc : e.w0.cell? ⟨b, o, none⟩ = some c) : w.cell? ⟨b, o, none⟩ = some c :=
  h.fr.cell hc fun r hr => .inl fun hb => h.ok.AB _ (h.ok.sp r hr) (hb ▸ hB)
theorem ASt.apart {e : AE} {xs : List UInt8} {v : Value} {w : World} (h : ASt e xs v w) (b : Nat) (hb : e.Aw w b) : ¬ e.B b := by
  rcases hb with hb | hb
  · exact h.ok.AB b hb
  intro hB; have := h.ok.lt b hB; omega
theorem ASt.ltA {e : AE} {xs : List UInt8} {v : Value} {w : World} (h : ASt e xs v w) (b : Nat) (hb : e.Aw w b) : b < w.heap.size := by
  rcases hb with hb | hb
  · exact Nat.lt_of_lt_of_le (h.ok.Alt b hb) h.fr.size
  exact hb.2
theorem ASt.ltw {e : AE} {xs : List UInt8} {v : Value} {w : World} (h : ASt e xs v w) (b : Nat) (hb : e.B b) : b < w.heap.size := Nat.lt_of_lt_of_le (h.ok.lt b hb) h.fr.size
def ApC (P : Program) (N : Nat) (e : AE) (c : Ctx) (k : Code) (ys : List UInt8) : Prop :=
  ∀ (K : Act → World → Prop) (Q : Exit → Act → World → Prop) (a : Act) (w : World) (v : Value) (xs : List UInt8),
    a.tmps.size = N → a.defers = [] → c.on a → get a 1 = v → ASt e xs v w → (xs ++ ys).length < 4294967296 →
    (∀ a' w' v', a'.tmps.size = N → a'.defers = [] → c.on a' → get a' 1 = v' → ASt e (xs ++ ys) v' w' → K a' w') →
    k.wp P (Exit.then K Q) a w
section
variable {P : Program} {N n m s L id id1 id2 b0 b1 : Nat} {TI'' TI3 : TypeId} {e : AE} {c : Ctx} {k k1 k2 : Code} {ys y1 y2 : List UInt8} {cv : Value}
  {t0 t1 t2 t3 t4 t5 t6 t7 t8 t9 : TypeId} {p0 p1 p2 p3 p4 p5 p6 p7 p8 p9 : String} {e0 e1 e2 e3 e4 e5 e6 e7 e8 e9 : Array Edge}
theorem ApC.skip : ApC P N e c .skip [] := by
  intro K Q a w v xs hN hd hc hv hs hb hK;refine wp_skip ?_;exact hK a w v hN hd hc hv (by rw [List.append_nil]; exact hs)
theorem ApC.seq (h1 : ApC P N e c k1 y1) (h2 : ApC P N e c k2 y2) : ApC P N e c (.seq k1 k2) (y1 ++ y2) := by
  intro K Q a w v xs hN hd hc hv hs hb hK;refine wp_seq_k fun K1 hK1 => ?_;refine h1 K1 _ a w v xs hN hd hc hv hs (by simp only [List.length_append] at hb ⊢; omega) fun a1 w1 v1 n1 d1 c1 g1 s1 => hK1 a1 w1 ?_;refine h2 K Q a1 w1 v1 _ n1 d1 c1 g1 s1 (by rw [List.append_assoc]; exact hb) fun a2 w2 v2 n2 d2 c2 g2 s2 => hK a2 w2 v2 n2 d2 c2 g2 (by rw [← List.append_assoc]; exact s2)
theorem ApC.load {pb po fi o : Nat} {S T : TypeId} (hs : (s, Value.pointer (some ⟨pb, po, none⟩)) ∈ c) (hF : fieldOf P S fi o = true) (hT : scal P T = true) (hcell : e.w0.cell? ⟨pb, po + o, none⟩ = some cv) (hB : e.B pb)
    (hb : (c.free n [L, 1] && decide (L < n) && decide (1 < n) && decide (n + 3 < N) && decide (L ≠ 1)) = true) (h : ApC P N e ((L, cv) :: c) k ys) :
    ApC P N e c (.seq (Code.region id ⟨[oM n s t0 p0 e0, ⟨some (n + 1), .nilCheck (.tmp n), t1, p1, e1, none⟩, oF (n + 2) S (n + 1) fi t2 p2 e2, oL (n + 3) T (n + 2) t3 p3 e3,
      oT L (n + 3) t4 p4 e4]⟩ false) k) ys := by
  intro K Q a w v xs hN hd hc hv hst hbd hK;simp only [Bool.and_eq_true, decide_eq_true_eq] at hb;obtain ⟨⟨⟨⟨b1, b2⟩, b3⟩, b4⟩, b5⟩ := hb;refine wS fun K1 hK1 => ?_;refine wC (wMv (v := .pointer (some ⟨pb, po, none⟩)) (by rw [eTm]; exact hc _ hs) ?_);refine wC (wNc (q := ⟨pb, po, none⟩) (by rw [eTm, gQ]) ?_);refine wC (wFa hF (b := pb) (i := po) (by rw [eTm, gQ]) ?_);refine wC (wp_load hT (by rw [eTm, gQ]) (hst.cell hB hcell) ?_);refine wC (wAs (v := cv) (by rw [eTm, gQ]) ?_);rw [wNi];refine hK1 _ w ?_;refine h K Q _ w v xs (by simp only [sPu]; exact hN) (by simp only [dPu]; exact hd) (Ctx.on_cons ?_ (gQ)) ?_ hst hbd fun a' w' v' n' d' c' g' s' => hK a' w' v' n' d' (Ctx.on_tail c') g' s'
  · exact Ctx.on_put (Ctx.on_put (Ctx.on_put (Ctx.on_put (Ctx.on_put hc b1 (.inl (by omega))) b1 (.inl (by omega))) b1 (.inl (by omega))) b1 (.inl (by omega))) b1 (.inr (by simp))
  rw [gPn b5, gR, gR, gR, gR]; exact hv
theorem ApC.fld {pb po fi o : Nat} {S : TypeId} (hs : (s, Value.pointer (some ⟨pb, po, none⟩)) ∈ c) (hF : fieldOf P S fi o = true)
    (hb : (c.free n [L, 1] && decide (L < n) && decide (1 < n) && decide (n + 3 < N) && decide (L ≠ 1)) = true) (h : ApC P N e ((L, .pointer (some ⟨pb, po + o, none⟩)) :: c) k ys) :
    ApC P N e c (.seq (Code.region id ⟨[oM n s t0 p0 e0, ⟨some (n + 1), .nilCheck (.tmp n), t1, p1, e1, none⟩, oF (n + 2) S (n + 1) fi t2 p2 e2,
      oT L (n + 2) t4 p4 e4]⟩ false) k) ys := by
  intro K Q a w v xs hN hd hc hv hst hbd hK;simp only [Bool.and_eq_true, decide_eq_true_eq] at hb;obtain ⟨⟨⟨⟨b1, b2⟩, b3⟩, b4⟩, b5⟩ := hb;refine wS fun K1 hK1 => ?_;refine wC (wMv (v := .pointer (some ⟨pb, po, none⟩)) (by rw [eTm]; exact hc _ hs) ?_);refine wC (wNc (q := ⟨pb, po, none⟩) (by rw [eTm, gQ]) ?_);refine wC (wFa hF (b := pb) (i := po) (by rw [eTm, gQ]) ?_);refine wC (wAs (v := .pointer (some ⟨pb, po + o, none⟩)) (by rw [eTm, gQ]) ?_);rw [wNi];refine hK1 _ w ?_;refine h K Q _ w v xs (by simp only [sPu]; exact hN) (by simp only [dPu]; exact hd) (Ctx.on_cons ?_ (gQ)) ?_ hst hbd fun a' w' v' n' d' c' g' s' => hK a' w' v' n' d' (Ctx.on_tail c') g' s'
  · exact Ctx.on_put (Ctx.on_put (Ctx.on_put (Ctx.on_put hc b1 (.inl (by omega))) b1 (.inl (by omega))) b1 (.inl (by omega))) b1 (.inr (by simp))
  rw [gPn b5, gR, gR, gR]; exact hv
structure CallOk (P : Program) (e : AE) (f : FuncId) (cv : Value) (ys : List UInt8) : Prop where
  enters : Enters P f
  call : ∀ (w : World) (v : Value) (xs : List UInt8), ASt e xs v w → (xs ++ ys).length < 4294967296 → Calls P f #[v, cv] w (Apd w (e.Aw w) v (xs ++ ys))
theorem CallOk.int {f : FuncId} {kd : IntKind} {sz : Nat} {i : Int} (h : ApI P f kd sz) (h1 : kd.min ≤ i) (h2 : i ≤ kd.max) : CallOk P e f (.int kd i) (fxW i sz) :=
  ⟨h.enters, fun w v xs hs hb => h.call w _ v xs i hs.own h1 h2 (by rw [List.length_append, fxL] at hb; omega)⟩
theorem CallOk.val {f : FuncId} {ty : Ty} {g : V → List UInt8} {x : V} (h : ApV P f ty g) (hr : Rep e.w0 e.B ty [cv] x) : CallOk P e f cv (g x) :=
  ⟨h.enters, fun w v xs hs hb => h.call w _ e.B v xs cv x hs.own (hs.rep hr) hs.apart hs.ltw hb⟩
theorem ApC.done {a : Act} {w w' : World} {v v' : Value} {xs zs : List UInt8} {K : Act → World → Prop} (hN : a.tmps.size = N) (hd : a.defers = []) (hc : c.on a) (hg : get a 1 = v') (hst : ASt e xs v w)
    (hK : ∀ a' w' v', a'.tmps.size = N → a'.defers = [] → c.on a' → get a' 1 = v' → ASt e zs v' w' → K a' w')
    (hr : Fr (spare v 1) w w' ∧ Own w' (fun b => e.Aw w b ∨ (w.heap.size ≤ b ∧ b < w'.heap.size)) 1 v' zs.length (octets zs) ∧ ∀ r ∈ spare v' 1, r.In (spare v 1) w) : K a w' :=
  hK a w' v' hN hd hc hg (hst.on hr.1 hr.2.1 hr.2.2)
theorem ApC.call {f : FuncId} {ats : Array TypeId} (hL : (L, cv) ∈ c) (hf : CallOk P e f cv ys) (hb : (c.free n [1] && decide (1 < n) && decide (n + 2 < N)) = true) :
    ApC P N e c (Code.region id ⟨[oM n 1 t0 p0 e0, oM (n + 1) L t1 p1 e1, oC (n + 2) f #[.tmp n, .tmp (n + 1)] ats t2 p2 e2, oT 1 (n + 2) t3 p3 e3]⟩ false) ys := by
  intro K Q a w v xs hN hd hc hv hst hbd hK;simp only [Bool.and_eq_true, decide_eq_true_eq] at hb;obtain ⟨⟨b1, b2⟩, b3⟩ := hb;have hLn := (Ctx.lt b1 hL).1;simp only at hLn;refine wp_reg ?_;refine wC (wMv (v := v) (by rw [eTm]; exact hv) ?_);refine wC (wMv (v := cv) (by rw [eTm, gR]; exact hc _ hL) ?_);refine wC (wCr (vs := #[v, cv]) hf.enters (by simp only [List.map_toArray, List.map_cons, List.map_nil, eTm]; rw [gR, gQ, gQ]) (Apd.ret (hf.call w v xs hst hbd)) ?_);intro v' w' hr;refine wC (wAs (v := v') (by rw [eTm, gQ]) ?_);rw [wNi];exact ApC.done (c := c) (by simp only [sPu]; exact hN) (by simp only [dPu]; exact hd) (Ctx.on_put (Ctx.on_put (Ctx.on_put (Ctx.on_put hc b1 (.inl (by omega))) b1 (.inl (by omega))) b1 (.inl (by omega))) b1 (.inr (by simp))) (gQ) hst hK hr
theorem ApC.len {f : FuncId} {ats : Array TypeId} {T : TypeId} {q : Option Addr} {ln cap : Nat} (hL : (L, Value.slice q ln cap) ∈ c) (hT : slTy P T = true) (hf : CallOk P e f (.int .i64 ln) ys) (hb : (c.free n [1] && decide (1 < n) && decide (n + 3 < N)) = true) :
    ApC P N e c (Code.region id ⟨[oM n 1 t0 p0 e0, oM (n + 1) L t1 p1 e1, ⟨some (n + 2), .call ⟨.builtin .len, #[.tmp (n + 1)], #[T]⟩, t2, p2, e2, none⟩,
      oC (n + 3) f #[.tmp n, .tmp (n + 2)] ats t3 p3 e3, oT 1 (n + 3) t4 p4 e4]⟩ false) ys := by
  intro K Q a w v xs hN hd hc hv hst hbd hK;simp only [Bool.and_eq_true, decide_eq_true_eq] at hb;obtain ⟨⟨b1, b2⟩, b3⟩ := hb;have hLn := (Ctx.lt b1 hL).1;simp only at hLn;refine wp_reg ?_;refine wC (wMv (v := v) (by rw [eTm]; exact hv) ?_);refine wC (wMv (v := .slice q ln cap) (by rw [eTm, gR]; exact hc _ hL) ?_);refine wC (wp_lenS hT (q := q) (n := ln) (cap := cap) (by rw [eTm, gQ]) ?_);refine wC (wCr (vs := #[v, .int .i64 ln]) hf.enters (by simp only [List.map_toArray, List.map_cons, List.map_nil, eTm]; rw [gR, gR, gQ, gQ]) (Apd.ret (hf.call w v xs hst hbd)) ?_);intro v' w' hr;refine wC (wAs (v := v') (by rw [eTm, gQ]) ?_);rw [wNi];exact ApC.done (c := c) (by simp only [sPu]; exact hN) (by simp only [dPu]; exact hd) (Ctx.on_put (Ctx.on_put (Ctx.on_put (Ctx.on_put (Ctx.on_put hc b1 (.inl (by omega))) b1 (.inl (by omega))) b1 (.inl (by omega))) b1 (.inl (by omega))) b1 (.inr (by simp))) (gQ) hst hK hr
theorem CallOk.len {f : FuncId} {g : Nat → List UInt8} {ln : Nat} (h : ApL P f g) (hl : ln < 4294967295) : CallOk P e f (.int .i64 ln) (g ln) :=
  ⟨h.enters, fun w v xs hs hb => h.call w _ v xs ln hs.own hl (by omega)⟩
theorem ApC.cond {b : Bool} (hs : (s, Value.bool b) ∈ c) (hb : (c.free n [1] && decide (1 < n) && decide (n < N)) = true) (h1 : b = true → ApC P N e c k1 ys) (h2 : b = false → ApC P N e c k2 ys) :
    ApC P N e c (.seq (Code.region id ⟨[oM n s t0 p0 e0]⟩ false) (.cond (.tmp n) k1 k2)) ys := by
  intro K Q a w v xs hN hd hc hv hst hbd hK;simp only [Bool.and_eq_true, decide_eq_true_eq] at hb;obtain ⟨⟨b1, b2⟩, b3⟩ := hb;refine wS fun K1 hK1 => ?_;refine wC (wMv (v := .bool b) (by rw [eTm]; exact hc _ hs) ?_);rw [wNi];refine hK1 _ w ?_;refine wp_cond_split (t := b) (by rw [eTm, gQ]) (fun hbt => ?_) (fun hbt => ?_)
  · exact h1 hbt K Q _ w v xs (by simp only [sPu]; exact hN) (by simp only [dPu]; exact hd) (Ctx.on_put hc b1 (.inl (by omega))) (by rw [gR]; exact hv) hst hbd hK
  exact h2 hbt K Q _ w v xs (by simp only [sPu]; exact hN) (by simp only [dPu]; exact hd) (Ctx.on_put hc b1 (.inl (by omega))) (by rw [gR]; exact hv) hst hbd hK
theorem ApC.gate {op : BinOp} {i j : Int} {r : Bool} {kd : IntKind} {T T' : TypeId} (hs : (s, Value.int kd i) ∈ c) (hop : cmpR op i j = some r) (hb : (c.free n [1] && decide (1 < n) && decide (n + 1 < N)) = true) (h1 : r = true → ApC P N e c k1 ys) (h2 : r = false → ApC P N e c k2 ys) :
    ApC P N e c (.seq (Code.region id ⟨[oM n s t0 p0 e0, ⟨some (n + 1), .binOp op T (.tmp n) (.const (.int kd j)) T', t1, p1, e1, none⟩]⟩ false) (.cond (.tmp (n + 1)) k1 k2)) ys := by
  intro K Q a w v xs hN hd hc hv hst hbd hK;simp only [Bool.and_eq_true, decide_eq_true_eq] at hb;obtain ⟨⟨b1, b2⟩, b3⟩ := hb;refine wS fun K1 hK1 => ?_;refine wC (wMv (v := .int kd i) (by rw [eTm]; exact hc _ hs) ?_);refine wC (wp_cmp hop (by rw [eTm, gQ]) (eCo _ _) ?_);rw [wNi];refine hK1 _ w ?_;refine wp_cond_split (t := r) (by rw [eTm, gQ]) (fun hbt => ?_) (fun hbt => ?_)
  · exact h1 hbt K Q _ w v xs (by simp only [sPu]; exact hN) (by simp only [dPu]; exact hd) (Ctx.on_put (Ctx.on_put hc b1 (.inl (by omega))) b1 (.inl (by omega))) (by rw [gR, gR]; exact hv) hst hbd hK
  exact h2 hbt K Q _ w v xs (by simp only [sPu]; exact hN) (by simp only [dPu]; exact hd) (Ctx.on_put (Ctx.on_put hc b1 (.inl (by omega))) b1 (.inl (by omega))) (by rw [gR, gR]; exact hv) hst hbd hK
theorem ApC.loop {T TI TI' : TypeId} {q : Option Addr} {cap m' q' : Nat} {body : Code} {items : List V} {g : V → List UInt8} (hL : (L, Value.slice q items.length cap) ∈ c) (hT : slTy P T = true) (hlen : items.length ≤ 4294967296)
    (hb : (c.free n [1] && decide (1 < n) && decide (n + 2 < N) && decide (n + 3 ≤ m') && decide (m' < N) && decide (n + 3 ≤ q') && decide (q' < N)) = true)
    (h : ∀ (i : Nat) (y : V), items[i]? = some y → ApC P N e ((n + 2, .int .i64 i) :: (n + 1, .int .i64 items.length) :: c) body (g y)) :
    ApC P N e c (.seq (Code.region id ⟨[oM n L t0 p0 e0, ⟨some (n + 1), .call ⟨.builtin .len, #[.tmp n], #[T]⟩, t1, p1, e1, none⟩, ⟨some (n + 2), .move (.const (.int .i64 0)), t2, p2, e2, none⟩]⟩ false) (.block b0 (.loop (.seq (Code.region id1 ⟨[⟨some m', .binOp .lss TI (.tmp (n + 2)) (.tmp (n + 1)) TI', t3, p3, e3, none⟩]⟩ false) (.seq (.cond (.tmp m') .skip (.exit b0)) (.seq (.block b1 body) (Code.region id2 ⟨[⟨some q', .binOp .add TI'' (.tmp (n + 2)) (.const (.int .i64 1)) TI3, t4, p4, e4, none⟩, ⟨some (n + 2), .move (.tmp q'), t5, p5, e5, none⟩]⟩ false))))))) (items.map g).flatten := by
  intro K Q a w v xs hN hd hc hv hst hbd hK;simp only [Bool.and_eq_true, decide_eq_true_eq] at hb;obtain ⟨⟨⟨⟨⟨⟨q1, q2⟩, q3⟩, q4⟩, q5⟩, q6⟩, q7⟩ := hb;have hLn := (Ctx.lt q1 hL).1;simp only at hLn;refine wS fun K1 hK1 => ?_;refine wC (wMv (v := .slice q items.length cap) (by rw [eTm]; exact hc _ hL) ?_);refine wC (wp_lenS hT (q := q) (n := items.length) (cap := cap) (by rw [eTm, gQ]) ?_);refine wC (wMv (v := .int .i64 0) (eCo _ _) ?_);rw [wNi];generalize ha1 : ((a.put (some n) (.slice q items.length cap)).put (some (n + 1)) (.int .i64 items.length)).put (some (n + 2)) (.int .i64 0) = a1;have hN1 : a1.tmps.size = N := by subst ha1; simp only [sPu]; exact hN
  have hd1 : a1.defers = [] := by subst ha1; simp only [dPu]; exact hd
  have hc1 : c.on a1 := by subst ha1; exact Ctx.on_put (Ctx.on_put (Ctx.on_put hc q1 (.inl (by omega))) q1 (.inl (by omega))) q1 (.inl (by omega))
  have hv1 : get a1 1 = v := by subst ha1; rw [gR, gR, gR]; exact hv
  have hl1 : get a1 (n + 1) = .int .i64 items.length := by subst ha1; rw [gR, gQ]
  have hi1 : get a1 (n + 2) = .int .i64 0 := by subst ha1; exact gQ
  refine hK1 a1 w ?_;refine wp_block (wp_loop_ghost (fun r a' w' => ∃ (j : Nat) (v' : Value), j + r = items.length ∧ a'.tmps.size = N ∧ a'.defers = [] ∧ c.on a' ∧ get a' 1 = v' ∧ get a' (n + 1) = .int .i64 items.length ∧ get a' (n + 2) = .int .i64 j ∧ ASt e (xs ++ ((items.take j).map g).flatten) v' w') items.length ?_ ?_)
  · exact ⟨0, v, by omega, hN1, hd1, hc1, hv1, hl1, hi1, by simpa using hst⟩
  rintro r a2 w2 ⟨j, v2, hj, hN2, hd2, hc2, hv2, hl2, hi2, hst2⟩;refine wS fun K2 hK2 => ?_;refine wC (wp_lss (k1 := .i64) (i := j) (j := items.length) (by rw [eTm, hi2]) (by rw [eTm, hl2]) ?_);rw [wNi];generalize ha3 : a2.put (some m') (.bool (decide ((j : Int) < items.length))) = a3;have hN3 : a3.tmps.size = N := by subst ha3; simp only [sPu]; exact hN2
  have hd3 : a3.defers = [] := by subst ha3; simp only [dPu]; exact hd2
  have hc3 : c.on a3 := by subst ha3; exact Ctx.on_put hc2 q1 (.inl (by omega))
  have hv3 : get a3 1 = v2 := by subst ha3; rw [gR]; exact hv2
  have hl3 : get a3 (n + 1) = .int .i64 items.length := by subst ha3; rw [gR]; exact hl2
  have hi3 : get a3 (n + 2) = .int .i64 j := by subst ha3; rw [gR]; exact hi2
  have hm3 : get a3 m' = .bool (decide ((j : Int) < items.length)) := by subst ha3; exact gQ
  refine hK2 a3 w2 ?_;refine wp_seq_k fun K3 hK3 => ?_;refine wp_cond_split (t := decide ((j : Int) < items.length)) (by rw [eTm, hm3]) ?_ ?_
  · intro hlt;have hjl : j < items.length := by simpa using hlt
    refine wp_skip (hK3 a3 w2 ?_);refine wp_seq_k fun K4 hK4 => ?_;refine wp_blockT ?_;have htake : ((items.take (j + 1)).map g).flatten = ((items.take j).map g).flatten ++ g items[j] := by
      rw [List.take_succ_eq_append_getElem hjl, List.map_append, List.flatten_append]; simp
    have hlt2 : ((items.take (j + 1)).map g).flatten.length ≤ (items.map g).flatten.length := by
      conv => rhs; rw [← List.take_append_drop (j + 1) items]
      rw [List.map_append, List.flatten_append, List.length_append]; omega
    refine h j items[j] (by simp [hjl]) K4 _ a3 w2 v2 _ hN3 hd3 (Ctx.on_cons (Ctx.on_cons hc3 hl3) hi3) hv3 hst2 ?_ ?_
    · rw [List.append_assoc, ← htake];simp only [List.length_append] at hbd ⊢;omega
    intro a4 w4 v4 hN4 hd4 hc4 hv4 hst4;refine hK4 a4 w4 ?_;have hi4 : get a4 (n + 2) = .int .i64 j := hc4 (n + 2, .int .i64 j) (by simp);have hl4 : get a4 (n + 1) = .int .i64 items.length := hc4 (n + 1, .int .i64 items.length) (by simp);refine wp_reg ?_;refine wC (wp_add (k1 := .i64) (i := j) (j := 1) (by rw [eTm, hi4]) rfl ?_);rw [wCo, wMw, eTm, gQ, wNi];have hwr : IntKind.i64.wrap ((j : Int) + 1) = ((j + 1 : Nat) : Int) := by
      simp [IntKind.wrap, IntKind.bits, IntKind.signed]; omega
    rw [hwr];refine ⟨r - 1, by omega, j + 1, v4, by omega, by simp only [sPu]; exact hN4, by simp only [dPu]; exact hd4, ?_, ?_, ?_, gQ, ?_⟩
    · exact Ctx.on_put (Ctx.on_put (Ctx.on_tail (Ctx.on_tail hc4)) q1 (.inl (by omega))) q1 (.inl (by omega))
    · rw [gR, gR]; exact hv4
    · rw [gR, gR]; exact hl4
    rw [htake, ← List.append_assoc]; exact hst4
  intro hge;have hjl : j = items.length := by
    have : ¬ ((j : Int) < items.length) := by simpa using hge
    omega
  subst hjl;refine wp_exit ?_;show Exit.inBlock b0 (Exit.then K Q) (.exit b0) a3 w2
  simp only [Exit.inBlock, if_true];refine hK a3 w2 v2 hN3 hd3 hc3 hv3 ?_;rw [List.take_length] at hst2; exact hst2
theorem ApC.elem {b o i len cap sz bs I' : Nat} {T et : TypeId} (hL : (L, Value.slice (some ⟨b, o, none⟩) len cap) ∈ c) (hS : (s, Value.int .i64 (i : Int)) ∈ c) (hi : i < len) (hT : sliceOf P T et sz bs = true)
    (hb : (c.free n [I', m, 1] && decide (I' < n) && decide (m < n) && decide (1 < n) && decide (n + 3 < N) && decide (I' ≠ 1) && decide (m ≠ 1) && decide (m ≠ I')) = true) (h : ApC P N e ((m, .pointer (some ⟨b, o + i * sz, none⟩)) :: c) k ys) :
    ApC P N e c (.seq (Code.region id ⟨[oM n s t0 p0 e0, ⟨some I', .assign (.tmp n), t1, p1, e1, none⟩]⟩ false) (.seq (Code.region id1 ⟨[oM (n + 1) L t2 p2 e2, ⟨some (n + 2), .move (.tmp I'), t3, p3, e3, none⟩, ⟨some (n + 3), .indexAddr T (.tmp (n + 1)) (.tmp (n + 2)), t4, p4, e4, none⟩, oT m (n + 3) t5 p5 e5]⟩ false) k)) ys := by
  intro K Q a w v xs hN hd hc hv hst hbd hK;simp only [Bool.and_eq_true, decide_eq_true_eq] at hb;obtain ⟨⟨⟨⟨⟨⟨⟨q1, q2⟩, q3⟩, q4⟩, q5⟩, q6⟩, q7⟩, q8⟩ := hb;have hLn := Ctx.lt q1 hL;have hSn := (Ctx.lt q1 hS).1;simp only [List.mem_cons, not_or] at hLn hSn;refine wS fun K1 hK1 => ?_;refine wC (wMv (v := .int .i64 (i : Int)) (by rw [eTm]; exact hc _ hS) ?_);refine wC (wAs (v := .int .i64 (i : Int)) (by rw [eTm, gQ]) ?_);rw [wNi];refine hK1 _ w ?_;refine wS fun K2 hK2 => ?_;refine wC (wMv (v := .slice (some ⟨b, o, none⟩) len cap) (by rw [eTm, gPn (fun h => hLn.2.1 h.symm), gR]; exact hc _ hL) ?_);refine wC (wMv (v := .int .i64 (i : Int)) (by rw [eTm, gR, gQ]) ?_);refine wC (wp_indexAddr hT (b := b) (o := o) (i := (i : Int)) (by rw [eTm, gR, gQ]) (by rw [eTm, gQ]) (by omega) (by omega) ?_);refine wC (wAs (v := .pointer (some ⟨b, o + i * sz, none⟩)) (by rw [eTm, gQ]; simp) ?_);rw [wNi];refine hK2 _ w ?_;refine h K Q _ w v xs (by simp only [sPu]; exact hN) (by simp only [dPu]; exact hd) (Ctx.on_cons ?_ (gQ)) ?_ hst hbd fun a' w' v' n' d' c' g' s' => hK a' w' v' n' d' (Ctx.on_tail c') g' s'
  · exact Ctx.on_put (Ctx.on_put (Ctx.on_put (Ctx.on_put (Ctx.on_put (Ctx.on_put hc q1 (.inl (by omega))) q1 (.inr (by simp))) q1 (.inl (by omega))) q1 (.inl (by omega))) q1 (.inl (by omega))) q1 (.inr (by simp))
  rw [gPn q7, gR, gR, gR, gPn q6, gR]; exact hv
theorem ApC.elemV {b o i len cap bs I' : Nat} {T T1 et : TypeId} (hL : (L, Value.slice (some ⟨b, o, none⟩) len cap) ∈ c) (hS : (s, Value.int .i64 (i : Int)) ∈ c) (hi : i < len) (hT : sliceOf P T et 1 bs = true) (hT1 : scal P T1 = true) (hcell : e.w0.cell? ⟨b, o + i, none⟩ = some cv) (hB : e.B b)
    (hb : (c.free n [I', m, 1] && decide (I' < n) && decide (m < n) && decide (1 < n) && decide (n + 4 < N) && decide (I' ≠ 1) && decide (m ≠ 1) && decide (m ≠ I')) = true) (h : ApC P N e ((m, cv) :: c) k ys) :
    ApC P N e c (.seq (Code.region id ⟨[oM n s t0 p0 e0, ⟨some I', .assign (.tmp n), t1, p1, e1, none⟩]⟩ false) (.seq (Code.region id1 ⟨[oM (n + 1) L t2 p2 e2, ⟨some (n + 2), .move (.tmp I'), t3, p3, e3, none⟩, ⟨some (n + 3), .indexAddr T (.tmp (n + 1)) (.tmp (n + 2)), t4, p4, e4, none⟩, oL (n + 4) T1 (n + 3) t6 p6 e6, oT m (n + 4) t5 p5 e5]⟩ false) k)) ys := by
  intro K Q a w v xs hN hd hc hv hst hbd hK;simp only [Bool.and_eq_true, decide_eq_true_eq] at hb;obtain ⟨⟨⟨⟨⟨⟨⟨q1, q2⟩, q3⟩, q4⟩, q5⟩, q6⟩, q7⟩, q8⟩ := hb;have hLn := Ctx.lt q1 hL;have hSn := (Ctx.lt q1 hS).1;simp only [List.mem_cons, not_or] at hLn hSn;refine wS fun K1 hK1 => ?_;refine wC (wMv (v := .int .i64 (i : Int)) (by rw [eTm]; exact hc _ hS) ?_);refine wC (wAs (v := .int .i64 (i : Int)) (by rw [eTm, gQ]) ?_);rw [wNi];refine hK1 _ w ?_;refine wS fun K2 hK2 => ?_;refine wC (wMv (v := .slice (some ⟨b, o, none⟩) len cap) (by rw [eTm, gPn (fun h => hLn.2.1 h.symm), gR]; exact hc _ hL) ?_);refine wC (wMv (v := .int .i64 (i : Int)) (by rw [eTm, gR, gQ]) ?_);refine wC (wp_indexAddr hT (b := b) (o := o) (i := (i : Int)) (by rw [eTm, gR, gQ]) (by rw [eTm, gQ]) (by omega) (by omega) ?_);refine wC (wp_load hT1 (b := b) (o := o + i) (v := cv) (by rw [eTm, gQ]; simp) (hst.cell hB hcell) ?_);refine wC (wAs (v := cv) (by rw [eTm, gQ]) ?_);rw [wNi];refine hK2 _ w ?_;refine h K Q _ w v xs (by simp only [sPu]; exact hN) (by simp only [dPu]; exact hd) (Ctx.on_cons ?_ (gQ)) ?_ hst hbd fun a' w' v' n' d' c' g' s' => hK a' w' v' n' d' (Ctx.on_tail c') g' s'
  · exact Ctx.on_put (Ctx.on_put (Ctx.on_put (Ctx.on_put (Ctx.on_put (Ctx.on_put (Ctx.on_put hc q1 (.inl (by omega))) q1 (.inr (by simp))) q1 (.inl (by omega))) q1 (.inl (by omega))) q1 (.inl (by omega))) q1 (.inl (by omega))) q1 (.inr (by simp))
  rw [gPn q7, gR, gR, gR, gR, gPn q6, gR]; exact hv
end
end Go.Kq

namespace Go.Kq
open Go Go.Proofs
def tagW (p : Nat × List UInt8) : List UInt8 := uvW p.1 ++ (uvW p.2.length ++ p.2)
def tagsW (l : List (Nat × List UInt8)) : List UInt8 := (l.map tagW).flatten
theorem tagsW_len : ∀ l : List (Nat × List UInt8), l.length * 2 ≤ (tagsW l).length
  | [] => by simp [tagsW]
  | p :: l => by
    have h1 := uvW_pos p.1;have h2 := uvW_pos p.2.length;have h3 := tagsW_len l;simp only [tagsW, List.map_cons, List.flatten_cons, tagW, List.length_append, List.length_cons] at h3 ⊢;omega
structure TagLen (P : Program) (f : FuncId) : Prop where
  enters : Enters P f
  call : ∀ (w : World) (B : Nat → Prop) (b o : Nat) (c : Value) (x : V), w.cell? ⟨b, o, none⟩ = some c → Rep w B .tags [c] x → Calls P f #[.pointer (some ⟨b, o, none⟩)] w fun e w' => e = .returned (.int .i64 ((tagsT x).length : Nat)) ∧ w' = w
structure TagEach (P : Program) (f : FuncId) : Prop where
  enters : Enters P f
  call : ∀ (w : World) (A B : Nat → Prop) (b o : Nat) (c : Value) (x : V) (dst : Value) (xs : List UInt8), w.cell? ⟨b, o, none⟩ = some c → Rep w B .tags [c] x → B b → Own w A 1 dst xs.length (octets xs) →
    (∀ b, A b → ¬ B b) → (∀ b, B b → b < w.heap.size) → (∀ b, A b → b < w.heap.size) → (xs ++ tagsW (tagsT x)).length < 4294967296 → Calls P f #[.pointer (some ⟨b, o, none⟩), dst] w (Apd w A dst (xs ++ tagsW (tagsT x)))
def apTags (x : V) : List UInt8 := uvW (tagsT x).length ++ tagsW (tagsT x)
def FA (e : AE) (b o : Nat) (ty : Ty) (x : V) : Prop := ∃ cs, e.w0.rangeAt b o cs ∧ Rep e.w0 e.B ty cs x
theorem FA.one {e : AE} {b o : Nat} {ty : Ty} {x : V} (h : FA e b o ty x) (hs : ty.size = 1) : ∃ c, e.w0.cell? ⟨b, o, none⟩ = some c ∧ Rep e.w0 e.B ty [c] x := by
  obtain ⟨cs, h1, h2⟩ := h;have := h2.length;rw [hs] at this
  match cs, this with
  | [c], _ => exact ⟨c, range_one.1 h1, h2⟩
section
variable {P : Program} {N n m s L R id id1 id2 b0 b1 pb po fi o : Nat} {e : AE} {c : Ctx} {k k1 k2 : Code} {ys y1 y2 : List UInt8} {cv : Value}
  {t0 t1 t2 t3 t4 t5 t6 t7 t8 t9 : TypeId} {p0 p1 p2 p3 p4 p5 p6 p7 p8 p9 : String} {e0 e1 e2 e3 e4 e5 e6 e7 e8 e9 : Array Edge}
theorem ApC.tags1 {flen fuv : FuncId} {S T1 T2 T3 T4 : TypeId} {a0 a1 : Array TypeId} {x : V} (hs : (s, Value.pointer (some ⟨pb, po, none⟩)) ∈ c) (hF : fieldOf P S fi o = true) (hx : FA e pb (po + o) .tags x) (hB : e.B pb) (hl : TagLen P flen) (hu : ApU P fuv)
    (h1 : intOf P T1 .i64 = true) (h2 : intOf P T2 .u32 = true) (hn : (tagsT x).length < 4294967296) (hb : (c.free n [1] && decide (1 < n) && decide (n + 7 < N)) = true) :
    ApC P N e c (Code.region id ⟨[oM n 1 t0 p0 e0, oM (n + 1) s t1 p1 e1, ⟨some (n + 2), .nilCheck (.tmp (n + 1)), t2, p2, e2, none⟩, oF (n + 3) S (n + 2) fi t3 p3 e3,
      oC (n + 4) flen #[.tmp (n + 3)] a0 t4 p4 e4, ⟨some (n + 5), .convert T1 T2 (.tmp (n + 4)), t5, p5, e5, none⟩, ⟨some (n + 6), .binOp .add T3 (.const (.int .u32 0)) (.tmp (n + 5)) T4, t6, p6, e6, none⟩,
      oC (n + 7) fuv #[.tmp n, .tmp (n + 6)] a1 t7 p7 e7, oT 1 (n + 7) t8 p8 e8]⟩ false) (uvW (tagsT x).length) := by
  intro K Q a w v xs hN hd hc hv hst hbd hK;simp only [Bool.and_eq_true, decide_eq_true_eq] at hb;obtain ⟨⟨q1, q2⟩, q3⟩ := hb;have hsn := (Ctx.lt q1 hs).1;simp only at hsn;obtain ⟨cc, hcc, hrr⟩ := hx.one rfl;refine wp_reg ?_;refine wC (wMv (v := v) (by rw [eTm]; exact hv) ?_);refine wC (wMv (v := .pointer (some ⟨pb, po, none⟩)) (by rw [eTm, gR]; exact hc _ hs) ?_);refine wC (wNc (q := ⟨pb, po, none⟩) (by rw [eTm, gQ]) ?_);refine wC (wFa hF (b := pb) (i := po) (by rw [eTm, gQ]) ?_);rw [wCo];refine wCr (vs := #[.pointer (some ⟨pb, po + o, none⟩)]) (R := fun x' w' => x' = .int .i64 ((tagsT x).length : Nat) ∧ w = w') hl.enters (by simp only [List.map_toArray, List.map_cons, List.map_nil, eTm]; rw [gQ])
    ((hl.call w e.B pb (po + o) cc x (hst.cell hB hcc) (hst.rep hrr)).mono (by rintro e' w' ⟨rfl, rfl⟩; exact ⟨_, rfl, rfl, rfl⟩)) ?_
  rintro _ _ ⟨rfl, rfl⟩;refine wC (wCv (k1 := .i64) (i := ((tagsT x).length : Nat)) h1 h2 (by rw [eTm, gQ]) ?_);rw [show IntKind.u32.wrap (((tagsT x).length : Nat) : Int) = (((tagsT x).length : Nat) : Int) from by simp only [IntKind.wrap, IntKind.bits, IntKind.signed]; simp; omega];refine wC (wp_add (k1 := .u32) (i := 0) (j := ((tagsT x).length : Nat)) (eCo _ _) (by rw [eTm, gQ]) ?_);rw [show IntKind.u32.wrap (0 + (((tagsT x).length : Nat) : Int)) = (((tagsT x).length : Nat) : Int) from by simp only [IntKind.wrap, IntKind.bits, IntKind.signed]; simp; omega];rw [wCo];refine wCr (vs := #[v, .int .u32 ((tagsT x).length : Nat)]) hu.enters (by simp only [List.map_toArray, List.map_cons, List.map_nil, eTm]; rw [gR, gR, gR, gR, gR, gR, gQ, gQ])
    (Apd.ret (hu.call w _ v xs (tagsT x).length hst.own hn (Nat.le_of_lt hbd))) ?_
  intro v' w' hr;refine wC (wAs (v := v') (by rw [eTm, gQ]) ?_);rw [wNi];exact ApC.done (c := c) (by simp only [sPu]; exact hN) (by simp only [dPu]; exact hd)
    (Ctx.on_put (Ctx.on_put (Ctx.on_put (Ctx.on_put (Ctx.on_put (Ctx.on_put (Ctx.on_put (Ctx.on_put (Ctx.on_put hc q1 (.inl (by omega))) q1 (.inl (by omega))) q1 (.inl (by omega))) q1 (.inl (by omega))) q1 (.inl (by omega))) q1 (.inl (by omega))) q1 (.inl (by omega))) q1 (.inl (by omega))) q1 (.inr (by simp)))
    (gQ) hst hK hr
theorem ApC.tags2 {feach : FuncId} {S : TypeId} {a0 : Array TypeId} {x : V} (hs : (s, Value.pointer (some ⟨pb, po, none⟩)) ∈ c) (hF : fieldOf P S fi o = true) (hx : FA e pb (po + o) .tags x) (hB : e.B pb) (hE : TagEach P feach)
    (hb : (c.free n [1] && decide (1 < n) && decide (n + 4 < N)) = true) :
    ApC P N e c (Code.region id ⟨[oM n s t0 p0 e0, ⟨some (n + 1), .nilCheck (.tmp n), t1, p1, e1, none⟩, oF (n + 2) S (n + 1) fi t2 p2 e2, oM (n + 3) 1 t3 p3 e3,
      oC (n + 4) feach #[.tmp (n + 2), .tmp (n + 3)] a0 t4 p4 e4, oT 1 (n + 4) t5 p5 e5]⟩ false) (tagsW (tagsT x)) := by
  intro K Q a w v xs hN hd hc hv hst hbd hK;simp only [Bool.and_eq_true, decide_eq_true_eq] at hb;obtain ⟨⟨q1, q2⟩, q3⟩ := hb;have hsn := (Ctx.lt q1 hs).1;simp only at hsn;obtain ⟨cc, hcc, hrr⟩ := hx.one rfl;refine wp_reg ?_;refine wC (wMv (v := .pointer (some ⟨pb, po, none⟩)) (by rw [eTm]; exact hc _ hs) ?_);refine wC (wNc (q := ⟨pb, po, none⟩) (by rw [eTm, gPs (by first | omega | (simp only [sPu]; omega))]) ?_);refine wC (wFa hF (b := pb) (i := po) (by rw [eTm, gQ]) ?_);refine wC (wMv (v := v) (by rw [eTm, gR, gR, gR]; exact hv) ?_);rw [wCo];refine wCr (vs := #[.pointer (some ⟨pb, po + o, none⟩), v]) hE.enters (by simp only [List.map_toArray, List.map_cons, List.map_nil, eTm]; rw [gR, gQ, gQ])
    (Apd.ret (hE.call w _ e.B pb (po + o) cc x v xs (hst.cell hB hcc) (hst.rep hrr) hB hst.own hst.apart hst.ltw hst.ltA hbd)) ?_
  intro v' w' hr;refine wC (wAs (v := v') (by rw [eTm, gQ]) ?_);rw [wNi];exact ApC.done (c := c) (by simp only [sPu]; exact hN) (by simp only [dPu]; exact hd)
    (Ctx.on_put (Ctx.on_put (Ctx.on_put (Ctx.on_put (Ctx.on_put (Ctx.on_put hc q1 (.inl (by omega))) q1 (.inl (by omega))) q1 (.inl (by omega))) q1 (.inl (by omega))) q1 (.inl (by omega))) q1 (.inr (by simp)))
    (gQ) hst hK hr
theorem ApC.fits (h : ys.length < 4294967296 → ApC P N e c k ys) : ApC P N e c k ys := by
  intro K Q a w v xs hN hd hc hv hst hbd hK;exact h (by rw [List.length_append] at hbd; omega) K Q a w v xs hN hd hc hv hst hbd hK
theorem ApC.on {r : Bool} {op : BinOp} {i j : Int} {kd : IntKind} {T T' : TypeId} (hs : (s, Value.int kd i) ∈ c) (hop : cmpR op i j = some r) (hb : (c.free n [1] && decide (1 < n) && decide (n + 1 < N)) = true) (h1 : r = true → ApC P N e c k1 ys) :
    ApC P N e c (.seq (Code.region id ⟨[oM n s t0 p0 e0, ⟨some (n + 1), .binOp op T (.tmp n) (.const (.int kd j)) T', t1, p1, e1, none⟩]⟩ false) (.cond (.tmp (n + 1)) k1 .skip)) (if r then ys else []) := by
  refine ApC.gate hs hop hb (fun h => ?_) (fun h => ?_)
  · rw [if_pos h]; exact h1 h
  rw [if_neg (by simp [h])]; exact ApC.skip
theorem ApC.onB {b : Bool} (hs : (s, Value.bool b) ∈ c) (hb : (c.free n [1] && decide (1 < n) && decide (n < N)) = true) (h1 : b = true → ApC P N e c k1 ys) :
    ApC P N e c (.seq (Code.region id ⟨[oM n s t0 p0 e0]⟩ false) (.cond (.tmp n) k1 .skip)) (if b then ys else []) := by
  refine ApC.cond hs hb (fun h => ?_) (fun h => ?_)
  · rw [if_pos h]; exact h1 h
  rw [if_neg (by simp [h])]; exact ApC.skip
theorem ApC.two {b : Bool} (hs : (s, Value.bool b) ∈ c) (hb : (c.free n [1] && decide (1 < n) && decide (n < N)) = true) (h1 : b = true → ApC P N e c k1 y1) (h2 : b = false → ApC P N e c k2 y2) :
    ApC P N e c (.seq (Code.region id ⟨[oM n s t0 p0 e0]⟩ false) (.cond (.tmp n) k1 k2)) (if b then y1 else y2) := by
  refine ApC.cond hs hb (fun h => ?_) (fun h => ?_)
  · rw [if_pos h]; exact h1 h
  rw [if_neg (by simp [h])]; exact h2 h
def apInt (sz : Nat) : V → List UInt8 | .n i => fxW i sz | _ => []
def apAll : List (V → List UInt8) → List V → List UInt8
  | g :: gs, x :: xs => g x ++ apAll gs xs
  | _, _ => []
def apSt (gs : List (V → List UInt8)) : V → List UInt8 | .l xs => apAll gs xs | _ => []
def ApS (P : Program) (N : Nat) (e : AE) (c : Ctx) (k : Code) (pb o : Nat) (tys : List Ty) (gs : List (V → List UInt8)) : Prop :=
  ∀ xs, (∃ z, e.w0.rangeAt pb o z ∧ Reps e.w0 e.B tys z xs) → ApC P N e c k (apAll gs xs)
theorem ApS.cons {ty : Ty} {tys : List Ty} {g : V → List UInt8} {gs : List (V → List UInt8)} {o' : Nat} (ho : o' = o + ty.size) (h1 : ∀ x, FA e pb o ty x → ApC P N e c k1 (g x)) (h2 : ApS P N e c k2 pb o' tys gs) : ApS P N e c (.seq k1 k2) pb o (ty :: tys) (g :: gs) := by
  rintro xs ⟨z, hz1, d1, d2, x, r, rfl, rfl, hr1, hr2⟩;rw [range_append] at hz1;subst ho;exact ApC.seq (h1 x ⟨d1, hz1.1, hr1⟩) (h2 r ⟨d2, by rw [← hr1.length]; exact hz1.2, hr2⟩)
theorem ApS.one {ty : Ty} {g : V → List UInt8} (h1 : ∀ x, FA e pb o ty x → ApC P N e c k1 (g x)) : ApS P N e c k1 pb o [ty] [g] := by
  rintro xs ⟨z, hz1, d1, d2, x, r, rfl, rfl, hr1, rfl, rfl⟩;rw [range_append] at hz1;have := h1 x ⟨d1, hz1.1, hr1⟩
  simpa [apAll] using this
def ApR (P : Program) (N R : Nat) (e : AE) (c : Ctx) (k : Code) (ys : List UInt8) : Prop :=
  ∀ (Q : Exit → Act → World → Prop) (a : Act) (w : World) (v : Value) (xs : List UInt8),
    a.tmps.size = N → a.defers = [] → c.on a → get a 1 = v → ASt e xs v w → (xs ++ ys).length < 4294967296 →
    (∀ a' w' v', a'.defers = [] → get a' R = v' → ASt e (xs ++ ys) v' w' → Q .ret a' w') → k.wp P Q a w
theorem ApR.seq (h1 : ApC P N e c k1 y1) (h2 : ApR P N R e c k2 y2) : ApR P N R e c (.seq k1 k2) (y1 ++ y2) := by
  intro Q a w v xs hN hd hc hv hs hb hK;refine tId (wp_seq_k fun K1 hK1 => ?_);refine h1 K1 _ a w v xs hN hd hc hv hs (by simp only [List.length_append] at hb ⊢; omega) fun a1 w1 v1 n1 d1 c1 g1 s1 => hK1 a1 w1 (tUp ?_);exact h2 Q a1 w1 v1 _ n1 d1 c1 g1 s1 (by rw [List.append_assoc]; exact hb) fun a2 w2 v2 d2 g2 s2 => hK a2 w2 v2 d2 g2 (by rw [← List.append_assoc]; exact s2)
theorem ApR.ret (hb : (decide (1 < n) && decide (n < N) && decide (R < N) && decide (R ≠ n)) = true) : ApR P N R e c (.seq (Code.region id ⟨[oM n 1 t0 p0 e0, oT R n t1 p1 e1]⟩ false) .ret) [] := by
  intro Q a w v xs hN hd hc hv hs hbd hK;simp only [Bool.and_eq_true, decide_eq_true_eq] at hb;obtain ⟨⟨⟨b1, b2⟩, b3⟩, b4⟩ := hb;refine wT fun K1 hK1 => ?_;refine wC (wMv (v := v) (by rw [eTm]; exact hv) ?_);refine wC (wAs (v := v) (by rw [eTm, gQ]) ?_);rw [wNi];refine hK1 _ _ (wp_ret ?_);exact hK _ w v (by simp only [dPu]; exact hd) (gQ) (by rw [List.append_nil]; exact hs)
theorem ApR.asg {x : Value} (hb : (c.free N [L, 1] && decide (L < N) && decide (L ≠ 1)) = true) (h : ApR P N R e ((L, x) :: c) k ys) : ApR P N R e c (.seq (Code.region id ⟨[oA L (.const x) t0 p0 e0]⟩ false) k) ys := by
  intro Q a w v xs hN hd hc hv hs hbd hK;simp only [Bool.and_eq_true, decide_eq_true_eq] at hb;obtain ⟨⟨b1, b2⟩, b3⟩ := hb;refine wT fun K1 hK1 => ?_;refine wC (wAs (v := x) (eCo _ _) ?_);rw [wNi];refine hK1 _ _ (tUp ?_);exact h Q _ w v xs (by simp only [sPu]; exact hN) (by simp only [dPu]; exact hd) (Ctx.on_cons (Ctx.on_put hc b1 (.inr (by simp))) (gQ)) (by rw [gPn b3]; exact hv) hs hbd hK
theorem ApR.nop (hb : (c.free n [1] && decide (1 < n) && decide (n < N)) = true) (h : ApR P N R e c k ys) : ApR P N R e c (.seq (Code.region id ⟨[oM n s t0 p0 e0]⟩ false) k) ys := by
  intro Q a w v xs hN hd hc hv hs hbd hK;simp only [Bool.and_eq_true, decide_eq_true_eq] at hb;obtain ⟨⟨b1, b2⟩, b3⟩ := hb;refine wT fun K1 hK1 => ?_;rw [wCo, wMw, wNi];refine hK1 _ _ (tUp ?_);exact h Q _ w v xs (by simp only [sPu]; exact hN) (by simp only [dPu]; exact hd) (Ctx.on_put hc b1 (.inl (by omega))) (by rw [gR]; exact hv) hs hbd hK
theorem ApR.flag {op : BinOp} {i j : Int} {r : Bool} {kd : IntKind} {T T' : TypeId} (hs : (s, Value.int kd i) ∈ c) (hop : cmpR op i j = some r) (hb : (c.free n [L, 1] && decide (1 < n) && decide (n + 1 < N) && decide (L < n) && decide (L ≠ 1)) = true) (h : ApR P N R e ((L, .bool r) :: c) k ys) :
    ApR P N R e c (.seq (Code.region id ⟨[oM n s t0 p0 e0, ⟨some (n + 1), .binOp op T (.tmp n) (.const (.int kd j)) T', t1, p1, e1, none⟩, oT L (n + 1) t2 p2 e2]⟩ false) k) ys := by
  intro Q a w v xs hN hd hc hv hst hbd hK;simp only [Bool.and_eq_true, decide_eq_true_eq] at hb;obtain ⟨⟨⟨⟨b1, b2⟩, b3⟩, b4⟩, b5⟩ := hb;refine wT fun K1 hK1 => ?_;refine wC (wMv (v := .int kd i) (by rw [eTm]; exact hc _ hs) ?_);refine wC (wp_cmp hop (by rw [eTm, gQ]) (eCo _ _) ?_);refine wC (wAs (v := .bool r) (by rw [eTm, gQ]) ?_);rw [wNi];refine hK1 _ _ (tUp ?_);exact h Q _ w v xs (by simp only [sPu]; exact hN) (by simp only [dPu]; exact hd) (Ctx.on_cons (Ctx.on_put (Ctx.on_put (Ctx.on_put hc b1 (.inl (by omega))) b1 (.inl (by omega))) b1 (.inr (by simp))) (gQ)) (by rw [gPn b5, gR, gR]; exact hv) hst hbd hK
theorem ApR.load {S T : TypeId} (hs : (s, Value.pointer (some ⟨pb, po, none⟩)) ∈ c) (hF : fieldOf P S fi o = true) (hT : scal P T = true) (hcell : e.w0.cell? ⟨pb, po + o, none⟩ = some cv) (hB : e.B pb)
    (hb : (c.free n [L, 1] && decide (L < n) && decide (1 < n) && decide (n + 3 < N) && decide (L ≠ 1)) = true) (h : ApR P N R e ((L, cv) :: c) k ys) :
    ApR P N R e c (.seq (Code.region id ⟨[oM n s t0 p0 e0, ⟨some (n + 1), .nilCheck (.tmp n), t1, p1, e1, none⟩, oF (n + 2) S (n + 1) fi t2 p2 e2, oL (n + 3) T (n + 2) t3 p3 e3,
      oT L (n + 3) t4 p4 e4]⟩ false) k) ys := by
  intro Q a w v xs hN hd hc hv hst hbd hK;simp only [Bool.and_eq_true, decide_eq_true_eq] at hb;obtain ⟨⟨⟨⟨b1, b2⟩, b3⟩, b4⟩, b5⟩ := hb;refine wT fun K1 hK1 => ?_;refine wC (wMv (v := .pointer (some ⟨pb, po, none⟩)) (by rw [eTm]; exact hc _ hs) ?_);refine wC (wNc (q := ⟨pb, po, none⟩) (by rw [eTm, gQ]) ?_);refine wC (wFa hF (b := pb) (i := po) (by rw [eTm, gQ]) ?_);refine wC (wp_load hT (by rw [eTm, gQ]) (hst.cell hB hcell) ?_);refine wC (wAs (v := cv) (by rw [eTm, gQ]) ?_);rw [wNi];refine hK1 _ w (tUp ?_);exact h Q _ w v xs (by simp only [sPu]; exact hN) (by simp only [dPu]; exact hd) (Ctx.on_cons (Ctx.on_put (Ctx.on_put (Ctx.on_put (Ctx.on_put (Ctx.on_put hc b1 (.inl (by omega))) b1 (.inl (by omega))) b1 (.inl (by omega))) b1 (.inl (by omega))) b1 (.inr (by simp))) (gQ))
    (by rw [gPn b5, gR, gR, gR, gR]; exact hv) hst hbd hK
def ApSR (P : Program) (N R : Nat) (e : AE) (c : Ctx) (k : Code) (pb o : Nat) (tys : List Ty) (gs : List (V → List UInt8)) : Prop :=
  ∀ xs, (∃ z, e.w0.rangeAt pb o z ∧ Reps e.w0 e.B tys z xs) → ApR P N R e c k (apAll gs xs)
theorem ApSR.cons {ty : Ty} {tys : List Ty} {g : V → List UInt8} {gs : List (V → List UInt8)} {o' : Nat} (ho : o' = o + ty.size) (h1 : ∀ x, FA e pb o ty x → ApC P N e c k1 (g x)) (h2 : ApSR P N R e c k2 pb o' tys gs) : ApSR P N R e c (.seq k1 k2) pb o (ty :: tys) (g :: gs) := by
  rintro xs ⟨z, hz1, d1, d2, x, r, rfl, rfl, hr1, hr2⟩;rw [range_append] at hz1;subst ho;exact ApR.seq (h1 x ⟨d1, hz1.1, hr1⟩) (h2 r ⟨d2, by rw [← hr1.length]; exact hz1.2, hr2⟩)
theorem ApSR.nil (h : ApR P N R e c k []) : ApSR P N R e c k pb o [] [] := by
  rintro xs _; exact h
end
structure AppM (P : Program) (f : FuncId) (ty : Ty) (g : V → List UInt8) (ver : Int) : Prop where
  enters : Enters P f
  call : ∀ (w : World) (A B : Nat → Prop) (pb po : Nat) (cs : List Value) (xs0 : List V) (dst : Value) (xs : List UInt8), w.rangeAt pb po cs → Rep w B ty cs (.l (.n ver :: xs0)) → B pb → Own w A 1 dst xs.length (octets xs) →
    (∀ b, A b → ¬ B b) → (∀ b, B b → b < w.heap.size) → (∀ b, A b → b < w.heap.size) → (xs ++ g (.l (.n ver :: xs0))).length < 4294967296 →
    Calls P f #[.pointer (some ⟨pb, po, none⟩), dst] w (Apd w A dst (xs ++ g (.l (.n ver :: xs0))))
theorem app_root {P : Program} {f : FuncId} {fn : Func} {N R : Nat} {k : Code} {tys : List Ty} {gs : List (V → List UInt8)} {ver : Int} (hf : P.funcs[f]? = some fn) (hname : (fn.name == "runtime.NumGoroutine") = false) (hres : fn.results = #[.tmp R]) (hN : fn.ntmps = N) (hbody : fn.body = some k) (hN2 : 2 ≤ N)
    (h : ∀ (e : AE) (pb po : Nat), e.B pb → e.w0.cell? ⟨pb, po, none⟩ = some (.int .i16 ver) → ApSR P N R e [(0, .pointer (some ⟨pb, po, none⟩))] k pb (po + 1) tys gs) : AppM P f (.st (.int .i16 :: tys)) (apSt ((fun _ => []) :: gs)) ver := by
  refine ⟨enters_of hf hname hbody, ?_⟩;intro w A B pb po cs xs0 dst xs hcs hr hpb own hAB hB hA hb;refine calls_of_wp hf hbody ?_;generalize ha0 : ({ tmps := #[Value.pointer (some ⟨pb, po, none⟩), dst] ++ Array.replicate (fn.ntmps - (#[Value.pointer (some ⟨pb, po, none⟩), dst] : Array Value).size) undef, defers := [] } : Act) = a0;have hz0 : a0.tmps.size = N := by subst ha0; simp [hN]; omega
  have hd0 : a0.defers = [] := by subst ha0; rfl
  have g0 : get a0 0 = .pointer (some ⟨pb, po, none⟩) := by subst ha0; exact gAr rfl
  have g1 : get a0 1 = dst := by subst ha0; exact gAr rfl
  obtain ⟨xs1, hx1, d1, d2, x, r, rfl, rfl, ⟨i, rfl, rfl, _⟩, hr2⟩ := hr
  cases hx1
  rw [range_append, range_one] at hcs;refine h ⟨w, A, B, dst⟩ pb po hpb hcs.1 xs0 ⟨d2, hcs.2, hr2⟩ _ a0 w dst xs hz0 hd0 (by intro s hs; simp at hs; subst hs; exact g0) g1 ⟨⟨hAB, hB, hA, own.spare_in⟩, Fr.refl _ _, own.imp_A fun _ h => .inl h, fun r h => Rng.in_self h⟩ (by simpa [apSt, apAll] using hb) ?_;intro a' w' v' hd' hR hst;refine ⟨hd', _, rIs hres hR, _, rfl, hst.fr, ?_, hst.inn⟩;have h2 : apSt ((fun _ => []) :: gs) (.l (.n ver :: xs0)) = apAll gs xs0 := by simp [apSt, apAll]
  rw [h2];exact hst.own
end Go.Kq

namespace Go.Kq
open Go Go.Proofs
theorem Entries.at {w : World} {A : Nat → Prop} : ∀ {es : List MapEntry} {kv : List (Nat × V)}, Entries w A es kv → ∀ {j : Nat} {e : MapEntry}, es[j]? = some e → ∃ k x, kv[j]? = some (k, .oct x) ∧ k < 4294967296 ∧ e.key = .int .u32 k ∧ OctsV w A e.val x
  | [], kv, h, j, e, he => by simp at he
  | e0 :: es, kv, h, j, e, he => by
    obtain ⟨k, x, r, rfl, h2, h3, h4, h5⟩ := h
    cases j with
    | zero => simp at he; subst he; exact ⟨k, x, rfl, h2, h3, h4⟩
    | succ j => simpa using h5.at (by simpa using he)
theorem Entries.len {w : World} {A : Nat → Prop} : ∀ {es : List MapEntry} {kv : List (Nat × V)}, Entries w A es kv → es.length = kv.length
  | [], kv, h => by have : kv = [] := h; subst this; rfl
  | e0 :: es, kv, h => by obtain ⟨k, x, r, rfl, h2, h3, h4, h5⟩ := h; simp [h5.len]
theorem Entries.small {w : World} {A : Nat → Prop} : ∀ {es : List MapEntry} {kv : List (Nat × V)}, Entries w A es kv → ∀ p ∈ kv, p.1 < 4294967296
  | [], kv, h, p, hp => by have : kv = [] := h; subst this; cases hp
  | e0 :: es, kv, h, p, hp => by
    obtain ⟨k, x, r, rfl, h2, h3, h4, h5⟩ := h
    rcases List.mem_cons.1 hp with rfl | hp
    · exact h2
    exact h5.small p hp
theorem Entries.set {w : World} {A : Nat → Prop} {v : Value} {x : Option (List UInt8)} (hv : OctsV w A v x) : ∀ {es : List MapEntry} {kv : List (Nat × V)} {j k : Nat} {e : MapEntry}, Entries w A es kv → es[j]? = some e → e.key = .int .u32 k → k < 4294967296 →
    Entries w A (es.set j { e with key := .int .u32 k, val := v }) (kv.set j (k, .oct x))
  | [], kv, j, k, e, h, he, _, _ => by simp at he
  | e0 :: es, kv, 0, k, e, h, he, hk, hl => by
    obtain ⟨k', x', r, rfl, h2, h3, h4, h5⟩ := h;simp at he; subst he
    exact ⟨k, x, r, rfl, hl, rfl, hv, h5⟩
  | e0 :: es, kv, j + 1, k, e, h, he, hk, hl => by
    obtain ⟨k', x', r, rfl, h2, h3, h4, h5⟩ := h;exact ⟨k', x', _, rfl, h2, h3, h4, Entries.set hv h5 (by simpa using he) hk hl⟩
theorem Entries.push {w : World} {A : Nat → Prop} {v : Value} {x : Option (List UInt8)} {k b : Nat} (hv : OctsV w A v x) (hk : k < 4294967296) : ∀ {es : List MapEntry} {kv : List (Nat × V)}, Entries w A es kv →
    Entries w A (es ++ [{ key := .int .u32 k, val := v, born := b }]) (kv ++ [(k, .oct x)])
  | [], kv, h => by have : kv = [] := h; subst this; exact ⟨k, x, [], rfl, hk, rfl, hv, rfl⟩
  | e0 :: es, kv, h => by
    obtain ⟨k', x', r, rfl, h2, h3, h4, h5⟩ := h;exact ⟨k', x', _, rfl, h2, h3, h4, h5.push hv hk⟩
theorem find_tags {w : World} {A : Nat → Prop} {q : IntKind} {k : Nat} : ∀ {es : List MapEntry} {kv : List (Nat × V)} {i : Nat}, Entries w A es kv →
    (∃ j e, es[j]? = some e ∧ e.key = .int .u32 k ∧ Instr.findNow (.int q) (.int .u32 (k : Int)) es i = some (some (i + j, e.val))) ∨
    (Instr.findNow (.int q) (.int .u32 (k : Int)) es i = some none ∧ ∀ p ∈ kv, p.1 ≠ k)
  | [], kv, i, h => by
    have : kv = [] := h;subst this;exact .inr ⟨rfl, by simp⟩
  | e0 :: es, kv, i, h => by
    obtain ⟨k', x', r, rfl, h2, h3, h4, h5⟩ := h
    by_cases hk : k = k'
    · subst hk;refine .inl ⟨0, e0, rfl, h3, ?_⟩;simp [Instr.findNow, h3, Instr.sameNow]
    have hf : Instr.findNow (.int q) (.int .u32 (k : Int)) (e0 :: es) i = Instr.findNow (.int q) (.int .u32 (k : Int)) es (i + 1) := by
      have : ((k : Int) == (k' : Int)) = false := by simp; omega
      simp [Instr.findNow, h3, Instr.sameNow, this]
    rw [hf]
    rcases find_tags (i := i + 1) h5 with ⟨j, e, he, hke, hr⟩ | ⟨hr, hn⟩
    · exact .inl ⟨j + 1, e, by simpa using he, hke, by rw [hr]; congr 3; omega⟩
    refine .inr ⟨hr, fun p hp => ?_⟩
    rcases List.mem_cons.1 hp with rfl | hp
    · exact fun e => hk e.symm
    exact hn p hp
def TagM (w : World) (A : Nat → Prop) (r : Nat) (kv : List (Nat × V)) : Prop := ∃ es clock, w.heap[r]? = some (.map es clock) ∧ Entries w A es.toList kv ∧ TagOk es clock kv
theorem TagM.kept {w w' : World} {A A' : Nat → Prop} {r : Nat} {kv : List (Nat × V)} {l : List Rng} (h : TagM w A r kv) (hf : Fr l w w') (hl : ∀ x ∈ l, ¬ A x.b) (hr : ∀ x ∈ l, x.b ≠ r) (hA : ∀ b, A b → A' b) : TagM w' A' r kv := by
  obtain ⟨es, clock, h1, h2, h3⟩ := h;exact ⟨es, clock, by rw [hf.block r (lt_of_block h1) hr]; exact h1, h2.kept hf hl hA, h3⟩
theorem TagM.lt {w : World} {A : Nat → Prop} {r : Nat} {kv : List (Nat × V)} (h : TagM w A r kv) : r < w.heap.size := by
  obtain ⟨es, clock, h1, _⟩ := h; exact lt_of_block h1
def mapOf (P : Program) (T kt et : TypeId) : Bool := (match P.underlying T with | some (.map k e) => k == kt && e == et | _ => false) && intOf P kt .u32
theorem under_map {P : Program} {T kt et : TypeId} (h : mapOf P T kt et = true) : P.underlying T = some (.map kt et) ∧ P.underlying kt = some (.int .u32) := by
  unfold mapOf at h;simp only [Bool.and_eq_true] at h;refine ⟨?_, under_int h.2⟩
  cases hu : P.underlying T with
  | none => simp [hu] at h
  | some d => cases d <;> simp [hu] at h; obtain ⟨⟨rfl, rfl⟩, _⟩ := h; rfl
variable {P : Program} {a : Act} {w : World} {K : Act → World → Prop} {Q : Exit → Act → World → Prop} {d : Option Tmp} {t : TypeId} {p : String} {af : Array Edge} {g : Option (Nat × Bool)}
theorem setBlock_fr (w : World) (r : Nat) (o : Obj) (h : ∀ cs T fz, w.heap[r]? ≠ some (.cells cs T fz)) : Fr [⟨r, 0, 0⟩] w (ChangeMaps.setBlock w r o) where
  os := rfl
  tape := rfl
  output := rfl
  size := by simp [ChangeMaps.setBlock]
  block k _ hn := by
    have : r ≠ k := hn ⟨r, 0, 0⟩ (by simp);simp [ChangeMaps.setBlock, Array.getElem?_setIfInBounds, this]
  cells k cs T fz hk := by
    by_cases e : r = k
    · subst e; exact absurd hk (h cs T fz)
    exact ⟨cs, by simp only [ChangeMaps.setBlock, Array.getElem?_setIfInBounds, e, if_false]; exact hk, rfl, fun _ _ => rfl⟩
theorem setBlock_at (w : World) (r : Nat) (o : Obj) (h : r < w.heap.size) : (ChangeMaps.setBlock w r o).heap[r]? = some o := by
  simp [ChangeMaps.setBlock, Array.getElem?_setIfInBounds, h]
theorem wp_makeMap {T : TypeId} (k : K (a.put d (.map (some w.heap.size))) (w.alloc (.map #[] 0))) : OW P ⟨d, .makeMap T none, t, p, af, g⟩ a w K Q :=
  wp_val (v := .map (some w.heap.size)) (w' := w.alloc (.map #[] 0)) (by simp [execOp, Instr.makeMap, newObj, Sem.run]) k
theorem TagM.new (w : World) (A : Nat → Prop) : TagM (w.alloc (.map #[] 0)) A w.heap.size [] :=
  ⟨#[], 0, by show (w.heap.push _)[w.heap.size]? = _; simp, rfl, by simp [TagOk]⟩
theorem run_eqMapNil {s : TypeId} {kt et : TypeId} {q : Option Nat} (hs : P.underlying s = some (.map kt et)) (n : Nat) : (Op.equalIn (n + 1) s (.map q) (.map none)).run P w = .ok q.isNone w := by
  cases q <;> simp [Op.equalIn, run_underlying hs]
theorem wp_eqlMapNil {s u kt et : TypeId} {x : Operand} {q : Option Nat} (hs : mapOf P s kt et = true) (hx : a.eval x = .map q) (k : K (a.put d (.bool q.isNone)) w) :
    OW P ⟨d, .binOp .eql s x (.const (.map none)) u, t, p, af, g⟩ a w K Q := by
  refine wp_val (v := .bool q.isNone) (w' := w) ?_ k;have hg : (eqGuard .eql s x (.const (.map none)) (.map q) (.map none)).run P w = .ok () w := by simp [eqGuard]
  have he : (Op.equal s (.map q) (.map none)).run P w = .ok q.isNone w := run_eqMapNil (under_map hs).1 9999;have hr : (binOp .eql s (.map q) (.map none)).run P w = .ok (.bool q.isNone) w := by
    simp only [binOp, Sem.run_bind, he, Result.andThen_ok, Sem.run_pure]
  have hc : a.eval (.const (.map none)) = .map none := rfl;simp only [execOp, hx, hc, Sem.run_bind, hg, hr, Result.andThen_ok, Sem.run_pure]
theorem run_checkKey {kt : TypeId} {b : Bool} {q k : IntKind} {i : Int} (hk : P.underlying kt = some (.int q)) (n : Nat) : (Instr.checkKey b (n + 1) kt (.int k i)).run P w = .ok () w := by
  simp [Instr.checkKey, run_underlying hk]
theorem run_findKey {kt : TypeId} {q : IntKind} {v : Value} {es : List MapEntry} {r : Option (Nat × Value)} (hk : P.underlying kt = some (.int q)) (h : Instr.findNow (.int q) v es 0 = some r) : (Instr.findKey kt v es).run P w = .ok r w := by
  simp [Instr.findKey, run_underlying hk, h]
theorem run_setMap {r : Nat} {es : Array MapEntry} {c : Nat} (hr : w.heap[r]? = some (.map es c)) (o' : Obj) : (setObj r o').run P w = .ok () (ChangeMaps.setBlock w r o') := by
  simp [setObj, Sem.run, hr, ChangeMaps.setBlock]
theorem run_getObj {r : Nat} {es : Array MapEntry} {c : Nat} (hr : w.heap[r]? = some (.map es c)) : (getObj r).run P w = .ok (.map es c) w := by
  simp [getObj, Sem.run, hr]
theorem modify_list {es : Array MapEntry} {j : Nat} {e : MapEntry} {f : MapEntry → MapEntry} (he : es.toList[j]? = some e) : (es.modify j f).toList = es.toList.set j (f e) := by
  apply List.ext_getElem?
  intro i;rw [List.getElem?_set, Array.getElem?_toList, Array.getElem?_modify];have hj : j < es.toList.length := (List.getElem?_eq_some_iff.1 he).1
  by_cases hij : j = i
  · subst hij;have : es[j]? = some e := by rw [← Array.getElem?_toList]; exact he
    have hje : es[j]'(by simpa using hj) = e := by
      have := (Array.getElem?_eq_some_iff.1 this).2; exact this
    simp [show j < es.size by simpa using hj, hje]
  simp [hij]
theorem run_mapSet {T kt et : TypeId} {r k : Nat} {v : Value} {A : Nat → Prop} {kv : List (Nat × V)} {x : Option (List UInt8)} (hT : mapOf P T kt et = true) (hm : TagM w A r kv) (hk : k < 4294967296) (hv : OctsV w A v x) (hA : ¬ A r) :
    ∃ w', (Instr.mapUpdate T (.map (some r)) (.int .u32 (k : Int)) v).run P w = .ok () w' ∧ Fr [⟨r, 0, 0⟩] w w' ∧ TagM w' A r (kvSet kv k (.oct x)) := by
  obtain ⟨hu, hi⟩ := under_map hT;obtain ⟨es, clock, h1, h2, h3, h4, h5⟩ := hm;have hck : (Instr.checkKey false 10000 kt (.int .u32 (k : Int))).run P w = .ok () w := run_checkKey hi 9999;have hnc : ∀ cs T fz, w.heap[r]? ≠ some (.cells cs T fz) := fun cs T fz e => by rw [h1] at e; cases e
  rcases find_tags (q := .u32) (k := k) (i := 0) h2 with ⟨j, e, he, hke, hf⟩ | ⟨hf, hn⟩
  · rw [Nat.zero_add] at hf;have hfk := run_findKey (P := P) (w := w) hi hf;have hst : (Instr.keyThatStays (((es[j]?).map (·.key)).getD (.int .u32 (k : Int))) (.int .u32 (k : Int))).run P w = .ok (.int .u32 (k : Int)) w := by
      have : ((es[j]?).map (·.key)).getD (.int .u32 (k : Int)) = .int .u32 (k : Int) := by
        rw [← Array.getElem?_toList, he]; simp [hke]
      rw [this];simp [Instr.keyThatStays, Instr.sameBits]
    have hf1 := setBlock_fr w r (.map (es.modify j fun e => { e with key := .int .u32 (k : Int), val := v }) clock) hnc;refine ⟨_, ?_, hf1, ?_⟩
    · simp only [Instr.mapUpdate, Sem.run_bind, run_underlying hu, Result.andThen_ok, run_getObj h1, hck, hfk, hst, run_setMap h1]
    obtain ⟨k', x', hkv, _, hke', _⟩ := h2.at he;obtain rfl : k' = k := by rw [hke] at hke'; simp at hke'; omega
    have hmod := modify_list (f := fun e => { e with key := .int .u32 (k' : Int), val := v }) he;refine ⟨_, clock, setBlock_at w r _ (lt_of_block h1), ?_, ?_⟩
    · rw [hmod, kvSet_set h5 hkv];exact (h2.set hv he hke hk).kept hf1 (by intro z hz; simp at hz; subst hz; exact hA) (fun _ h => h)
    refine ⟨?_, ?_, kvSet_nodup h5⟩
    · rw [hmod];have : (es.toList.set j { e with key := .int .u32 (k' : Int), val := v }).map (·.born) = es.toList.map (·.born) := by
        apply List.ext_getElem?
        intro i;rw [List.getElem?_map, List.getElem?_set, List.getElem?_map]
        by_cases hij : j = i
        · subst hij;rw [he];simp [show j < es.size by simpa using (List.getElem?_eq_some_iff.1 he).1]
        simp [hij]
      rw [this]; exact h3
    rw [hmod];intro e' he'
    rcases List.mem_or_eq_of_mem_set he' with h | rfl
    · exact h4 e' h
    exact h4 e (List.mem_of_getElem? he)
  have hfk := run_findKey (P := P) (w := w) hi hf;have hf1 := setBlock_fr w r (.map (es.push { key := .int .u32 (k : Int), val := v, born := clock }) (clock + 1)) hnc;refine ⟨_, ?_, hf1, ?_⟩
  · simp only [Instr.mapUpdate, Sem.run_bind, run_underlying hu, Result.andThen_ok, run_getObj h1, hck, hfk, run_setMap h1]
  refine ⟨_, clock + 1, setBlock_at w r _ (lt_of_block h1), ?_, ?_⟩
  · rw [Array.toList_push, kvSet_push hn];exact (h2.push hv hk).kept hf1 (by intro z hz; simp at hz; subst hz; exact hA) (fun _ h => h)
  refine ⟨?_, ?_, kvSet_nodup h5⟩
  · rw [Array.toList_push, List.map_append, List.nodup_append];refine ⟨h3, by simp, ?_⟩;intro b hb c hc e;simp at hc
    obtain ⟨e0, he0, rfl⟩ := List.mem_map.1 hb;have := h4 e0 he0;omega
  intro e' he';rw [Array.toList_push, List.mem_append] at he'
  rcases he' with h | h
  · have := h4 e' h; omega
  simp at h; subst h; simp
theorem wp_mapSet {T kt et : TypeId} {r k : Nat} {v : Value} {A : Nat → Prop} {kv : List (Nat × V)} {x : Option (List UInt8)} {o1 o2 o3 : Operand} (hT : mapOf P T kt et = true) (h1 : a.eval o1 = .map (some r)) (h2 : a.eval o2 = .int .u32 (k : Int)) (h3 : a.eval o3 = v)
    (hm : TagM w A r kv) (hk : k < 4294967296) (hv : OctsV w A v x) (hA : ¬ A r) (hK : ∀ w', Fr [⟨r, 0, 0⟩] w w' → TagM w' A r (kvSet kv k (.oct x)) → K (a.put d undef) w') :
    OW P ⟨d, .mapUpdate T o1 o2 o3, t, p, af, g⟩ a w K Q := by
  obtain ⟨w', hr, hf, hm'⟩ := run_mapSet (P := P) hT hm hk hv hA
  constructor
  unfold Oper.wp;have : (execOp a.eval ⟨d, .mapUpdate T o1 o2 o3, t, p, af, g⟩).run P w = .ok .skip w' := by
    simp only [execOp, h1, h2, h3, Sem.run_bind, hr, Result.andThen_ok, Sem.run_pure]
  rw [this];exact hK w' hf hm'
theorem wp_mapGet {T kt et : TypeId} {r k : Nat} {A : Nat → Prop} {kv : List (Nat × V)} {x : V} {o1 o2 : Operand} (hT : mapOf P T kt et = true) (h1 : a.eval o1 = .map (some r)) (h2 : a.eval o2 = .int .u32 (k : Int)) (hm : TagM w A r kv) (hk : (k, x) ∈ kv)
    (hK : ∀ v y, x = .oct y → OctsV w A v y → K (a.put d v) w) : OW P ⟨d, .lookup T o1 o2 false, t, p, af, g⟩ a w K Q := by
  obtain ⟨hu, hi⟩ := under_map hT;obtain ⟨es, clock, h3, h4, h5, h6, h7⟩ := hm;have hck : ∀ b, (Instr.checkKey b 10000 kt (.int .u32 (k : Int))).run P w = .ok () w := fun b => run_checkKey hi 9999
  rcases find_tags (q := .u32) (k := k) (i := 0) h4 with ⟨j, e, he, hke, hf⟩ | ⟨_, hn⟩
  · have hfk := run_findKey (P := P) (w := w) hi hf;obtain ⟨k', x', hkv, _, hke', ho⟩ := h4.at he;obtain rfl : k' = k := by rw [hke] at hke'; simp at hke'; omega
    have hx : x = .oct x' := by
      have hm1 : (k', V.oct x') ∈ kv := List.mem_of_getElem? hkv;obtain ⟨i1, hi1⟩ := List.getElem?_of_mem hk;obtain ⟨i2, hi2⟩ := List.getElem?_of_mem hm1;have e1 : (kv.map (·.1))[i1]? = some k' := by rw [List.getElem?_map, hi1]; rfl
      have e2 : (kv.map (·.1))[i2]? = some k' := by rw [List.getElem?_map, hi2]; rfl
      have : i1 = i2 := (List.getElem?_inj (List.getElem?_eq_some_iff.1 e1).1 h7).1 (e1.trans e2.symm);subst this;rw [hi1] at hi2
      simpa using hi2
    refine wp_val (v := e.val) (w' := w) ?_ (hK _ x' hx ho);simp only [execOp, h1, h2, Instr.lookup, Sem.run_bind, run_underlying hu, Result.andThen_ok, run_getObj h3, hck, hfk, Sem.run_pure];simp
  exact absurd rfl (hn _ hk)
theorem wp_lenMap {T kt et : TypeId} {q : Option Nat} {A : Nat → Prop} {kv : List (Nat × V)} {x : Operand} (hT : mapOf P T kt et = true) (hx : a.eval x = .map q) (hm : (q = none ∧ kv = []) ∨ ∃ r, q = some r ∧ TagM w A r kv)
    (hK : K (a.put d (.int .i64 kv.length)) w) : OW P ⟨d, .call ⟨.builtin .len, #[x], #[T]⟩, t, p, af, g⟩ a w K Q := by
  obtain ⟨hu, hi⟩ := under_map hT;refine wp_val (v := .int .i64 kv.length) (w' := w) ?_ hK
  rcases hm with ⟨rfl, rfl⟩ | ⟨r, rfl, es, clock, h3, h4, _⟩
  · simp [execOp, resolve, invoke, builtin, Builtin.len_, hx, run_underlying hu, goInt]
  have := h4.len;simp [execOp, resolve, invoke, builtin, Builtin.len_, hx, run_underlying hu, run_getObj h3, goInt, ← this]
end Go.Kq

namespace Go.Kq
open Go Go.Proofs
def uvGo : Nat → List UInt8 → Option (Nat × Nat)
  | 0, _ => none
  | _ + 1, [] => none
  | 1, c :: _ => if c.toNat ≤ 15 then some (c.toNat, 1) else none
  | k + 2, c :: r => if c.toNat < 128 then some (c.toNat, 1) else
      match uvGo (k + 1) r with
      | none => none
      | some (x, n) => some (c.toNat % 128 + 128 * x, n + 1)
def uv (l : List UInt8) : Option (Nat × Nat) := uvGo 5 l
end Go.Kq

namespace Go.Kq
open Go Go.Proofs
def TagV (w : World) (A : Nat → Prop) (lo : Nat) (v : Value) (x : V) : Prop := (v = .map none ∧ x = .nil) ∨ ∃ r kv, v = .map (some r) ∧ lo ≤ r ∧ TagM w A r kv ∧ x = .t kv
structure SetTagM (P : Program) (f : FuncId) : Prop where
  enters : Enters P f
  call : ∀ w A lo tb to v x (k : Nat) u y, w.cell? ⟨tb, to, none⟩ = some v → w.there tb to 1 → TagV w A lo v x → (∀ b, A b → b < lo) → lo ≤ w.heap.size → k < 4294967296 → OctsV w A u y → ¬ A tb →
    Calls P f #[.pointer (some ⟨tb, to, none⟩), .int .u32 (k : Int), u] w fun e w' => (∃ z, e = .returned z) ∧ ∃ r, w'.cell? ⟨tb, to, none⟩ = some (.map (some r)) ∧ lo ≤ r ∧ TagM w' A r (kvSet (tagKv x) k (.oct y)) ∧ Fr [⟨tb, to, to + 1⟩, ⟨r, 0, 0⟩] w w'
theorem TagM.notCell {w : World} {A : Nat → Prop} {r : Nat} {kv : List (Nat × V)} {tb to : Nat} {v : Value} (h : TagM w A r kv) (hc : w.cell? ⟨tb, to, none⟩ = some v) : tb ≠ r := by
  rintro rfl;obtain ⟨es, clock, h1, _⟩ := h;obtain ⟨cs, T, fz, h2, _⟩ := block_of_cell hc;rw [h1] at h2; cases h2
theorem settag_m {P : Program} {f : FuncId} {fn : Func} {kt et : TypeId} {T97 T99 : TypeId} {i0 i1 i2 : Nat}
    {t0 t1 t2 t3 t4 t5 t6 t7 t8 t9 t10 t11 t12 t13 t14 t15 t16 : TypeId} {p0 p1 p2 p3 p4 p5 p6 p7 p8 p9 p10 p11 p12 p13 p14 p15 p16 : String} {e0 e1 e2 e3 e4 e5 e6 e7 e8 e9 e10 e11 e12 e13 e14 e15 e16 : Array Edge}
    (hf : P.funcs[f]? = some fn) (hname : (fn.name == "runtime.NumGoroutine") = false) (hres : fn.results = #[]) (hN : fn.ntmps = 21)
    (hbody : fn.body = some (.seq (.seq (Code.region i0 ⟨[oM 6 0 t0 p0 e0, ⟨some 7, .nilCheck (.tmp 6), t1, p1, e1, none⟩,
    oF 8 T99 7 0 t2 p2 e2,
    oL 9 T97 8 t3 p3 e3, ⟨some 10, .binOp .eql T97 (.tmp 9) (.const (.map none)) T97, t4, p4, e4, none⟩]⟩ false) (.cond (.tmp 10) (Code.region i1 ⟨[oM 11 0 t5 p5 e5, ⟨some 12, .makeMap T97 none, t6, p6, e6, none⟩, ⟨some 13, .nilCheck (.tmp 11), t7, p7, e7, none⟩,
    oF 14 T99 13 0 t8 p8 e8,
    oS T97 14 12 t9 p9 e9]⟩ false) .skip))
  (Code.region i2 ⟨[oM 15 0 t10 p10 e10, ⟨some 16, .nilCheck (.tmp 15), t11, p11, e11, none⟩,
    oF 17 T99 16 0 t12 p12 e12,
    oL 18 T97 17 t13 p13 e13,
    oM 19 1 t14 p14 e14,
    oM 20 2 t15 p15 e15, ⟨none, .mapUpdate T97 (.tmp 18) (.tmp 19) (.tmp 20), t16, p16, e16, none⟩]⟩ false)))
    (hT : mapOf P T97 kt et = true) (h97 : scal P T97 = true) (hF : fieldOf P T99 0 0 = true) : SetTagM P f := by
  refine ⟨enters_of hf hname hbody, ?_⟩;intro w A lo tb to v x k u y hc hth hv hA hlo hk hu hAt;refine calls_of_wp hf hbody ?_;generalize ha0 : ({ tmps := #[Value.pointer (some ⟨tb, to, none⟩), Value.int .u32 (k : Int), u] ++ Array.replicate (fn.ntmps - #[Value.pointer (some ⟨tb, to, none⟩), Value.int .u32 (k : Int), u].size) undef, defers := [] } : Act) = a0;have hsz : a0.tmps.size = 21 := by subst ha0; simp [hN]
  have hd0 : a0.defers = [] := by subst ha0; rfl
  have g0 : get a0 0 = .pointer (some ⟨tb, to, none⟩) := by subst ha0; exact gAr rfl
  have g1 : get a0 1 = .int .u32 (k : Int) := by subst ha0; exact gAr rfl
  have g2 : get a0 2 = u := by subst ha0; exact gAr rfl
  obtain ⟨q, hvq⟩ : ∃ q, v = .map q := by
    rcases hv with ⟨rfl, _⟩ | ⟨r, kv, rfl, _⟩
    · exact ⟨_, rfl⟩
    exact ⟨_, rfl⟩
  subst hvq;have main : ∀ (a : Act) (w2 : World) (r : Nat) (kv : List (Nat × V)), Kept 6 a0 a → w2.cell? ⟨tb, to, none⟩ = some (.map (some r)) → lo ≤ r → TagM w2 A r kv → kv = tagKv x → Fr [⟨tb, to, to + 1⟩, ⟨r, 0, 0⟩] w w2 →
      (Code.region i2 ⟨[oM 15 0 t10 p10 e10, ⟨some 16, .nilCheck (.tmp 15), t11, p11, e11, none⟩, oF 17 T99 16 0 t12 p12 e12, oL 18 T97 17 t13 p13 e13, oM 19 1 t14 p14 e14, oM 20 2 t15 p15 e15, ⟨none, .mapUpdate T97 (.tmp 18) (.tmp 19) (.tmp 20), t16, p16, e16, none⟩]⟩ false).wp P (bodyPost P fn fun e w' => (∃ z, e = .returned z) ∧ ∃ r, w'.cell? ⟨tb, to, none⟩ = some (.map (some r)) ∧ lo ≤ r ∧ TagM w' A r (kvSet (tagKv x) k (.oct y)) ∧ Fr [⟨tb, to, to + 1⟩, ⟨r, 0, 0⟩] w w') a w2 := by
    intro a w2 r kv hk2 hc2 hlr hm hkv hfr;have hsz2 := hk2.size;refine wp_reg ?_;rw [wCo, wMw, eTm, hk2.get 0 (by omega), g0, wCo];refine wNc (q := ⟨tb, to, none⟩) (by rw [eTm, gQ]) ?_;refine wC (wFa (b := tb) (i := to) hF (by rw [eTm, gQ]) ?_);refine wC (wp_load h97 (b := tb) (o := to) (by rw [eTm, gQ]; simp) hc2 ?_);rw [wCo, wMw, eTm, gR, gR, gR, gR, hk2.get 1 (by omega), g1, wCo, wMw, eTm, gR, gR, gR, gR, gR, hk2.get 2 (by omega), g2, wCo];refine wp_mapSet (r := r) (k := k) (v := u) (A := A) (kv := kv) (x := y) hT (by rw [eTm, gR, gR, gQ]) (by rw [eTm, gR, gQ]) (by rw [eTm, gQ]) hm hk
      (hu.kept hfr (by intro z hz; simp at hz; rcases hz with rfl | rfl; exact hAt; intro hb; have := hA _ hb; simp only at this; omega) (fun _ h => h)) (fun hb => by have := hA _ hb; omega) ?_
    intro w3 f3 hm3;rw [pNo, wNi];refine ⟨by simp only [dPu]; rw [hk2.defers, hd0], .tuple #[], by simp [results, hres], ⟨_, rfl⟩, r, f3.cell hc2 (.cons (.inl (fun e => hm.notCell hc2 e.symm)) .nil), hlr, by rw [← hkv]; exact hm3, ?_⟩;refine hfr.trans f3 ?_;intro z hz; simp at hz; subst hz; exact .inr ⟨⟨r, 0, 0⟩, by simp, rfl, by simp, by simp⟩
  refine tId (wp_seq_k fun K1 hK1 => ?_);refine wS fun K2 hK2 => ?_;rw [wCo, wMw, eTm, g0, wCo];refine wNc (q := ⟨tb, to, none⟩) (by rw [eTm, gQ]) ?_;refine wC (wFa (b := tb) (i := to) hF (by rw [eTm, gQ]) ?_);refine wC (wp_load h97 (b := tb) (o := to) (by rw [eTm, gQ]; simp) hc ?_);refine wC (wp_eqlMapNil (q := q) hT (by rw [eTm, gQ]) ?_);rw [wNi];generalize ha1 : ((((a0.put (some 6) (.pointer (some ⟨tb, to, none⟩))).put (some 7) (.pointer (some ⟨tb, to, none⟩))).put (some 8) (.pointer (some ⟨tb, to + 0, none⟩))).put (some 9) (.map q)).put (some 10) (.bool q.isNone) = a1;have k1 : Kept 6 a0 a1 := by subst ha1; exact ((((Kept.put0 (by omega) _).put (by omega) _).put (by omega) _).put (by omega) _).put (by omega) _
  have g10 : get a1 10 = .bool q.isNone := by subst ha1; exact gQ
  have hz1 := k1.size;refine hK2 a1 w ?_;refine wp_cond_split (t := q.isNone) (by rw [eTm, g10]) (fun hq => ?_) fun hq => wp_skip (hK1 a1 w (tUp ?_))
  · obtain rfl : q = none := by simpa using hq
    obtain rfl : x = .nil := by
      rcases hv with ⟨_, h⟩ | ⟨r, kv, h, _⟩
      · exact h
      cases h
    refine wp_reg ?_;rw [wCo, wMw, eTm, k1.get 0 (by omega), g0, wCo];refine wp_makeMap ?_;have f1 := Fr.alloc [] w (.map #[] 0);have hnew := TagM.new w A;have sz1 := size_alloc w (.map #[] 0);generalize w.alloc (.map #[] 0) = w1 at f1 hnew sz1 ⊢;refine wC (wNc (q := ⟨tb, to, none⟩) (by rw [eTm, gR, gQ]) ?_);refine wC (wFa (b := tb) (i := to) hF (by rw [eTm, gQ]) ?_);rw [wCo];have th1 := f1.there hth;refine wp_store h97 (b := tb) (o := to + 0) (v := .map (some w.heap.size)) (by rw [eTm, gQ]) (by rw [eTm, gR, gR, gQ]) rfl th1 ?_;rw [pNo, wNi];have f2 := Fr.set w1 tb to (.map (some w.heap.size));have htl := lt_of_cell hc;refine hK1 _ _ (tUp ?_);refine main _ _ w.heap.size [] ((((k1.put (by omega) _).put (by omega) _).put (by omega) _).put (by omega) _) (range_set th1) hlo ?_ rfl ?_
    · exact hnew.kept f2 (by intro z hz; simp at hz; subst hz; exact hAt) (by intro z hz; simp at hz; subst hz; simp only; omega) (fun _ h => h)
    refine (f1.nil (l := [⟨tb, to, to + 1⟩, ⟨w.heap.size, 0, 0⟩])).trans f2 ?_;intro z hz; simp at hz; subst hz; exact .inr ⟨⟨tb, to, to + 1⟩, by simp, rfl, by simp, by simp⟩
  rcases hv with ⟨h, _⟩ | ⟨r, kv, h, hlr, hm, rfl⟩
  · simp at h; subst h; simp at hq
  simp at h; subst h
  exact main a1 w r kv k1 hc hlr hm rfl (Fr.refl _ _)
end Go.Kq

namespace Go.Kq
open Go Go.Proofs
variable {P : Program} {a : Act} {w : World} {K : Act → World → Prop} {Q : Exit → Act → World → Prop} {d : Option Tmp} {t : TypeId} {p : String} {af : Array Edge} {g : Option (Nat × Bool)}
theorem wp_rangeMap {T kt et : TypeId} {r : Nat} {x : Operand} {es : Array MapEntry} {clock : Nat} (hT : mapOf P T kt et = true) (hx : a.eval x = .map (some r)) (hb : w.heap[r]? = some (.map es clock))
    (k : K (a.put d (.pointer (some ⟨w.heap.size, 0, none⟩))) (w.alloc (.mapIter (some r) clock #[] clock))) : OW P ⟨d, .range T x, t, p, af, g⟩ a w K Q := by
  obtain ⟨hu, _⟩ := under_map hT;refine wp_val (v := .pointer (some ⟨w.heap.size, 0, none⟩)) (w' := w.alloc (.mapIter (some r) clock #[] clock)) ?_ k;simp [execOp, hx, Instr.range, run_underlying hu, run_getObj hb, newObj, Sem.run]
theorem setBlock_iter (w : World) (it : Nat) (o : Obj) {m : Option Nat} {s c : Nat} {seen : Array Nat} (h : w.heap[it]? = some (.mapIter m s seen c)) : Fr [⟨it, 0, 0⟩] w (ChangeMaps.setBlock w it o) :=
  setBlock_fr w it o (fun cs T fz e => by rw [h] at e; cases e)
theorem wp_nextMap {x : Operand} {it r since c0 clock : Nat} {seen : Array Nat} {es : Array MapEntry} (hx : a.eval x = .pointer (some ⟨it, 0, none⟩)) (hr : w.heap[it]? = some (.mapIter (some r) since seen c0)) (hb : w.heap[r]? = some (.map es clock))
    (hold : ∀ e ∈ es.toList, e.born < since) (hsc : since ≤ c0)
    (h0 : (∀ e ∈ es.toList, e.born ∈ seen.toList) → K (a.put d (.tuple #[.bool false])) w)
    (h1 : ∀ e ∈ es.toList, e.born ∉ seen.toList → ∀ w', Fr [⟨it, 0, 0⟩] w w' → w'.heap[it]? = some (.mapIter (some r) since (seen.push e.born) clock) → K (a.put d (.tuple #[.bool true, e.key, e.val])) w') : OW P ⟨d, .next x false, t, p, af, g⟩ a w K Q := by
  rcases run_next_at (P := P) w t it r since c0 seen es clock hr hb hold hsc with ⟨hz, hrun⟩ | ⟨e, he, w1, hw1, hrun⟩
  · refine wp_val (v := .tuple #[.bool false]) (w' := w) ?_ (h0 ?_)
    · simp [execOp, hx, hrun]
    intro e he;have hl : leftOf es seen = #[] := Array.eq_empty_of_size_eq_zero hz;unfold leftOf at hl;rw [Array.filter_eq_empty_iff] at hl;have := hl e (by simpa using he)
    simpa using this
  have hm : e ∈ es.toList ∧ e.born ∉ seen.toList := by
    unfold leftOf at he;simp at he
    simpa using he
  refine wp_val (v := .tuple #[.bool true, e.key, e.val]) (w' := ChangeMaps.setBlock w1 it (.mapIter (some r) since (seen.push e.born) clock)) ?_ (h1 e hm.1 hm.2 _ ?_ ?_)
  · simp only [execOp, hx, hrun, Sem.run_bind, Result.andThen_ok, Sem.run_pure]
  · rcases hw1 with rfl | rfl
    · exact setBlock_iter w1 it _ hr
    exact (Fr.drew _ w).tr (setBlock_iter w.drew it _ hr)
  refine setBlock_at w1 it _ ?_
  rcases hw1 with rfl | rfl <;> exact lt_of_block hr
theorem wp_entryMap {x : Operand} {it r since clock : Nat} {seen : Array Nat} {es : Array MapEntry} {e : MapEntry} (hx : a.eval x = .pointer (some ⟨it, 0, none⟩)) (hr : w.heap[it]? = some (.mapIter (some r) since (seen.push e.born) clock)) (hb : w.heap[r]? = some (.map es clock))
    (he : e ∈ es.toList) (hn : (es.toList.map (·.born)).Nodup) (k : K (a.put d (.tuple #[e.key, e.val])) w) : OW P ⟨d, .entry x, t, p, af, g⟩ a w K Q :=
  wp_val (v := .tuple #[e.key, e.val]) (w' := w) (by simp [execOp, hx, run_entry_at (P := P) w it r since seen es clock e hr hb he hn]) k
theorem wp_make0 {T e sz bs : Nat} {z : List Value} {n : Nat} {y : Operand} (hT : sliceOf P T e sz bs = true) (hz : zeroIs P e z) (hb : bs * n ≤ 281474976710656) (h63 : n ≤ 9223372036854775807) (hy : a.eval y = .int .i64 n)
    (k : K (a.put d (.slice (some ⟨w.heap.size, 0, none⟩) 0 n)) (w.alloc (.cells (madeCells z.toArray (n * sz)) e))) : OW P ⟨d, .makeSlice T (.const (.int .i64 0)) y, t, p, af, g⟩ a w K Q := by
  obtain ⟨hu, i, z0, hi, hs, hby, hzz, hsz0⟩ := under_slice hT;obtain ⟨i', v0, hi', hz', rfl⟩ := hz;rw [hi] at hi';obtain rfl := Option.some.inj hi';rw [hzz] at hz';obtain rfl := Option.some.inj hz';subst hs;subst hby;have h2 : (i.bytes : Int) * (n : Int) ≤ 281474976710656 := by rw [← Int.natCast_mul]; omega
  have hr := run_make (P := P) w T e i z0 hu hi hzz .i64 .i64 (0 : Int) (n : Int) (by omega) (by omega) h2 (by omega);refine wp_val (v := .slice (some ⟨w.heap.size, 0, none⟩) 0 n) (w' := w.alloc (.cells (madeCells z0.cells.toList.toArray (n * i.size)) e)) ?_ k;simp only [execOp, eCo, hy, Sem.run_bind, hr, Result.andThen_ok, Sem.run_pure, Array.toArray_toList, Int.toNat_natCast]
  rfl
theorem wp_makeIface {T : TypeId} {x : Operand} {v : Value} (hx : a.eval x = v) {e n b : Nat} (hT : sliceOf P T e n b = true) (k : K (a.put d (.iface T v)) w) : OW P ⟨d, .makeInterface T x, t, p, af, g⟩ a w K Q :=
  wp_val (v := .iface T v) (w' := w) (by simp [execOp, hx, Instr.makeInterface, run_underlying (under_slice hT).1]) k
theorem wp_makeFunc1 {f : FuncId} {x : Operand} {v : Value} (hx : a.eval x = v) (k : K (a.put d (.func (.func f) #[] #[v])) w) : OW P ⟨d, .makeFunc (.func f) #[] #[x], t, p, af, g⟩ a w K Q :=
  wp_val (v := .func (.func f) #[] #[v]) (w' := w) (by simp [execOp, hx, Instr.makeFunc]) k
theorem wp_callF {f : FuncId} {caps : Array Value} {y : Operand} {xs : Array Operand} {ts : Array TypeId} {vs : Array Value} {R : Value → World → Prop} (he : Enters P f) (hy : a.eval y = .func (.func f) #[] caps) (hx : xs.map a.eval = vs)
    (hc : Calls P f (vs ++ caps) w fun e w' => ∃ v, e = .returned v ∧ R v w') (k : ∀ v w', R v w' → K (a.put d v) w') (hyt : ∃ n, y = .tmp n) : OW P ⟨d, .call ⟨.value y, xs, ts⟩, t, p, af, g⟩ a w K Q := by
  obtain ⟨n, rfl⟩ := hyt
  constructor
  unfold Oper.wp;have : (execOp a.eval ⟨d, .call ⟨.value (.tmp n), xs, ts⟩, t, p, af, g⟩).run P w = .ok (.enter f (vs ++ caps)) w := by
    have := he (vs ++ caps) w;simp [execOp, resolve, hy, Deferred.ofValue, invoke, hx, this]
  rw [this];exact hc.mono (by rintro e w' ⟨v, rfl, h⟩; exact k v w' h)
def u32s (ks : List Nat) : List Value := ks.map fun k : Nat => .int .u32 k
structure SortM (P : Program) (T : TypeId) (fs fl : FuncId) : Prop where
  enters : Enters P fs
  call : ∀ w ob b o c (ks : List Nat), w.cell? ⟨ob, 0, none⟩ = some (.slice (some ⟨b, o, none⟩) ks.length c) → w.rangeAt b o (u32s ks) → w.there b o ks.length → ob ≠ b → (∀ k ∈ ks, k < 4294967296) → ks.length ≤ 4294967296 → ks ≠ [] →
    Calls P fs #[.iface T (.slice (some ⟨b, o, none⟩) ks.length c), .func (.func fl) #[] #[.pointer (some ⟨ob, 0, none⟩)]] w fun e w' => (∃ z, e = .returned z) ∧ ∃ ks' : List Nat, ks'.Perm ks ∧ ks'.Pairwise (· ≤ ·) ∧ w'.rangeAt b o (u32s ks') ∧ Fr [⟨b, o, o + ks.length⟩] w w'
structure EachM (P : Program) (f : FuncId) : Prop where
  enters : Enters P f
  call : ∀ (w : World) (A : Nat → Prop) (tb to : Nat) (v : Value) (x : V) (g : FuncId) (caps : Array Value) (I : List (Nat × V) → List Rng → World → Prop) (own : List Rng),
    w.cell? ⟨tb, to, none⟩ = some v → Rep w A .tags [v] x → (∀ b, A b → b < w.heap.size) → Enters P g → I [] own w → (∀ z ∈ own, ¬ A z.b ∧ z.b ≠ tb ∧ z.b < w.heap.size) →
    (∀ done own w w', I done own w → Fr [] w w' → I done own w') →
    (∀ done own w1 (k : Nat) y u, I done own w1 → (k, V.oct y) ∈ tagKv x → OctsV w1 A u y → (done ++ [(k, V.oct y)]) <+: sortKv (tagKv x) → w.heap.size ≤ w1.heap.size → Calls P g (#[.int .u32 (k : Int), u] ++ caps) w1 fun e w' => (∃ z, e = .returned z) ∧ ∃ own', I (done ++ [(k, .oct y)]) own' w' ∧ Fr own w1 w' ∧ ∀ z ∈ own', z.In own w1) →
    Calls P f #[.pointer (some ⟨tb, to, none⟩), .func (.func g) #[] caps] w fun e w' => (∃ z, e = .returned z) ∧ ∃ own', I (sortKv (tagKv x)) own' w' ∧ Fr own w w' ∧ ∀ z ∈ own', z.In own w
end Go.Kq

namespace Go.Kq
open Go Go.Proofs
def keyN : Value → Nat
  | .int _ n => n.toNat
  | _ => 0
theorem Entries.keys {w : World} {A : Nat → Prop} : ∀ {es : List MapEntry} {kv : List (Nat × V)}, Entries w A es kv → kv.map (·.1) = es.map (fun e => keyN e.key) ∧ ∀ e ∈ es, e.key = .int .u32 (keyN e.key : Int) ∧ keyN e.key < 4294967296
  | [], kv, h => by have : kv = [] := h; subst this; simp
  | e0 :: es, kv, h => by
    obtain ⟨k, x, r, rfl, h2, h3, h4, h5⟩ := h;obtain ⟨i1, i2⟩ := h5.keys;refine ⟨by simp [i1, h3, keyN], fun e he => ?_⟩
    rcases List.mem_cons.1 he with rfl | he
    · rw [h3]; exact ⟨by simp [keyN], by simpa [keyN] using h2⟩
    exact i2 e he
set_option maxRecDepth 10000 in
theorem each_m {P : Program} {f : FuncId} {fn : Func} {kt et e59 bs : TypeId} {T3 T59 T97 T99 T146 : TypeId} {f97 f98 : FuncId} {a0 a1 : Array TypeId} {i0 i1 i2 i3 i4 i5 i6 i7 i8 i9 i10 i11 : Nat}
    {t0 t1 t2 t3 t4 t5 t6 t7 t8 t9 t10 t11 t12 t13 t14 t15 t16 t17 t18 t19 t20 t21 t22 t23 t24 t25 t26 t27 t28 t29 t30 t31 t32 t33 t34 t35 t36 t37 t38 t39 t40 t41 t42 t43 t44 t45 t46 t47 t48 t49 t50 : TypeId} {p0 p1 p2 p3 p4 p5 p6 p7 p8 p9 p10 p11 p12 p13 p14 p15 p16 p17 p18 p19 p20 p21 p22 p23 p24 p25 p26 p27 p28 p29 p30 p31 p32 p33 p34 p35 p36 p37 p38 p39 p40 p41 p42 p43 p44 p45 p46 p47 p48 p49 p50 : String} {e0 e1 e2 e3 e4 e5 e6 e7 e8 e9 e10 e11 e12 e13 e14 e15 e16 e17 e18 e19 e20 e21 e22 e23 e24 e25 e26 e27 e28 e29 e30 e31 e32 e33 e34 e35 e36 e37 e38 e39 e40 e41 e42 e43 e44 e45 e46 e47 e48 e49 e50 : Array Edge}
    (hf : P.funcs[f]? = some fn) (hname : (fn.name == "runtime.NumGoroutine") = false) (hres : fn.results = #[]) (hN : fn.ntmps = 53)
    (hbody : fn.body = some (.seq (.seq (Code.region i0 ⟨[oM 8 0 t0 p0 e0, ⟨some 9, .nilCheck (.tmp 8), t1, p1, e1, none⟩,
    oF 10 T99 9 0 t2 p2 e2,
    oL 11 T97 10 t3 p3 e3, ⟨some 12, .call ⟨.builtin .len, #[(.tmp 11)], #[T97]⟩, t4, p4, e4, none⟩, ⟨some 13, .binOp .eql T3 (.tmp 12) (.const (.int .i64 0)) T3, t5, p5, e5, none⟩]⟩ false) (.cond (.tmp 13) .ret .skip)) (.seq (Code.region i1 ⟨[oM 14 0 t6 p6 e6, ⟨some 15, .nilCheck (.tmp 14), t7, p7, e7, none⟩,
    oF 16 T99 15 0 t8 p8 e8,
    oL 17 T97 16 t9 p9 e9, ⟨some 18, .call ⟨.builtin .len, #[(.tmp 17)], #[T97]⟩, t10, p10, e10, none⟩, ⟨some 19, .makeSlice T146 (.const (.int .i64 0)) (.tmp 18), t11, p11, e11, none⟩, ⟨some 4, .alloc T146, t12, p12, e12, none⟩,
    oS T146 4 19 t13 p13 e13]⟩ false) (.seq (.seq (Code.region i2 ⟨[oM 20 0 t14 p14 e14, ⟨some 21, .nilCheck (.tmp 20), t15, p15, e15, none⟩,
    oF 22 T99 21 0 t16 p16 e16,
    oL 23 T97 22 t17 p17 e17, ⟨some 24, .range T97 (.tmp 23), t18, p18, e18, none⟩]⟩ false) (.block 0 (.loop (.seq (Code.region i3 ⟨[⟨some 25, .next (.tmp 24) false, t19, p19, e19, none⟩, ⟨some 26, .extract (.tmp 25) 0, t20, p20, e20, none⟩]⟩ false) (.seq (.cond (.tmp 26) .skip
  (.exit 0)) (.block 1 (.seq (Code.region i4 ⟨[⟨some 27, .entry (.tmp 24), t21, p21, e21, none⟩, ⟨some 28, .extract (.tmp 27) 0, t22, p22, e22, none⟩,
    oT 5 28 t23 p23 e23]⟩ false)
  (Code.region i5 ⟨[oL 29 T146 4 t24 p24 e24,
    oM 30 5 t25 p25 e25, ⟨some 31, .buildSlice T146 1 #[(0, .tmp 30)], t26, p26, e26, none⟩, ⟨some 32, .call ⟨.builtin .append, #[(.tmp 29), (.tmp 31)], #[T146, T146]⟩, t27, p27, e27, none⟩,
    oS T146 4 32 t28 p28 e28]⟩ false)))))))) (.seq (Code.region i6 ⟨[oL 33 T146 4 t29 p29 e29, ⟨some 34, .makeInterface T146 (.tmp 33), t30, p30, e30, none⟩, ⟨some 35, .makeFunc (.func f98) #[] #[(.tmp 4)], t31, p31, e31, none⟩,
    oC 36 f97 #[(.tmp 34), (.tmp 35)] a0 t32 p32 e32]⟩ false) (.seq (Code.region i7 ⟨[oL 37 T146 4 t33 p33 e33, ⟨some 38, .call ⟨.builtin .len, #[(.tmp 37)], #[T146]⟩, t34, p34, e34, none⟩, ⟨some 39, .move (.const (.int .i64 0)), t35, p35, e35, none⟩]⟩ false) (.block 2 (.loop (.seq (Code.region i8 ⟨[⟨some 40, .binOp .lss T3 (.tmp 39) (.tmp 38) T3, t36, p36, e36, none⟩]⟩ false) (.seq (.cond (.tmp 40) .skip
  (.exit 2)) (.seq (.block 3 (.seq (Code.region i9 ⟨[⟨some 41, .indexAddr T146 (.tmp 37) (.tmp 39), t37, p37, e37, none⟩,
    oL 42 T59 41 t38 p38 e38,
    oT 7 42 t39 p39 e39]⟩ false)
  (Code.region i10 ⟨[oM 43 1 t40 p40 e40,
    oM 44 7 t41 p41 e41,
    oM 45 0 t42 p42 e42, ⟨some 46, .nilCheck (.tmp 45), t43, p43, e43, none⟩,
    oF 47 T99 46 0 t44 p44 e44,
    oL 48 T97 47 t45 p45 e45,
    oM 49 7 t46 p46 e46, ⟨some 50, .lookup T97 (.tmp 48) (.tmp 49) false, t47, p47, e47, none⟩, ⟨some 51, .call ⟨.value (.tmp 43), #[(.tmp 44), (.tmp 50)], a1⟩, t48, p48, e48, none⟩]⟩ false)))
  (Code.region i11 ⟨[⟨some 52, .binOp .add T3 (.tmp 39) (.const (.int .i64 1)) T3, t49, p49, e49, none⟩,
    oM 39 52 t50 p50 e50]⟩ false))))))))))))
    (hT : mapOf P T97 kt et = true) (h97 : scal P T97 = true) (hF : fieldOf P T99 0 0 = true) (hs : sliceOf P T146 e59 1 bs = true) (hbs : bs ≤ 16) (hz : zeroIs P e59 [.int .u32 0]) (h146 : scal P T146 = true) (hz146 : zeroOf P T146 (.slice none 0 0)) (h59 : scal P T59 = true) (hsort : SortM P T146 f97 f98) : EachM P f := by
  refine ⟨enters_of hf hname hbody, ?_⟩;intro w A tb to v x g caps I own hc hrep hA hg hI0 hown hstab hcall;have htb := lt_of_cell hc;refine calls_of_wp hf hbody ?_;generalize ha0 : ({ tmps := #[Value.pointer (some ⟨tb, to, none⟩), Value.func (.func g) #[] caps] ++ Array.replicate (fn.ntmps - #[Value.pointer (some ⟨tb, to, none⟩), Value.func (.func g) #[] caps].size) undef, defers := [] } : Act) = a0;have hsz : a0.tmps.size = 53 := by subst ha0; simp [hN]
  have hd0 : a0.defers = [] := by subst ha0; rfl
  have g0 : get a0 0 = .pointer (some ⟨tb, to, none⟩) := by subst ha0; exact gAr rfl
  have g1 : get a0 1 = .func (.func g) #[] caps := by subst ha0; exact gAr rfl
  obtain ⟨q, hvq, hmap⟩ : ∃ q, v = .map q ∧ ((q = none ∧ tagKv x = []) ∨ ∃ r, q = some r ∧ TagM w A r (tagKv x) ∧ A r) := by
    rcases hrep with ⟨h, rfl⟩ | ⟨r, es, clock, kv, hr, h, h2, h3, rfl, h4⟩
    · simp at h; exact ⟨none, h, .inl ⟨rfl, rfl⟩⟩
    simp at h; exact ⟨some r, h, .inr ⟨r, rfl, ⟨es, clock, h2, h3, h4⟩, hr⟩⟩
  subst hvq;generalize hkv : tagKv x = kv at *;clear hrep hkv;refine tId (wp_seq_k fun K1 hK1 => ?_);refine wS fun K2 hK2 => ?_;rw [wCo, wMw, eTm, g0, wCo];refine wNc (q := ⟨tb, to, none⟩) (by rw [eTm, gQ]) ?_;refine wC (wFa (b := tb) (i := to) hF (by rw [eTm, gQ]) ?_);refine wC (wp_load h97 (b := tb) (o := to) (by rw [eTm, gQ]; simp) hc ?_);refine wC (wp_lenMap (q := q) (A := A) (kv := kv) hT (by rw [eTm, gQ]) (by rcases hmap with h | ⟨r, h1, h2, _⟩; exact .inl h; exact .inr ⟨r, h1, h2⟩) ?_);refine wC (wp_eql (k1 := .i64) (i := kv.length) (j := 0) (by rw [eTm, gQ]) rfl ?_);rw [wNi];generalize hb1 : (((((a0.put (some 8) (.pointer (some ⟨tb, to, none⟩))).put (some 9) (.pointer (some ⟨tb, to, none⟩))).put (some 10) (.pointer (some ⟨tb, to + 0, none⟩))).put (some 11) (.map q)).put (some 12) (.int .i64 kv.length)).put (some 13) (.bool ((kv.length : Int) == 0)) = b1;have k1 : Kept 8 a0 b1 := by subst hb1; exact (((((Kept.put0 (by omega) _).put (by omega) _).put (by omega) _).put (by omega) _).put (by omega) _).put (by omega) _
  have q13 : get b1 13 = .bool ((kv.length : Int) == 0) := by subst hb1; exact gQ
  clear hb1;have hz1 := k1.size;refine hK2 b1 w ?_;refine wp_cond_split (t := ((kv.length : Int) == 0)) (by rw [eTm, q13]) (fun h => ?_) fun h => wp_skip (hK1 b1 w (tUp ?_))
  · have hkv0 : kv = [] := by simp at h; exact h
    subst hkv0;exact wp_ret ⟨by rw [k1.defers, hd0], .tuple #[], by simp [results, hres], ⟨_, rfl⟩, own, hI0, Fr.refl _ _, fun z hz => Rng.in_self hz⟩
  have hpos : 0 < kv.length := by simp at h; exact List.length_pos_iff.2 h
  obtain ⟨r, rfl, hm, hAr⟩ : ∃ r, q = some r ∧ TagM w A r kv ∧ A r := by
    rcases hmap with ⟨_, h⟩ | h
    · rw [h] at hpos; simp at hpos
    exact h
  clear hmap;have hm0 := hm;obtain ⟨es, clock, hb, hent, hnb, hcl, hnk⟩ := hm;have hrl := lt_of_block hb;have hlen := hent.len;have hsmall := hent.small;obtain ⟨hkeys, hkey⟩ := hent.keys;have hkl : kv.length ≤ 4294967296 := by
    have := nodup_lt_len (n := 4294967296) hnk (fun k hk => by obtain ⟨p, hp, rfl⟩ := List.mem_map.1 hk; exact hsmall p hp)
    simpa using this
  -- the slice of keys
  refine wT fun K3 hK3 => ?_;rw [wCo, wMw, eTm, k1.get 0 (by omega), g0, wCo];refine wNc (q := ⟨tb, to, none⟩) (by rw [eTm, gQ]) ?_;refine wC (wFa (b := tb) (i := to) hF (by rw [eTm, gQ]) ?_);refine wC (wp_load h97 (b := tb) (o := to) (by rw [eTm, gQ]; simp) hc ?_);refine wC (wp_lenMap (q := some r) (A := A) (kv := kv) hT (by rw [eTm, gQ]) (.inr ⟨r, rfl, hm0⟩) ?_);refine wC (wp_make0 (n := kv.length) hs hz (by have := Nat.mul_le_mul hbs hkl; omega) (by omega) (by rw [eTm, gQ]) ?_);have f1 := Fr.alloc [] w (.cells (madeCells [Value.int .u32 0].toArray (kv.length * 1)) e59);have th1 := there_new w (madeCells [Value.int .u32 0].toArray (kv.length * 1)) e59;have sz1 := size_alloc w (.cells (madeCells [Value.int .u32 0].toArray (kv.length * 1)) e59);have hmc : (madeCells [Value.int .u32 0].toArray (kv.length * 1)).size = kv.length * 1 := by simp [madeCells]
  rw [hmc] at th1;generalize w.alloc (.cells (madeCells [Value.int .u32 0].toArray (kv.length * 1)) e59) = w1 at f1 th1 sz1 ⊢;refine wC (wp_alloc hz146 ?_);have f2 := Fr.alloc [] w1 (.cells (Value.slice none 0 0).cells T146);have th2 : (w1.alloc (.cells (Value.slice none 0 0).cells T146)).there w1.heap.size 0 1 := there_new w1 #[.slice none 0 0] T146;have sz2 := size_alloc w1 (.cells (Value.slice none 0 0).cells T146);generalize w1.alloc (.cells (Value.slice none 0 0).cells T146) = w2 at f2 th2 sz2 ⊢;refine wC (wp_store h146 (b := w1.heap.size) (o := 0) (v := .slice (some ⟨w.heap.size, 0, none⟩) 0 kv.length) (by rw [eTm, gQ]) (by rw [eTm, gR, gQ]) rfl th2 ?_);rw [pNo, wNi];have f3 := Fr.set w2 w1.heap.size 0 (.slice (some ⟨w.heap.size, 0, none⟩) 0 kv.length);have c3 : (w2.setCell ⟨w1.heap.size, 0, none⟩ (.slice (some ⟨w.heap.size, 0, none⟩) 0 kv.length)).cell? ⟨w1.heap.size, 0, none⟩ = some (.slice (some ⟨w.heap.size, 0, none⟩) 0 kv.length) := range_set th2;generalize w2.setCell ⟨w1.heap.size, 0, none⟩ (.slice (some ⟨w.heap.size, 0, none⟩) 0 kv.length) = w3 at f3 c3 ⊢;have th3 := f3.there th2;have tl3 := f3.there (f2.there th1);have sz3 := f3.size;have f03 : Fr [] w w3 := (f1.tr f2).trans f3 (by intro z hz; simp at hz; subst hz; exact .inl (by simp only; omega));generalize hb2 : ((((((b1.put (some 14) (.pointer (some ⟨tb, to, none⟩))).put (some 15) (.pointer (some ⟨tb, to, none⟩))).put (some 16) (.pointer (some ⟨tb, to + 0, none⟩))).put (some 17) (.map (some r))).put (some 18) (.int .i64 kv.length)).put (some 19) (.slice (some ⟨w.heap.size, 0, none⟩) 0 kv.length)).put (some 4) (.pointer (some ⟨w1.heap.size, 0, none⟩)) = b2;have k2 : Kept 4 b1 b2 := by subst hb2; exact ((((((Kept.put0 (by omega) _).put (by omega) _).put (by omega) _).put (by omega) _).put (by omega) _).put (by omega) _).put (by omega) _
  have q4 : get b2 4 = .pointer (some ⟨w1.heap.size, 0, none⟩) := by subst hb2; exact gQ
  clear hb2;have hz2 := k2.size;generalize hob : w1.heap.size = ob at *;refine hK3 b2 w3 (tUp ?_)
  -- the keys collected
  refine tId (wp_seq_k fun K4 hK4 => ?_);refine wS fun K5 hK5 => ?_;rw [wCo, wMw, eTm, k2.get 0 (by omega), k1.get 0 (by omega), g0, wCo];refine wNc (q := ⟨tb, to, none⟩) (by rw [eTm, gQ]) ?_;refine wC (wFa (b := tb) (i := to) hF (by rw [eTm, gQ]) ?_);refine wC (wp_load h97 (b := tb) (o := to) (by rw [eTm, gQ]; simp) (f03.cell hc .nil) ?_);rw [wCo];have hb3 : w3.heap[r]? = some (.map es clock) := by rw [f03.block r hrl (by simp)]; exact hb
  refine wp_rangeMap hT (by rw [eTm, gQ]) hb3 ?_;rw [wNi];have f4 := Fr.alloc [] w3 (.mapIter (some r) clock #[] clock);have hi4 : (w3.alloc (.mapIter (some r) clock #[] clock)).heap[w3.heap.size]? = some (.mapIter (some r) clock #[] clock) := by show (w3.heap.push _)[w3.heap.size]? = _; simp
  have sz4 := size_alloc w3 (.mapIter (some r) clock #[] clock);generalize w3.alloc (.mapIter (some r) clock #[] clock) = w4 at f4 hi4 sz4 ⊢;generalize hit : w3.heap.size = it at *;generalize hb3' : ((((b2.put (some 20) (.pointer (some ⟨tb, to, none⟩))).put (some 21) (.pointer (some ⟨tb, to, none⟩))).put (some 22) (.pointer (some ⟨tb, to + 0, none⟩))).put (some 23) (.map (some r))).put (some 24) (.pointer (some ⟨it, 0, none⟩)) = b3;have k3 : Kept 8 b2 b3 := by subst hb3'; exact ((((Kept.put0 (by omega) _).put (by omega) _).put (by omega) _).put (by omega) _).put (by omega) _
  have q24 : get b3 24 = .pointer (some ⟨it, 0, none⟩) := by subst hb3'; exact gQ
  clear hb3';have hz3 := k3.size;have f04 : Fr [] w w4 := f03.tr f4;refine hK5 b3 w4 ?_;refine wp_block (wp_loop (fun a' w' => ∃ (L : List MapEntry) (seen : Array Nat) (c0 : Nat) (u : Value), a'.tmps.size = 53 ∧ a'.defers = [] ∧ get a' 0 = .pointer (some ⟨tb, to, none⟩) ∧ get a' 1 = .func (.func g) #[] caps ∧ get a' 4 = .pointer (some ⟨ob, 0, none⟩) ∧ get a' 24 = .pointer (some ⟨it, 0, none⟩) ∧
      (L.map (·.born)).Nodup ∧ (∀ e ∈ L, e ∈ es.toList) ∧ seen.toList = L.map (·.born) ∧ w'.heap[it]? = some (.mapIter (some r) clock seen c0) ∧ clock ≤ c0 ∧ w'.cell? ⟨ob, 0, none⟩ = some u ∧ w'.there ob 0 1 ∧ Own w' (fun b => w.heap.size ≤ b ∧ b < w'.heap.size ∧ b ≠ ob ∧ b ≠ it) 1 u L.length (L.map (·.key)) ∧
      (∃ b o c, u = .slice (some ⟨b, o, none⟩) L.length c) ∧ Fr [] w w') (fun _ w' => es.size - (match w'.heap[it]? with | some (.mapIter _ _ seen _) => seen.size | _ => 0)) ?_ ?_)
  · refine ⟨[], #[], clock, .slice (some ⟨w.heap.size, 0, none⟩) 0 kv.length, by omega, by rw [k3.defers, k2.defers, k1.defers, hd0], by rw [k3.get 0 (by omega), k2.get 0 (by omega), k1.get 0 (by omega), g0], by rw [k3.get 1 (by omega), k2.get 1 (by omega), k1.get 1 (by omega), g1], by rw [k3.get 4 (by omega), q4], q24,
      List.nodup_nil, by simp, rfl, hi4, Nat.le_refl _, f4.cell c3 .nil, f4.there th3, ⟨rfl, .inr ⟨w.heap.size, 0, kv.length, ⟨Nat.le_refl _, by omega, by omega, by omega⟩, rfl, by simp, by simp only [maxLen]; omega, range_nil, f4.there tl3⟩⟩, ⟨_, _, _, rfl⟩, f04⟩
  rintro a5 w5 ⟨L, seen, c0, u, hs5, hd5, p0, p1, p4, p24, hLn, hLs, hseen, hi5, hcc, hcu, hthu, hou, ⟨ub, uo, uc, hus⟩, f5⟩;have hb5 : w5.heap[r]? = some (.map es clock) := by rw [f5.block r hrl (by simp)]; exact hb
  have hszS : seen.size = L.length := by rw [← Array.length_toList, hseen, List.length_map]
  have hLlen : L.length ≤ es.size := by
    have := nodup_sub_len (m := es.toList.map (·.born)) hLn (fun b hb => by obtain ⟨e, he, rfl⟩ := List.mem_map.1 hb; exact List.mem_map.2 ⟨e, hLs e he, rfl⟩)
    simpa using this
  refine wS fun K6 hK6 => ?_;rw [wCo];refine wp_nextMap (x := .tmp 24) (by rw [eTm, p24]) hi5 hb5 (fun e he => hcl e he) hcc (fun hall => ?_) (fun e he hns w6 f6 hi6 => ?_)
  · rw [wCo];refine wp_extract (vs := #[.bool false]) (v := .bool false) (by rw [eTm, gQ]) rfl ?_;rw [wNi];generalize hb6 : (a5.put (some 25) (.tuple #[.bool false])).put (some 26) (.bool false) = a6;have k6 : Kept 25 a5 a6 := by subst hb6; exact (Kept.put0 (by omega) _).put (by omega) _
    have q26 : get a6 26 = .bool false := by subst hb6; exact gQ
    clear hb6;have hz6 := k6.size;refine hK6 a6 w5 ?_;refine wp_seq_k fun K7 hK7 => ?_;refine wp_cond_split (t := false) (by rw [eTm, q26]) (fun h => by cases h) fun _ => ?_;refine wp_exit ?_;show K4 a6 w5
    refine hK4 a6 w5 (tUp ?_)
    -- the keys in order
    have hperm : (L.map (fun e => keyN e.key)).Perm (kv.map (·.1)) := by
      rw [hkeys];have hpb : (L.map (·.born)).Perm (es.toList.map (·.born)) := perm_of_same hLn hnb (fun b => by
        constructor
        · intro hb; obtain ⟨e, he, rfl⟩ := List.mem_map.1 hb; exact List.mem_map.2 ⟨e, hLs e he, rfl⟩
        · intro hb; obtain ⟨e, he, rfl⟩ := List.mem_map.1 hb; rw [← hseen]; exact hall e he)
      have hkk : ∀ e ∈ es.toList, keyN e.key = keyN ((es.toList.find? (fun y => y.born == e.born)).getD e).key := by
        intro e he
        cases hfd : es.toList.find? (fun y => y.born == e.born) with
        | none => rfl
        | some y =>
          have hy := List.find?_some hfd;have hym := List.mem_of_find?_eq_some hfd;simp at hy
          have : y = e := by
            obtain ⟨i1, hi1⟩ := List.getElem?_of_mem hym;obtain ⟨i2, hi2⟩ := List.getElem?_of_mem he;have e1 : (es.toList.map (·.born))[i1]? = some y.born := by rw [List.getElem?_map, hi1]; rfl
            have e2 : (es.toList.map (·.born))[i2]? = some y.born := by rw [List.getElem?_map, hi2, hy]; rfl
            have : i1 = i2 := (List.getElem?_inj (List.getElem?_eq_some_iff.1 e1).1 hnb).1 (e1.trans e2.symm);subst this;rw [hi1] at hi2;exact Option.some.inj hi2
          rw [this]; rfl
      have hF : ∀ l : List MapEntry, (∀ e ∈ l, e ∈ es.toList) → l.map (fun e => keyN e.key) = (l.map (·.born)).map (fun b => ((es.toList.find? (fun y => y.born == b)).map (fun y => keyN y.key)).getD 0) := by
        intro l hl;rw [List.map_map];refine List.map_congr_left (fun e he => ?_);have := hkk e (hl e he);simp only [Function.comp_apply]
        cases hfd : es.toList.find? (fun y => y.born == e.born) with
        | none =>
          have := List.find?_eq_none.1 hfd e (hl e he);simp at this
        | some y => rw [hfd] at this; simpa using this
      rw [hF L hLs, hF es.toList (fun e he => he)];exact hpb.map _
    have hLlen2 : L.length = kv.length := by have := hperm.length_eq; simpa using this
    have hkeyL : L.map (·.key) = u32s (L.map (fun e => keyN e.key)) := by
      unfold u32s;rw [List.map_map];exact List.map_congr_left (fun e he => (hkey e (hLs e he)).1)
    have hLpos : 0 < L.length := by omega
    subst hus;obtain ⟨hr5, hl5, hub⟩ : w5.rangeAt ub uo (L.map (·.key)) ∧ w5.there ub uo L.length ∧ (w.heap.size ≤ ub ∧ ub < w5.heap.size ∧ ub ≠ ob ∧ ub ≠ it) := by
      obtain ⟨_, h | ⟨g', o', c', hg', hv', hc1, hc2, hr', ht'⟩⟩ := hou
      · omega
      simp at hv'
      obtain ⟨⟨rfl, rfl⟩, rfl⟩ := hv';exact ⟨hr', there_part ht' (Nat.le_refl _) (by omega), hg'⟩
    rw [hkeyL] at hr5;generalize hks : L.map (fun e => keyN e.key) = ks at hperm hr5;have hksl : ks.length = L.length := by rw [← hks, List.length_map]
    have hkb : ∀ k ∈ ks, k < 4294967296 := fun k hk => by
      have := hperm.mem_iff.1 hk;obtain ⟨p, hp, rfl⟩ := List.mem_map.1 this;exact hsmall p hp
    clear hkeyL hks;rw [← hksl] at hl5 hcu hLpos hLlen2;generalize hLL : L.length = nL at *;subst hksl;refine wT fun K8 hK8 => ?_;refine wC (wp_load h146 (b := ob) (o := 0) (by rw [eTm, k6.get 4 (by omega), p4]) hcu ?_);refine wC (wp_makeIface (v := .slice (some ⟨ub, uo, none⟩) ks.length uc) (by rw [eTm, gQ]) hs ?_);refine wC (wp_makeFunc1 (v := .pointer (some ⟨ob, 0, none⟩)) (by rw [eTm, gR, gR, k6.get 4 (by omega), p4]) ?_);rw [wCo];refine wp_calls hsort.enters (vs := #[.iface T146 (.slice (some ⟨ub, uo, none⟩) ks.length uc), .func (.func f98) #[] #[.pointer (some ⟨ob, 0, none⟩)]])
      (by simp only [List.map_toArray, List.map_cons, List.map_nil, eTm]; rw [gR, gQ, gQ])
      ((hsort.call w5 ob ub uo uc ks hcu hr5 hl5 (fun e => hub.2.2.1 e.symm) hkb (by omega) (by intro e; rw [e] at hLpos; simp at hLpos)).mono (by rintro e' w' ⟨⟨z, rfl⟩, h⟩; exact ⟨z, rfl, h⟩)) ?_
    rintro zz w6 ⟨ks', hp', hso', hr6, f6⟩;rw [wNi];generalize hb7 : (((a6.put (some 33) (.slice (some ⟨ub, uo, none⟩) ks.length uc)).put (some 34) (.iface T146 (.slice (some ⟨ub, uo, none⟩) ks.length uc))).put (some 35) (.func (.func f98) #[] #[.pointer (some ⟨ob, 0, none⟩)])).put (some 36) zz = a7;have k7 : Kept 25 a6 a7 := by subst hb7; exact (((Kept.put0 (by omega) _).put (by omega) _).put (by omega) _).put (by omega) _
    clear hb7;have hz7 := k7.size;have hskeys : (sortKv kv).map (·.1) = ks' := sortKv_keys (hp'.trans hperm) hso';have hskl : (sortKv kv).length = ks'.length := by rw [← hskeys, List.length_map]
    have hksl' : ks'.length = ks.length := hp'.length_eq;have f06 : Fr [] w w6 := f5.trans f6 (by intro z hz; simp at hz; subst hz; exact .inl hub.1);have c6 := f6.cell hcu (.cons (.inl (by simp only; exact hub.2.2.1)) .nil);have sz5 := f5.size;have sz6 := f06.size;have hub6 : ub < w6.heap.size := Nat.lt_of_lt_of_le hub.2.1 f6.size;refine hK8 a7 w6 (tUp ?_);refine wT fun K9 hK9 => ?_;refine wC (wp_load h146 (b := ob) (o := 0) (by rw [eTm, k7.get 4 (by omega), k6.get 4 (by omega), p4]) c6 ?_);refine wC (wp_len hs (by rw [eTm, gQ]) ?_);rw [wCo, wMw, eCo, wNi];generalize hb8 : ((a7.put (some 37) (.slice (some ⟨ub, uo, none⟩) ks.length uc)).put (some 38) (.int .i64 ks.length)).put (some 39) (.int .i64 0) = a8;have k8 : Kept 25 a7 a8 := by subst hb8; exact ((Kept.put0 (by omega) _).put (by omega) _).put (by omega) _
    have q37 : get a8 37 = .slice (some ⟨ub, uo, none⟩) ks.length uc := by subst hb8; rw [gR, gR, gQ]
    have q38 : get a8 38 = .int .i64 ks.length := by subst hb8; rw [gR, gQ]
    have q39 : get a8 39 = .int .i64 0 := by subst hb8; exact gQ
    clear hb8;have hz8 := k8.size;refine hK9 a8 w6 (tUp ?_);refine wp_block (wp_loop (fun a' w' => ∃ (j : Nat) (own' : List Rng), j ≤ ks.length ∧ a'.tmps.size = 53 ∧ a'.defers = [] ∧ get a' 0 = .pointer (some ⟨tb, to, none⟩) ∧ get a' 1 = .func (.func g) #[] caps ∧ get a' 37 = .slice (some ⟨ub, uo, none⟩) ks.length uc ∧ get a' 38 = .int .i64 ks.length ∧ get a' 39 = .int .i64 j ∧
        I ((sortKv kv).take j) own' w' ∧ Fr own w6 w' ∧ (∀ z ∈ own', z.In own w6)) (fun a' _ => ks.length - idxOf (get a' 39)) ?_ ?_)
    · exact ⟨0, own, Nat.zero_le _, by omega, by rw [k8.defers, k7.defers, k6.defers, hd5], by rw [k8.get 0 (by omega), k7.get 0 (by omega), k6.get 0 (by omega), p0], by rw [k8.get 1 (by omega), k7.get 1 (by omega), k6.get 1 (by omega), p1], q37, q38, q39, hstab _ _ _ _ hI0 f06, Fr.refl _ _, fun z hz => Rng.in_self hz⟩
    rintro a9 w9 ⟨j, own', hj, hs9, hd9, r0, r1, r37, r38, r39, hI9, f9, hin9⟩;refine wS fun K10 hK10 => ?_;refine wC (wp_lss (k1 := .i64) (i := j) (j := ks.length) (by rw [eTm, r39]) (by rw [eTm, r38]) ?_);rw [wNi];generalize hb10 : a9.put (some 40) (.bool (decide ((j : Int) < ks.length))) = a10;have k10 : Kept 40 a9 a10 := by subst hb10; exact Kept.put0 (Nat.le_refl _) _
    have q40 : get a10 40 = .bool (decide ((j : Int) < ks.length)) := by subst hb10; exact gQ
    clear hb10;have hz10 := k10.size;have f09 : Fr own w w9 := (f06.nil (l := own)).tr f9;refine hK10 a10 w9 ?_;refine wp_seq_k fun K11 hK11 => ?_;refine wp_cond_split (t := decide ((j : Int) < ks.length)) (by rw [eTm, q40]) (fun hlt => wp_skip (hK11 a10 w9 ?_)) (fun hge => ?_)
    · have hjl : j < ks.length := by simpa using hlt
      have hjs : j < (sortKv kv).length := by omega
      have hjk : j < ks'.length := by omega
      have hmem : (sortKv kv)[j] ∈ kv := (sortKv_perm kv).mem_iff.1 (List.getElem_mem hjs);have hkj : ks'[j] = ((sortKv kv)[j]).1 := by simp [← hskeys]
      have hks32 : ks'[j] < 4294967296 := hkb _ (hp'.mem_iff.1 (List.getElem_mem hjk));have hm9 : TagM w9 A r kv := hm0.kept f09 (fun z hz => (hown z hz).1) (fun z hz e => (hown z hz).1 (e ▸ hAr)) (fun _ h => h);have hc9 : w9.cell? ⟨tb, to, none⟩ = some (.map (some r)) := f09.cell hc (fun z hz => .inl (hown z hz).2.1);have hr9 : w9.rangeAt ub uo (u32s ks') := f9.range hr6 (fun z hz => .inl (by have := (hown z hz).2.2; omega));have hcell9 : w9.cell? ⟨ub, uo + j, none⟩ = some (.int .u32 (ks'[j] : Nat)) := hr9 j _ (by simp [u32s, hjk]);refine wp_seq_k fun K12 hK12 => ?_;refine wp_block (wp_mono (show Code.wp P _ (Exit.then K12 (Exit.inBlock 3 (Exit.then K12 _))) a10 w9 from ?_) (fun _ _ _ => inBlock_then));refine wS fun K13 hK13 => ?_;refine wC (wp_indexAddr hs (b := ub) (o := uo) (len := ks.length) (cap := uc) (k1 := .i64) (i := j) (by rw [eTm, k10.get 37 (by omega), r37]) (by rw [eTm, k10.get 39 (by omega), r39]) (by omega) (by omega) ?_);refine wC (wp_load h59 (b := ub) (o := uo + j) (v := .int .u32 (ks'[j] : Nat)) (by rw [eTm, gQ]; simp) hcell9 ?_);rw [wCo, wAg, eTm, gQ, wNi];generalize hb11 : ((a10.put (some 41) (.pointer (some ⟨ub, uo + (j : Int).toNat * 1, none⟩))).put (some 42) (.int .u32 (ks'[j] : Nat))).put (some 7) (.int .u32 (ks'[j] : Nat)) = a11;have k11 : Kept 7 a9 a11 := by subst hb11; exact (k10.mono (by omega)).trans (((Kept.put0 (by omega) _).put (by omega) _).put (by omega) _)
      have q7 : get a11 7 = .int .u32 (ks'[j] : Nat) := by subst hb11; exact gQ
      have q37' : get a11 37 = .slice (some ⟨ub, uo, none⟩) ks.length uc := by subst hb11; rw [gR, gR, gR, k10.get 37 (by omega), r37]
      have q38' : get a11 38 = .int .i64 ks.length := by subst hb11; rw [gR, gR, gR, k10.get 38 (by omega), r38]
      have q39' : get a11 39 = .int .i64 j := by subst hb11; rw [gR, gR, gR, k10.get 39 (by omega), r39]
      clear hb11;have hz11 := k11.size;refine hK13 a11 w9 ?_;refine wp_reg ?_;rw [wCo, wMw, eTm, k11.get 1 (by omega), r1, wCo, wMw, eTm, gR, q7, wCo, wMw, eTm, gR, gR, k11.get 0 (by omega), r0, wCo];refine wNc (q := ⟨tb, to, none⟩) (by rw [eTm, gQ]) ?_;refine wC (wFa (b := tb) (i := to) hF (by rw [eTm, gQ]) ?_);refine wC (wp_load h97 (b := tb) (o := to) (by rw [eTm, gQ]; simp) hc9 ?_);rw [wCo, wMw, eTm, gR, gR, gR, gR, gR, gR, q7, wCo];refine wp_mapGet (r := r) (k := ks'[j]) (A := A) (kv := kv) (x := ((sortKv kv)[j]).2) hT (by rw [eTm, gR, gQ]) (by rw [eTm, gQ]) hm9 (by rw [hkj]; exact hmem) ?_;intro uv yv hxy hov;rw [wCo];refine wp_callF (f := g) (caps := caps) (vs := #[.int .u32 (ks'[j] : Nat), uv]) (R := fun _ w' => ∃ own'', I ((sortKv kv).take j ++ [(ks'[j], .oct yv)]) own'' w' ∧ Fr own' w9 w' ∧ ∀ z ∈ own'', z.In own' w9) hg
        (by rw [eTm, gR, gR, gR, gR, gR, gR, gR, gQ])
        (by simp only [List.map_toArray, List.map_cons, List.map_nil, eTm]; rw [gR, gR, gR, gR, gR, gR, gQ, gQ])
        ((hcall ((sortKv kv).take j) own' w9 (ks'[j]) yv uv hI9 (by rw [hkj, ← hxy]; exact hmem) hov (by rw [show (ks'[j], V.oct yv) = (sortKv kv)[j] from by rw [hkj, ← hxy], ← List.take_succ_eq_append_getElem hjs]; exact List.take_prefix _ _) f09.size).mono (by rintro e' w' ⟨⟨z, rfl⟩, h⟩; exact ⟨z, rfl, h⟩)) ?_ ⟨_, rfl⟩
      rintro zz2 w12 ⟨own'', hI12, f12, hin12⟩;rw [wNi];refine hK12 _ w12 ?_;refine wp_reg ?_;refine wC (wp_add (k1 := .i64) (i := j) (j := 1) (by rw [eTm, gR, gR, gR, gR, gR, gR, gR, gR, gR, q39']) rfl ?_);have hwr : IntKind.i64.wrap ((j : Int) + 1) = ((j + 1 : Nat) : Int) := by
        simp [IntKind.wrap, IntKind.bits, IntKind.signed]; omega
      rw [hwr, wCo, wMw, eTm, gQ, wNi];have hK' : ∀ (t : Nat), t < 39 → t ≠ 7 → get (((((((((((a11.put (some 43) (.func (.func g) #[] caps)).put (some 44) (.int .u32 (ks'[j] : Nat))).put (some 45) (.pointer (some ⟨tb, to, none⟩))).put (some 46) (.pointer (some ⟨tb, to, none⟩))).put (some 47) (.pointer (some ⟨tb, to + 0, none⟩))).put (some 48) (.map (some r))).put (some 49) (.int .u32 (ks'[j] : Nat))).put (some 50) uv).put (some 51) zz2).put (some 52) (.int .i64 (j + 1 : Nat))).put (some 39) (.int .i64 (j + 1 : Nat))) t = get a11 t := by
        intro t ht _;rw [gR, gR, gR, gR, gR, gR, gR, gR, gR, gR, gR]
      refine ⟨⟨j + 1, own'', hjl, by simp only [sPu]; omega, by simp only [dPu]; rw [k11.defers, hd9], ?_, ?_, ?_, ?_, ?_, ?_, ?_, ?_⟩, ?_⟩
      · rw [hK' 0 (by omega) (by omega), k11.get 0 (by omega), r0]
      · rw [hK' 1 (by omega) (by omega), k11.get 1 (by omega), r1]
      · rw [hK' 37 (by omega) (by omega), q37']
      · rw [hK' 38 (by omega) (by omega), q38']
      · exact gQ
      · have e : (ks'[j], V.oct yv) = (sortKv kv)[j] := by rw [hkj, ← hxy]
        rw [e] at hI12;rw [List.take_succ_eq_append_getElem hjs];exact hI12
      · exact f9.trans f12 hin9
      · intro z hz
        rcases hin12 z hz with h | ⟨y, hy, h1, h2, h3⟩
        · have := f9.size; exact .inl (by omega)
        rcases hin9 y hy with h | ⟨x', hx', h4, h5, h6⟩
        · exact .inl (by omega)
        exact .inr ⟨x', hx', by omega, by omega, by omega⟩
      rw [gQ, r39]; simp [idxOf]; omega
    refine wp_exit ?_;have hje : j = ks.length := by simp at hge; omega
    subst hje;have htk : (sortKv kv).take ks.length = sortKv kv := List.take_of_length_le (by omega);rw [htk] at hI9;refine ⟨by rw [k10.defers, hd9], .tuple #[], by simp [results, hres], ⟨_, rfl⟩, own', hI9, f09, fun z hz => ?_⟩
    rcases hin9 z hz with h | h
    · exact .inl (by omega)
    exact .inr h
  rw [wCo];have sz6 := f6.size;refine wp_extract (vs := #[.bool true, e.key, e.val]) (v := .bool true) (by rw [eTm, gQ]) rfl ?_;rw [wNi];generalize hb6 : (a5.put (some 25) (.tuple #[.bool true, e.key, e.val])).put (some 26) (.bool true) = a6;have k6 : Kept 25 a5 a6 := by subst hb6; exact (Kept.put0 (by omega) _).put (by omega) _
  have q26 : get a6 26 = .bool true := by subst hb6; exact gQ
  clear hb6;have hz6 := k6.size;refine hK6 a6 w6 ?_;refine wp_seq_k fun K7 hK7 => ?_;refine wp_cond_split (t := true) (by rw [eTm, q26]) (fun _ => wp_skip (hK7 a6 w6 ?_)) (fun h => by cases h);refine wp_block ?_;refine wT fun K8 hK8 => ?_;rw [wCo];have hitne : it ≠ r := by intro e'; rw [e', hb5] at hi5; cases hi5
  have hb6' : w6.heap[r]? = some (.map es clock) := by rw [f6.block r (lt_of_block hb5) (by intro z hz; simp at hz; subst hz; exact hitne)]; exact hb5
  refine wp_entryMap (e := e) (by rw [eTm, k6.get 24 (by omega), p24]) hi6 hb6' he hnb ?_;refine wC (wp_extract (vs := #[e.key, e.val]) (v := e.key) (by rw [eTm, gQ]) rfl ?_);rw [wCo, wAg, eTm, gQ, wNi];generalize hb7 : ((a6.put (some 27) (.tuple #[e.key, e.val])).put (some 28) e.key).put (some 5) e.key = a7;have k7 : Kept 5 a6 a7 := by subst hb7; exact ((Kept.put0 (by omega) _).put (by omega) _).put (by omega) _
  have q5 : get a7 5 = e.key := by subst hb7; exact gQ
  have q24' : get a7 24 = .pointer (some ⟨it, 0, none⟩) := by subst hb7; rw [gR, gR, gR, k6.get 24 (by omega), p24]
  clear hb7;have hz7 := k7.size;have f06 : Fr [] w w6 := f5.trans f6 (by intro z hz; simp at hz; subst hz; exact .inl (by simp only; omega));have hobit : ob ≠ it := by omega
  have hcu6 := f6.cell hcu (.cons (.inl (by simp only; omega)) .nil);have hthu6 := f6.there hthu;have hou6 : Own w6 (fun b => w.heap.size ≤ b ∧ b < w6.heap.size ∧ b ≠ ob ∧ b ≠ it) 1 u L.length (L.map (·.key)) :=
    hou.kept f6 (by intro z hz hA'; simp at hz; subst hz; exact absurd rfl hA'.2.2.2) (fun b h => ⟨h.1, by omega, h.2.2.1, h.2.2.2⟩)
  refine hK8 a7 w6 (tUp ?_);refine wp_reg ?_;refine wC (wp_load h146 (b := ob) (o := 0) (by rw [eTm, k7.get 4 (by omega), k6.get 4 (by omega), p4]) hcu6 ?_);rw [wCo, wMw, eTm, gR, q5, wCo];have hkc : e.key.cells = #[e.key] := by rw [(hkey e he).1]; rfl
  refine wp_slice1 (cs := [e.key]) hs hz rfl (by omega) (by rw [eTm, gQ, hkc]) rfl ?_;intro _;have f7 := Fr.alloc [] w6 (.cells [e.key].toArray e59);have r7 := range_new w6 [e.key].toArray e59 (0, 0);have sz7 := size_alloc w6 (.cells [e.key].toArray e59);generalize w6.alloc (.cells [e.key].toArray e59) = w7 at f7 r7 sz7 ⊢;have hou7 : Own w7 (fun b => w.heap.size ≤ b ∧ b < w7.heap.size ∧ b ≠ ob ∧ b ≠ it) 1 u L.length (L.map (·.key)) :=
    hou6.kept f7 (by simp) (fun b h => ⟨h.1, by omega, h.2.2.1, h.2.2.2⟩)
  have hLlt : L.length < es.size := by
    have := nodup_sub_len (l := e.born :: L.map (·.born)) (m := es.toList.map (·.born)) (by rw [List.nodup_cons]; exact ⟨by rw [← hseen]; exact hns, hLn⟩) (fun b hb => by
      rcases List.mem_cons.1 hb with rfl | hb
      · exact List.mem_map.2 ⟨e, he, rfl⟩
      · obtain ⟨e', he', rfl⟩ := List.mem_map.1 hb; exact List.mem_map.2 ⟨e', hLs e' he', rfl⟩)
    simp at this; omega
  have hess : es.size ≤ 4294967296 := by rw [← Array.length_toList, hlen]; exact hkl
  rw [wCo];refine wp_append (z := [.int .u32 0]) (v := u) (n := L.length) (m := 1) (c := 1) (xs := L.map (·.key)) (news := [e.key]) (b := w6.heap.size) (o := 0) hs hz rfl
    (by rw [eTm, gR, gR, gQ]) (by rw [eTm, gQ]) hou7 (by omega) rfl r7 (by intro z hz'; simp at hz'; subst hz'; rw [(hkey e he).1]; rfl)
    (by have : (L.length + 1) * bs ≤ 4294967296 * 16 := Nat.mul_le_mul (by omega) hbs; omega) (by simp only [maxLen]; omega) ?_
  intro v' w8 f8 ho8 hbk;rw [wCo];have hspin : ∀ z ∈ spare u 1, w.heap.size ≤ z.b ∧ z.b < w7.heap.size ∧ z.b ≠ ob ∧ z.b ≠ it := hou7.spare_in;have sz8 := f8.size;have th8 : w8.there ob 0 1 := f8.there (f7.there hthu6);refine wp_store h146 (b := ob) (o := 0) (v := v') (by rw [eTm, gR, gR, gR, gR, k7.get 4 (by omega), k6.get 4 (by omega), p4]) (by rw [eTm, gQ]) ho8.one th8 ?_;rw [pNo, wNi];have f9 := Fr.set w8 ob 0 v';have c9 := range_set (v := v') th8;generalize w8.setCell ⟨ob, 0, none⟩ v' = w9 at f9 c9 ⊢;have sz9 := f9.size;have hi9 : w9.heap[it]? = some (.mapIter (some r) clock (seen.push e.born) clock) := by
    have hitl := lt_of_block hi6;rw [f9.block it (by omega) (by intro z hz'; simp at hz'; subst hz'; exact hobit), f8.block it (by omega) (fun z hz' => (hspin z hz').2.2.2), f7.block it hitl (by simp)];exact hi6
  have hseen' : (seen.push e.born).toList = (L ++ [e]).map (·.born) := by rw [Array.toList_push, hseen]; simp
  refine ⟨⟨L ++ [e], seen.push e.born, clock, v', by simp only [sPu]; omega, by simp only [dPu]; rw [k7.defers, k6.defers, hd5], ?_, ?_, ?_, ?_, ?_, ?_, hseen', hi9, Nat.le_refl _, c9, f9.there th8, ?_, ?_, ?_⟩, ?_⟩
  · rw [gR, gR, gR, gR, k7.get 0 (by omega), k6.get 0 (by omega), p0]
  · rw [gR, gR, gR, gR, k7.get 1 (by omega), k6.get 1 (by omega), p1]
  · rw [gR, gR, gR, gR, k7.get 4 (by omega), k6.get 4 (by omega), p4]
  · rw [gR, gR, gR, gR, q24']
  · rw [List.map_append, List.nodup_append];refine ⟨hLn, by simp, ?_⟩;intro b hb' c hc' e';simp at hc'
    subst hc' e';exact hns (by rw [hseen]; exact hb')
  · intro e' he'
    rcases List.mem_append.1 he' with h | h
    · exact hLs e' h
    simp at h; subst h; exact he
  · have hobl := lt_of_cell hcu6;have hitl := lt_of_block hi6;have s06 := f06.size;have s7 := f7.size;have := ho8.kept (A' := fun b => w.heap.size ≤ b ∧ b < w9.heap.size ∧ b ≠ ob ∧ b ≠ it) f9 (by
      intro z hz' hA' g' o' c' _ e';simp at hz'; subst hz'
      rcases hA' with h | h
      · exact absurd rfl h.2.2.1
      · simp only at h; omega) (fun b h => by
      rcases h with h | h
      · exact ⟨h.1, by omega, h.2.2.1, h.2.2.2⟩
      · exact ⟨by omega, by omega, by omega, by omega⟩)
    simpa using this
  · obtain ⟨_, h | ⟨g', o', c', _, hv', _⟩⟩ := ho8
    · omega
    exact ⟨g', o', c', by simpa using hv'⟩
  · refine ((f06.tr f7).trans f8 (fun z hz' => .inl (hspin z hz').1)).trans f9 ?_;intro z hz'; simp at hz'; subst hz'; exact .inl (by simp only; omega)
  rw [hi9, hi5]; simp; omega
end Go.Kq

namespace Go.Kq
open Go Go.Proofs
def uuid0 : List UInt8 := List.replicate 16 0
def zU : List Value := octets uuid0
def rowB (P : Program) (t : TypeId) (z : List Value) : Bool :=
  (match P.info? t with | some i => (i.size == z.length) && (match i.zero with | some (.agg c) => valsEq c.toList z | _ => false) | none => false) &&
  (match P.underlying t with | some (.array n e) => (n == z.length) && szIs P e 1 | _ => false)
structure RowT (P : Program) (t : TypeId) (z : List Value) : Prop where
  zero : zeroOf P t (.agg z.toArray)
  size : (P.info? t).map (·.size) = some z.length
  row : ∃ e i, P.underlying t = some (.array z.length e) ∧ P.info? e = some i ∧ i.size = 1
theorem rowB_is {P : Program} {t : TypeId} {z : List Value} (h : rowB P t z = true) : RowT P t z := by
  simp only [rowB, Bool.and_eq_true] at h;obtain ⟨h1, h2⟩ := h;have h3 : zeroOf P t (.agg z.toArray) ∧ (P.info? t).map (·.size) = some z.length := by
    cases hi : P.info? t with
    | none => simp [hi] at h1
    | some i =>
      simp only [hi, Bool.and_eq_true, beq_iff_eq] at h1
      cases hz : i.zero with
      | none => simp [hz] at h1
      | some v =>
        simp only [hz] at h1;obtain ⟨h0, h1⟩ := h1
        cases v <;> simp only [] at h1 <;> first | (simp at h1; done) | skip
        rename_i c
        have := valsEq_eq h1;refine ⟨⟨i, hi, ?_⟩, by simp [h0]⟩;rw [hz, ← this]
  refine ⟨h3.1, h3.2, ?_⟩
  cases hu : P.underlying t with
  | none => simp [hu] at h2
  | some d =>
    cases d <;> simp only [hu] at h2 <;> first | (simp at h2; done) | skip
    rename_i n e
    simp only [Bool.and_eq_true, beq_iff_eq] at h2;obtain ⟨i, h4, h5⟩ := szIs_eq h2.2;exact ⟨e, i, by rw [h2.1], h4, h5⟩
section
variable {P : Program} {a : Act} {w : World} {K : Act → World → Prop} {Q : Exit → Act → World → Prop} {d : Option Tmp} {t : TypeId} {p : String} {af : Array Edge} {g : Option (Nat × Bool)}
theorem wp_loadRow {s : TypeId} {z : List Value} {x : Operand} {b o : Nat} {cs : List Value} (h : RowT P s z) (hl : cs.length = z.length) (hx : a.eval x = .pointer (some ⟨b, o, none⟩)) (hc : w.rangeAt b o cs)
    (k : K (a.put d (.agg cs.toArray)) w) : OW P ⟨d, .load s x, t, p, af, g⟩ a w K Q := by
  obtain ⟨_, hs, e, i, hu, _⟩ := h;exact ⟨wp_load_mid s x rfl b o hx cs _ hc hu rfl (by rw [hs, hl]) k⟩
theorem wp_storeRow {s : TypeId} {z : List Value} {x y : Operand} {b o : Nat} {cs : List Value} (h : RowT P s z) (hl : cs.length = z.length) (hx : a.eval x = .pointer (some ⟨b, o, none⟩)) (hy : a.eval y = .agg cs.toArray)
    (h1 : ∀ u ∈ cs, u.oneCell' = true) (ht : w.there b o cs.length) (k : K (a.put d undef) (w.setCells b o cs)) : OW P ⟨d, .store s x y, t, p, af, g⟩ a w K Q := by
  constructor
  refine wp_store_mid s x y rfl b o cs.toArray hx hy (by simpa using ht) (by rw [h.size, ← hl]; simp) (by simpa using h1) ?_
  simpa using k
theorem wp_sliceRow {s : TypeId} {z : List Value} {x : Operand} {b o : Nat} (h : RowT P s z) (hx : a.eval x = .pointer (some ⟨b, o, none⟩)) (hz : 0 < z.length)
    (k : K (a.put d (.slice (some ⟨b, o, none⟩) z.length z.length)) w) : OW P ⟨d, .slice s x none none none, t, p, af, g⟩ a w K Q := by
  obtain ⟨_, hs, e, i, hu, hi, hs1⟩ := h;have hz0 : z.length ≠ 0 := by omega
  refine wp_val (v := .slice (some ⟨b, o, none⟩) z.length z.length) (w' := w) ?_ k;simp [execOp, hx, Instr.sliceAt, Instr.sureAddr, Instr.sliceBounds, run_underlying hu, sizeOf, typeInfo, hi, hs1, hz0, add_addr]
end
theorem results_row {P : Program} {fn : Func} {t : Nat} {T : TypeId} {z : List Value} {a : Act} {w : World} {b o : Nat} {cs : List Value} (h : fn.results = #[.cell t T]) (hT : RowT P T z) (hl : cs.length = z.length) (ha : get a t = .pointer (some ⟨b, o, none⟩)) (hc : w.rangeAt b o cs) :
    (results fn a.tmps).run P w = .ok (.agg cs.toArray) w := by
  obtain ⟨_, hs, e, i, hu, _⟩ := hT;have hr := run_loadVar_mid (P := P) w b o T cs _ hc hu rfl (by rw [hs, hl]);have ha' : a.tmps[t]?.getD undef = .pointer (some ⟨b, o, none⟩) := by rw [← Array.getD_eq_getD_getElem?]; exact ha
  simp only [results, h];simp [ha', asAddr, hr]
theorem octets_one (l : List UInt8) : ∀ u ∈ octets l, u.oneCell' = true := by intro u hu; simp [octets] at hu; obtain ⟨c, _, rfl⟩ := hu; rfl
variable {P : Program} {TT TL S Tf Ti et : TypeId} {N sv st m n k o kf id : Nat}
end Go.Kq

namespace Go.Kq
open Go
theorem flatten_len {os : List (List UInt8)} (h : ∀ o ∈ os, 1 ≤ o.length) : os.length ≤ os.flatten.length := by
  induction os with
  | nil => simp
  | cons o os ih =>
    have h1 := h o (by simp);have h2 := ih fun o ho => h o (by simp [ho]);simp only [List.flatten_cons, List.length_append, List.length_cons]; omega
end Go.Kq

namespace Go.Kq
open Go
structure TagsOk (l : List (Nat × List UInt8)) : Prop where
  rise : l.Pairwise fun a b => a.1 < b.1
  key : ∀ p ∈ l, p.1 < 4294967296
  few : ∀ p ∈ l, p.2.length ≤ 32767
  len : l.length < 4294967296
theorem insKv_le {p : Nat × V} : ∀ {l : List (Nat × V)}, (∀ q ∈ l, p.1 ≤ q.1) → insKv p l = p :: l
  | [], _ => rfl
  | q :: r, h => by rw [insKv, if_pos (h q (by simp))]
theorem sortKv_id : ∀ {l : List (Nat × V)}, l.Pairwise (fun a b => a.1 < b.1) → sortKv l = l
  | [], _ => rfl
  | p :: l, h => by
    have h1 := List.pairwise_cons.1 h;show insKv p (sortKv l) = p :: l
    rw [sortKv_id h1.2, insKv_le fun q hq => Nat.le_of_lt (h1.1 q hq)]
theorem insAt_spec {out : List (Nat × List UInt8)} {k : Nat} (h : out.Pairwise fun a b => a.1 < b.1) : (∀ p ∈ out.take (insAt out k), p.1 < k) ∧ (∀ p ∈ out.drop (insAt out k), k ≤ p.1) := by
  induction out with
  | nil => simp [insAt]
  | cons q out ih =>
    have h1 := List.pairwise_cons.1 h
    by_cases hq : q.1 < k
    · have e : insAt (q :: out) k = insAt out k + 1 := by simp [insAt, List.takeWhile_cons, hq]
      rw [e];obtain ⟨i1, i2⟩ := ih h1.2;exact ⟨by intro p hp; rcases List.mem_cons.1 (by simpa using hp) with rfl | hp; exact hq; exact i1 p hp, by simpa using i2⟩
    have e : insAt (q :: out) k = 0 := by simp [insAt, List.takeWhile_cons, hq]
    rw [e];refine ⟨by simp, ?_⟩;intro p hp
    rcases List.mem_cons.1 (by simpa using hp) with rfl | hp
    · omega
    have := h1.1 p hp; omega
theorem insTag_rise {least : Nat} {out : List (Nat × List UInt8)} {t : Nat × List UInt8} (h : out.Pairwise fun a b => a.1 < b.1) : (insTag least out t).Pairwise fun a b => a.1 < b.1 := by
  unfold insTag
  split
  · exact h
  split
  · exact h
  rename_i hne
  obtain ⟨i1, i2⟩ := insAt_spec (k := t.1) h;have hd : ∀ p ∈ out.drop (insAt out t.1), t.1 < p.1 := by
    intro p hp;have h2 := i2 p hp
    rcases Nat.lt_or_ge t.1 p.1 with h3 | h3
    · exact h3
    exfalso
    have hpe : p.1 = t.1 := by omega
    cases hdr : out.drop (insAt out t.1) with
    | nil => rw [hdr] at hp; simp at hp
    | cons q r =>
      have hq : out[insAt out t.1]? = some q := by
        have := congrArg (fun l => l[0]?) hdr
        simpa using this
      have hpw := List.Pairwise.sublist (List.drop_sublist (insAt out t.1) out) h;rw [hdr] at hpw hp;have hq2 := i2 q (by rw [hdr]; simp)
      rcases List.mem_cons.1 hp with rfl | hp
      · exact hne (by rw [hq]; simp [hpe])
      have := (List.pairwise_cons.1 hpw).1 p hp; omega
  rw [List.pairwise_append];refine ⟨h.sublist (List.take_sublist _ _), List.pairwise_cons.2 ⟨hd, h.sublist (List.drop_sublist _ _)⟩, ?_⟩;intro a ha b hb;have h1 := i1 a ha
  rcases List.mem_cons.1 hb with rfl | hb
  · exact h1
  have := hd b hb; omega
theorem insTag_mem {least : Nat} {out : List (Nat × List UInt8)} {t p : Nat × List UInt8} (h : p ∈ insTag least out t) : p ∈ out ∨ p = t := by
  unfold insTag at h
  split at h
  · exact .inl h
  split at h
  · exact .inl h
  rcases List.mem_append.1 h with h | h
  · exact .inl (List.mem_of_mem_take h)
  rcases List.mem_cons.1 h with rfl | h
  · exact .inr rfl
  exact .inl (List.mem_of_mem_drop h)
theorem foldl_ins {least : Nat} : ∀ (u out : List (Nat × List UInt8)), out.Pairwise (fun a b => a.1 < b.1) → (u.foldl (insTag least) out).Pairwise (fun a b => a.1 < b.1) ∧ (∀ p ∈ u.foldl (insTag least) out, p ∈ out ∨ p ∈ u) ∧ (u.foldl (insTag least) out).length ≤ out.length + u.length
  | [], out, h => ⟨h, fun p hp => .inl hp, by simp⟩
  | t :: u, out, h => by
    obtain ⟨h1, h2, h3⟩ := foldl_ins u (insTag least out t) (insTag_rise h);refine ⟨h1, fun p hp => ?_, ?_⟩
    · rcases h2 p hp with h | h
      · rcases insTag_mem h with h | h
        · exact .inl h
        exact .inr (by simp [h])
      exact .inr (by simp [h])
    have := insTag_len least out t;simp only [List.foldl_cons, List.length_cons]; omega
theorem unks_ok {fs : List Fd} {t : T} (hk : ∀ p ∈ t.u, p.1 < 4294967296) : TagsOk (unksW fs t) := by
  obtain ⟨h1, h2, h3⟩ := foldl_ins (least := knownW fs) (t.u.take 32767) [] (by simp);refine ⟨?_, ?_, ?_, ?_⟩
  · exact List.pairwise_map.2 h1
  · intro p hp;obtain ⟨q, hq, rfl⟩ := List.mem_map.1 hp
    rcases h2 q hq with h | h
    · simp at h
    exact hk q (List.mem_of_mem_take h)
  · intro p hp;obtain ⟨q, hq, rfl⟩ := List.mem_map.1 hp;simp [wholeS]; omega
  unfold unksW unknownW;rw [List.length_map];simp at h3
  omega
end Go.Kq

namespace Go.Kq
open Go
def bodyL : List Fd → Int → Bool → List T → Nat → List UInt8
  | [], _, _, _, _ => []
  | f :: fs, ver, flex, ts, i => (if f.has ver then fieldW f ver flex (atT ts i) else []) ++ bodyL fs ver flex ts (i + 1)
theorem bodyW_eq : ∀ (fs : List Fd) (ver : Int) (flex : Bool) (ts : List T) (j : Nat), (∀ f ∈ fs, f.tag < 0) → bodyW fs ver (fieldsW fs ver flex ts j) fs.length = bodyL fs ver flex ts j
  | [], _, _, _, _, _ => rfl
  | f :: fs, ver, flex, ts, j, h => by
    have ih := bodyW_eq fs ver flex ts (j + 1) fun g hg => h g (by simp [hg]);have hf := h f (by simp);rw [bodyL, ← ih, bodyW, List.length_cons, List.range_succ_eq_map, List.flatMap_cons, List.flatMap_map, fieldsW];simp [bodyW, hf]
theorem partW_flat {fs : List Fd} {ver : Int} {flex : Bool} {t : T} (h : ∀ f ∈ fs, f.tag < 0) : partW fs ver flex t = bodyL fs ver flex t.l 0 ++ (if flex then uvW (unksW fs t).length ++ tagsW (unksW fs t) else []) := by
  have hk : knownsW fs t (fieldsW fs ver flex t.l 0) = [] := by simp [knownsW, knownW_free h]
  have hp : ∀ l : List (Nat × List UInt8), l.flatMap pairW = tagsW l := fun l => by
    simp only [tagsW, List.flatMap]; congr 1
  rw [partW, joinW, hk, bodyW_eq _ _ _ _ _ h]
  cases flex <;> simp [hp]
section
variable {ver : Int} {flex : Bool} {t : T} {nul of : Int} {sub : T → List UInt8}
theorem fieldV_i8 : fieldV 1 nul of sub ver flex t = fxW t.n 1 := by simp [fieldV, valueW, widthW]
theorem fieldV_i16 : fieldV 2 nul of sub ver flex t = fxW t.n 2 := by simp [fieldV, valueW, widthW]
theorem fieldV_i32 : fieldV 3 nul of sub ver flex t = fxW t.n 4 := by simp [fieldV, valueW, widthW]
theorem nullW_no (h : nul < 0) : nullW nul ver t = false := by
  have : ¬ nul ≥ 0 := by omega
  simp [nullW, this]
theorem fieldV_str (h : nullW nul ver t = false) : fieldV 8 nul of sub ver flex t = if flex then uvW ((wholeS t.s).length + 1) ++ wholeS t.s else fxW (wholeS t.s).length 2 ++ wholeS t.s := by
  cases flex <;> simp [fieldV, valueW, countedW, h]
theorem fieldV_str0 (h : nullW nul ver t = true) : fieldV 8 nul of sub ver flex t = if flex then [0] else fxW (-1) 2 := by
  cases flex <;> simp [fieldV, valueW, countedW, h]
end
end Go.Kq

namespace Go.Kq
open Go
theorem uvW_le5 {n : Nat} (h : n < 4294967296) : (uvW n).length ≤ 5 := uvW_le 5 n (by omega) (by simp only [Nat.reducePow]; omega)
mutual
/-- So many octets a piece. -/
def kF : Fd → Nat
  | .mk _ _ _ _ _ _ _ sub => kFs sub + 40
def kFs : List Fd → Nat
  | [] => 0
  | f :: fs => kF f + kFs fs
end
mutual
/-- No field is a tag. -/
def freeF : Fd → Bool
  | .mk _ _ _ _ tag _ _ sub => decide (tag < 0) && freeFs sub
def freeFs : List Fd → Bool
  | [] => true
  | f :: fs => freeF f && freeFs fs
end
theorem freeFs_tag : ∀ {fs : List Fd}, freeFs fs = true → ∀ f ∈ fs, f.tag < 0
  | [], _, _, h => by simp at h
  | g :: fs, h, f, hf => by
    rw [freeFs, Bool.and_eq_true] at h
    rcases List.mem_cons.1 hf with rfl | hf
    · cases f; simp [freeF] at h; exact h.1.1
    exact freeFs_tag h.2 f hf
theorem tw_pos (t : T) : 1 ≤ tw t := by cases t; rw [tw]; omega
theorem tw_eq (t : T) : tw t = 1 + t.s.length + tws t.l + tagWt t.u := by cases t; rw [tw]; rfl
theorem KeysOk.u {t : T} (h : KeysOk t) : ∀ p ∈ t.u, p.1 < 4294967296 := by cases h; assumption
theorem KeysOk.l {t : T} (h : KeysOk t) : ∀ y ∈ t.l, KeysOk y := by cases h; assumption
theorem KeysOk.zero : KeysOk .zero := .mk (by simp) (by simp)
theorem KeysOk.at {l : List T} (h : ∀ y ∈ l, KeysOk y) (i : Nat) : KeysOk (atT l i) := by
  unfold atT
  cases hi : l[i]? with
  | none => exact .zero
  | some y => exact h y (List.mem_of_getElem? hi)
theorem counted_le {flex null : Bool} {n size : Nat} (h : n ≤ 32767) (hs : size ≤ 4) : (countedW flex null n size).length ≤ 5 := by
  unfold countedW;have := uvW_le5 (n := n + 1) (by omega)
  split
  · simp
  split
  · omega
  split <;> simp only [fxL] <;> omega
theorem value_le {kind : Int} {sub : T → List UInt8} {null flex : Bool} {t : T} {S : Nat} (hS : (sub t).length ≤ S * tw t) : (valueW kind sub null flex t).length ≤ (S + 19) * tw t := by
  have h1 := tw_pos t;have h2 := tw_eq t;rw [Nat.add_mul];have h3 : (if null then [] else wholeS t.s).length ≤ t.s.length := by cases null <;> simp [wholeS]; omega
  have h4 : (if null then [] else wholeS t.s).length ≤ 32767 := by cases null <;> simp [wholeS]; omega
  unfold valueW
  split
  · simp; omega
  split
  · simp only [uuidW, List.length_append, List.length_take, List.length_replicate]; omega
  split
  · rw [List.length_append]; have := counted_le (flex := flex) (null := null) (size := 2) h4 (by omega); omega
  split
  · rw [List.length_append]; have := counted_le (flex := flex) (null := null) (size := 4) h4 (by omega); omega
  split
  · omega
  have : widthW kind ≤ 8 := by unfold widthW; repeat' split <;> try omega
  rw [fxL]; omega
theorem tws_take (l : List T) (n : Nat) : ((l.take n).map tw).sum ≤ tws l := by
  rw [tws_sum]
  induction l generalizing n with
  | nil => simp
  | cons y l ih =>
    cases n with
    | zero => simp
    | succ n => have := ih n; simp only [List.take_succ_cons, List.map_cons, List.sum_cons]; omega
theorem flat_le {f : T → List UInt8} {S : Nat} : ∀ {l : List T}, (∀ y ∈ l, (f y).length ≤ S * tw y) → (l.flatMap f).length ≤ S * (l.map tw).sum
  | [], _ => by simp
  | y :: l, h => by
    have h1 := h y (by simp);have h2 := flat_le (f := f) (S := S) (l := l) fun z hz => h z (by simp [hz]);simp only [List.flatMap_cons, List.length_append, List.map_cons, List.sum_cons, Nat.mul_add]; omega
theorem fieldV_le {kind nul of : Int} {sub : T → List UInt8} {ver : Int} {flex : Bool} {t : T} {S : Nat} (hk : KeysOk t) (hS : ∀ y, KeysOk y → (sub y).length ≤ S * tw y) : (fieldV kind nul of sub ver flex t).length ≤ (S + 20) * tw t := by
  have h1 := tw_pos t;have h2 := tw_eq t;unfold fieldV
  split
  · rw [List.length_append];have h3 : (thingsW (nullW nul ver t) t).length ≤ 32767 := by unfold thingsW; split <;> simp; omega
    have h4 := counted_le (flex := flex) (null := nullW nul ver t) (size := 4) h3 (by omega);have h5 : ((thingsW (nullW nul ver t) t).flatMap (valueW of sub false flex)).length ≤ (S + 19) * ((thingsW (nullW nul ver t) t).map tw).sum := by
      refine flat_le fun y hy => value_le (hS y ?_);unfold thingsW at hy
      split at hy
      · simp at hy
      exact hk.l y (List.mem_of_mem_take hy)
    have h6 : ((thingsW (nullW nul ver t) t).map tw).sum ≤ tws t.l := by
      unfold thingsW
      split
      · simp
      exact tws_take _ _
    have h7 := Nat.mul_le_mul_left (S + 19) (show ((thingsW (nullW nul ver t) t).map tw).sum ≤ tw t - 1 by omega);have h8 : (S + 20) * tw t = (S + 20) * (tw t - 1) + (S + 20) := by
      conv => lhs; rw [show tw t = (tw t - 1) + 1 from by omega, Nat.mul_succ]
    have h9 : (S + 20) * (tw t - 1) = (S + 19) * (tw t - 1) + (tw t - 1) := by rw [Nat.succ_mul (S + 19)]
    omega
  split
  · have := hS t hk;rw [Nat.add_mul]
    split
    · simp; omega
    simp only [List.length_cons]; omega
  have := value_le (kind := kind) (null := nullW nul ver t) (flex := flex) (hS t hk);rw [Nat.add_mul] at this ⊢;omega
theorem tagWt_app (a b : List (Nat × List UInt8)) : tagWt (a ++ b) = tagWt a + tagWt b := by simp [tagWt]
theorem tagWt_ins (least : Nat) (out : List (Nat × List UInt8)) (t : Nat × List UInt8) : tagWt (insTag least out t) ≤ tagWt out + (t.2.length + 1) := by
  unfold insTag
  split
  · omega
  split
  · omega
  have h1 : tagWt out = tagWt (out.take (insAt out t.1)) + tagWt (out.drop (insAt out t.1)) := by rw [← tagWt_app, List.take_append_drop]
  rw [tagWt_app];have h2 : tagWt (t :: out.drop (insAt out t.1)) = t.2.length + 1 + tagWt (out.drop (insAt out t.1)) := by simp [tagWt]
  omega
theorem tagWt_foldl (least : Nat) : ∀ (u out : List (Nat × List UInt8)), tagWt (u.foldl (insTag least) out) ≤ tagWt out + tagWt u
  | [], out => by simp
  | t :: u, out => by
    have h1 := tagWt_ins least out t;have h2 := tagWt_foldl least u (insTag least out t);have h3 : tagWt (t :: u) = t.2.length + 1 + tagWt u := by simp [tagWt]
    rw [List.foldl_cons]; omega
theorem tagWt_take : ∀ (u : List (Nat × List UInt8)) (n : Nat), tagWt (u.take n) ≤ tagWt u
  | [], n => by simp
  | p :: u, 0 => by simp [tagWt]
  | p :: u, n + 1 => by have := tagWt_take u n; simp [tagWt] at this ⊢; omega
theorem tagWt_whole : ∀ u : List (Nat × List UInt8), tagWt (u.map fun p => (p.1, wholeS p.2)) ≤ tagWt u
  | [] => by simp
  | p :: u => by
    have := tagWt_whole u;simp [tagWt, wholeS] at this ⊢; omega
theorem unksW_wt {fs : List Fd} {t : T} : tagWt (unksW fs t) ≤ tagWt t.u := by
  unfold unksW unknownW;have h1 := tagWt_whole ((t.u.take 32767).foldl (insTag (knownW fs)) []);have h2 := tagWt_foldl (knownW fs) (t.u.take 32767) [];have h3 := tagWt_take t.u 32767;have h4 : tagWt [] = 0 := rfl;omega
theorem tagsW_le : ∀ {l : List (Nat × List UInt8)}, (∀ p ∈ l, p.1 < 4294967296 ∧ p.2.length ≤ 32767) → (tagsW l).length ≤ 10 * tagWt l
  | [], _ => by simp [tagsW]
  | p :: l, h => by
    have h1 := tagsW_le (l := l) fun q hq => h q (by simp [hq]);obtain ⟨h2, h3⟩ := h p (by simp);have h4 := uvW_le5 h2;have h5 := uvW_le5 (n := p.2.length) (by omega);simp [tagsW, tagW, tagWt] at h1 ⊢
    omega
theorem bodyL_le {ver : Int} {flex : Bool} : ∀ {fs : List Fd} {ts : List T} {i : Nat}, (∀ f ∈ fs, ∀ y, KeysOk y → (fieldW f ver flex y).length ≤ kF f * tw y) → (∀ y ∈ ts, KeysOk y) → (bodyL fs ver flex ts i).length ≤ kFs fs * (1 + tws (ts.drop i))
  | [], ts, i, _, _ => by simp [bodyL]
  | f :: fs, ts, i, h, hk => by
    have h1 := bodyL_le (fs := fs) (ts := ts) (i := i + 1) (fun g hg => h g (by simp [hg])) hk;have h2 : (if f.has ver then fieldW f ver flex (atT ts i) else []).length ≤ kF f * tw (atT ts i) := by
      split
      · exact h f (by simp) _ (KeysOk.at hk i)
      simp
    have h3 : tw (atT ts i) + tws (ts.drop (i + 1)) ≤ 1 + tws (ts.drop i) := by
      unfold atT
      cases hi : ts[i]? with
      | none =>
        have : ts.length ≤ i := by simpa using hi
        rw [List.drop_of_length_le this, List.drop_of_length_le (by omega)];have e : tw T.zero = 1 := rfl;simp only [Option.getD_none]; rw [e]; omega
      | some y =>
        obtain ⟨hl, rfl⟩ := List.getElem?_eq_some_iff.1 hi;rw [List.drop_eq_getElem_cons hl, tws];simp only [Option.getD_some]; omega
    have h4 : kF f * tw (atT ts i) ≤ kF f * (1 + tws (ts.drop i)) := Nat.mul_le_mul_left _ (by omega);have h5 : kFs fs * (1 + tws (ts.drop (i + 1))) ≤ kFs fs * (1 + tws (ts.drop i)) := Nat.mul_le_mul_left _ (by have := tw_pos (atT ts i); omega);rw [bodyL, List.length_append, kFs, Nat.add_mul]; omega
theorem part_of_fields {fs : List Fd} {ver : Int} {flex : Bool} {t : T} (hf : freeFs fs = true) (hk : KeysOk t) (h : ∀ f ∈ fs, ∀ y, KeysOk y → (fieldW f ver flex y).length ≤ kF f * tw y) : (partW fs ver flex t).length ≤ (kFs fs + 20) * tw t := by
  rw [partW_flat (freeFs_tag hf), List.length_append];have h1 := bodyL_le (i := 0) h hk.l;have h2 := tw_eq t;have hu := unks_ok (fs := fs) hk.u;have h3 : (if flex then uvW (unksW fs t).length ++ tagsW (unksW fs t) else []).length ≤ 5 + 10 * tagWt t.u := by
    split
    · have := uvW_le5 hu.len;have := tagsW_le (l := unksW fs t) fun p hp => ⟨hu.key p hp, hu.few p hp⟩;have := unksW_wt (fs := fs) (t := t);rw [List.length_append]; omega
    simp
  rw [List.drop_zero] at h1;have h4 : kFs fs * (1 + tws t.l) ≤ kFs fs * tw t := Nat.mul_le_mul_left _ (by omega);rw [Nat.add_mul]; omega
mutual
theorem fieldW_le : ∀ (f : Fd), freeF f = true → ∀ (ver : Int) (flex : Bool) (t : T), KeysOk t → (fieldW f ver flex t).length ≤ kF f * tw t
  | .mk kind fr to nul tag df of sub, h, ver, flex, t, hk => by
    rw [freeF, Bool.and_eq_true] at h;rw [fieldW_eq, kF];exact fieldV_le (S := kFs sub + 20) hk fun y hy => part_of_fields h.2 hy (fieldsW_le sub h.2 ver flex)
theorem fieldsW_le : ∀ (fs : List Fd), freeFs fs = true → ∀ (ver : Int) (flex : Bool), ∀ f ∈ fs, ∀ y, KeysOk y → (fieldW f ver flex y).length ≤ kF f * tw y
  | [], _, _, _, f, hf => by simp at hf
  | g :: fs, h, ver, flex, f, hf => by
    rw [freeFs, Bool.and_eq_true] at h;intro y hy
    by_cases e : f = g
    · rw [e]; exact fieldW_le g h.1 ver flex y hy
    exact fieldsW_le fs h.2 ver flex f (by rcases List.mem_cons.1 hf with hf | hf; exact absurd hf e; exact hf) y hy
end
theorem partW_le {fs : List Fd} (hf : freeFs fs = true) {ver : Int} {flex : Bool} {t : T} (hk : KeysOk t) : (partW fs ver flex t).length ≤ (kFs fs + 20) * tw t := part_of_fields hf hk (fieldsW_le fs hf ver flex)
theorem small_of {fs : List Fd} {t : T} (hf : freeFs fs = true) (hk : KeysOk t) (hw : tw t ≤ 1048576) (hK : kFs fs + 20 ≤ 2048) : KeysOk t ∧ ∀ ver flex, (partW fs ver flex t).length ≤ 2147483648 := by
  refine ⟨hk, fun ver flex => ?_⟩;have h1 := partW_le hf hk (ver := ver) (flex := flex);have h2 := Nat.mul_le_mul hK hw;omega
end Go.Kq

namespace Go.Kq
open Go Go.Proofs
structure Leaf (P : Program) (f : FuncId) (ty : Ty) (g : V → List UInt8) : Prop where
  one : ty.size = 1
  call : ∀ (e : AE) (cv : Value) (x : V), Rep e.w0 e.B ty [cv] x → CallOk P e f cv (g x)
theorem Leaf.int {P : Program} {f : FuncId} {kd : IntKind} {sz : Nat} (h : ApI P f kd sz) : Leaf P f (.int kd) (apInt sz) :=
  ⟨rfl, fun e cv x hr => by obtain ⟨i, hi, rfl, h1, h2⟩ := hr; simp at hi; subst hi; exact CallOk.int h h1 h2⟩
theorem Leaf.str {P : Program} {f : FuncId} {g : V → List UInt8} (h : ApV P f .str g) : Leaf P f .str g := ⟨rfl, fun _ _ _ hr => CallOk.val h hr⟩
theorem Leaf.pstr {P : Program} {f : FuncId} {g : V → List UInt8} (h : ApV P f .pstr g) : Leaf P f .pstr g := ⟨rfl, fun _ _ _ hr => CallOk.val h hr⟩
theorem tags_small {x : V} (h : (apTags x).length < 4294967296) : (tagsT x).length < 4294967296 := by
  have := tagsW_len (tagsT x);simp only [apTags, List.length_append] at h;omega
section
variable {P : Program} {N n n2 n3 n4 m s L R id id1 id2 id3 id4 b0 b1 pb po fi o : Nat} {e : AE} {c : Ctx} {k k1 k2 : Code} {ty : Ty} {g g1 g2 : V → List UInt8} {S T : TypeId}
  {t0 t1 t2 t3 t4 t5 t6 t7 t8 t9 : TypeId} {p0 p1 p2 p3 p4 p5 p6 p7 p8 p9 : String} {e0 e1 e2 e3 e4 e5 e6 e7 e8 e9 : Array Edge}
theorem af_load (hs : (s, Value.pointer (some ⟨pb, po, none⟩)) ∈ c) (hF : fieldOf P S fi o = true) (hT : scal P T = true) (hB : e.B pb) (h1 : ty.size = 1)
    (hb : (c.free n [L, 1] && decide (L < n) && decide (1 < n) && decide (n + 3 < N) && decide (L ≠ 1)) = true) (h : ∀ cv x, Rep e.w0 e.B ty [cv] x → ApC P N e ((L, cv) :: c) k (g x)) {x : V} (hx : FA e pb (po + o) ty x) :
    ApC P N e c (.seq (Code.region id ⟨[oM n s t0 p0 e0, ⟨some (n + 1), .nilCheck (.tmp n), t1, p1, e1, none⟩, oF (n + 2) S (n + 1) fi t2 p2 e2, oL (n + 3) T (n + 2) t3 p3 e3,
      oT L (n + 3) t4 p4 e4]⟩ false) k) (g x) := by
  obtain ⟨cv, hc, hr⟩ := hx.one h1;exact ApC.load hs hF hT hc hB hb (h cv x hr)
theorem ak_call {cv : Value} {x : V} {f : FuncId} {ats : Array TypeId} (hf : Leaf P f ty g) (hr : Rep e.w0 e.B ty [cv] x) (hL : (L, cv) ∈ c) (hb : (c.free n [1] && decide (1 < n) && decide (n + 2 < N)) = true) :
    ApC P N e c (Code.region id ⟨[oM n 1 t0 p0 e0, oM (n + 1) L t1 p1 e1, oC (n + 2) f #[.tmp n, .tmp (n + 1)] ats t2 p2 e2, oT 1 (n + 2) t3 p3 e3]⟩ false) (g x) :=
  ApC.call hL (hf.call e cv x hr) hb
theorem ak_len {t : Ty} {cv : Value} {x : V} {f : FuncId} {ats : Array TypeId} {lg : Nat → List UInt8} (hf : ApL P f lg) (hr : Rep e.w0 e.B (.arr t) [cv] x) (hn : x.items.length < 4294967295) (hL : (L, cv) ∈ c) (hT : slTy P T = true) (hb : (c.free n [1] && decide (1 < n) && decide (n + 3 < N)) = true) :
    ApC P N e c (Code.region id ⟨[oM n 1 t0 p0 e0, oM (n + 1) L t1 p1 e1, ⟨some (n + 2), .call ⟨.builtin .len, #[.tmp (n + 1)], #[T]⟩, t2, p2, e2, none⟩,
      oC (n + 3) f #[.tmp n, .tmp (n + 2)] ats t3 p3 e3, oT 1 (n + 3) t4 p4 e4]⟩ false) (lg x.items.length) := by
  obtain ⟨q, cap, rfl, _, _, _⟩ := arr_cell hr;exact ApC.len hL hT (CallOk.len hf hn) hb
theorem ak_loop {t : Ty} {cv : Value} {x : V} {TI TI' TI2 TI3 : TypeId} {m' q' : Nat} {body : Code} (hr : Rep e.w0 e.B (.arr t) [cv] x) (hL : (L, cv) ∈ c) (hT : slTy P T = true)
    (hb : (c.free n [1] && decide (1 < n) && decide (n + 2 < N) && decide (n + 3 ≤ m') && decide (m' < N) && decide (n + 3 ≤ q') && decide (q' < N)) = true)
    (h : ∀ (i : Nat) (y : V) (b o ln cap : Nat), i < ln → (L, Value.slice (some ⟨b, o, none⟩) ln cap) ∈ c → e.B b → FA e b (o + i * t.size) t y → ApC P N e ((n + 2, .int .i64 i) :: (n + 1, .int .i64 ln) :: c) body (g y)) :
    ApC P N e c (.seq (Code.region id ⟨[oM n L t0 p0 e0, ⟨some (n + 1), .call ⟨.builtin .len, #[.tmp n], #[T]⟩, t1, p1, e1, none⟩, ⟨some (n + 2), .move (.const (.int .i64 0)), t2, p2, e2, none⟩]⟩ false) (.block b0 (.loop (.seq (Code.region id1 ⟨[⟨some m', .binOp .lss TI (.tmp (n + 2)) (.tmp (n + 1)) TI', t3, p3, e3, none⟩]⟩ false) (.seq (.cond (.tmp m') .skip (.exit b0)) (.seq (.block b1 body) (Code.region id2 ⟨[⟨some q', .binOp .add TI2 (.tmp (n + 2)) (.const (.int .i64 1)) TI3, t4, p4, e4, none⟩, ⟨some (n + 2), .move (.tmp q'), t5, p5, e5, none⟩]⟩ false))))))) (x.items.map g).flatten := by
  obtain ⟨q, cap, rfl, _, hl, hel⟩ := arr_cell hr;refine ApC.loop hL hT hl hb fun i y hy => ?_;have hil : i < x.items.length := (List.getElem?_eq_some_iff.1 hy).1;obtain ⟨qa, rfl⟩ : ∃ qa, q = some qa := by
    cases q with
    | some qa => exact ⟨qa, rfl⟩
    | none => cases x <;> simp_all [V.isNil, V.items]
  obtain ⟨b, o, rfl, hB, hels⟩ := hel _ rfl;obtain ⟨es, h1, _, h2⟩ := hels i y hy;exact h i y b o _ cap hil hL hB ⟨es, h1, h2⟩
theorem ak_small {x : V} {t : Ty} {cv : Value} {lg : List UInt8} {ys : List UInt8} (hg : x.items.length ≤ ys.length) (h : x.items.length < 4294967295 → ApC P N e c k (lg ++ ys)) (hl : 1 ≤ lg.length) : ApC P N e c k (lg ++ ys) := by
  refine ApC.fits fun hf => h ?_;rw [List.length_append] at hf;omega
theorem ApS.st {tys : List Ty} {gs : List (V → List UInt8)} (h : ApS P N e c k pb o tys gs) {x : V} (hx : FA e pb o (.st tys) x) : ApC P N e c k (apSt gs x) := by
  obtain ⟨cs, h1, xs, rfl, h2⟩ := hx;exact h xs ⟨cs, h1, h2⟩
end
end Go.Kq

namespace Go.Kq
open Go
def Fat (ty : Ty) (g : V → List UInt8) : Prop := ∀ (w : World) (A : Nat → Prop) (cs : List Value) (x : V), Rep w A ty cs x → 1 ≤ (g x).length
def FatL (tys : List Ty) (gs : List (V → List UInt8)) : Prop := ∀ (w : World) (A : Nat → Prop) (cs : List Value) (xs : List V), Reps w A tys cs xs → 1 ≤ (apAll gs xs).length
theorem fat_any {ty : Ty} {g : V → List UInt8} (h : ∀ x, 1 ≤ (g x).length) : Fat ty g := fun _ _ _ x _ => h x
theorem fat_int {k : IntKind} {sz : Nat} (h : 0 < sz) : Fat (.int k) (apInt sz) := by
  rintro w A cs x ⟨i, _, rfl, _⟩;simp only [apInt, fxL]; omega
theorem apStr_pos (x : V) : 1 ≤ (apStr x).length := by simp only [apStr, List.length_append, fxL]; omega
theorem apCStr_pos (x : V) : 1 ≤ (apCStr x).length := by have := uvW_pos (x.octs.length + 1); simp only [apCStr, List.length_append]; omega
theorem apLen_pos (n : Nat) : 1 ≤ (apLen n).length := by simp only [apLen, fxL]; omega
theorem apCLen_pos (n : Nat) : 1 ≤ (apCLen n).length := uvW_pos _
theorem two_pos {b : Bool} {l1 l2 : List UInt8} (h1 : 1 ≤ l1.length) (h2 : 1 ≤ l2.length) : 1 ≤ (if b then l1 else l2).length := by cases b <;> simpa
theorem app_pos {l1 l2 : List UInt8} (h1 : 1 ≤ l1.length) : 1 ≤ (l1 ++ l2).length := by rw [List.length_append]; omega
theorem fat_two {ty : Ty} {b : Bool} {g1 g2 : V → List UInt8} (h1 : Fat ty g1) (h2 : Fat ty g2) : Fat ty (fun x => if b then g1 x else g2 x) := by
  intro w A cs x h;exact two_pos (h1 w A cs x h) (h2 w A cs x h)
theorem fatl_head {ty : Ty} {tys : List Ty} {g : V → List UInt8} {gs : List (V → List UInt8)} (h : Fat ty g) : FatL (ty :: tys) (g :: gs) := by
  rintro w A cs xs ⟨c1, c2, x, r, rfl, rfl, h1, h2⟩;exact app_pos (h w A c1 x h1)
theorem fat_st {tys : List Ty} {gs : List (V → List UInt8)} (h : FatL tys gs) : Fat (.st tys) (apSt gs) := by
  rintro w A cs x ⟨xs, rfl, h1⟩;exact h w A cs xs h1
theorem ak_items {w : World} {A : Nat → Prop} {t : Ty} {g : V → List UInt8} {cv : Value} {x : V} (hr : Rep w A (.arr t) [cv] x) (h : Fat t g) : x.items.length ≤ (x.items.map g).flatten.length := by
  have h1 := flatten_len (os := x.items.map g) (by
    intro o ho;obtain ⟨y, hy, rfl⟩ := List.mem_map.1 ho
    rcases hr with ⟨_, rfl⟩ | ⟨b, o, cap, xs, _, _, _, rfl, hel⟩
    · simp [V.items] at hy
    · obtain ⟨i, hi⟩ := List.getElem?_of_mem hy;obtain ⟨es, _, _, h2⟩ := hel i y hi;exact h w A es y h2)
  simpa using h1
end Go.Kq

namespace Go.Kq
open Go
section
variable {ver : Int} {fl : Bool} {y t : T} {fr to nul tag df of : Int} {sub : List Fd}
theorem has_all {kind : Int} (hv : 0 ≤ ver) (h1 : fr ≤ 0) (h2 : to < 0) : Fd.has (.mk kind fr to nul tag df of sub) ver = true := by
  show (decide (fr ≤ ver) && (decide (to < 0) || decide (ver ≤ to))) = true
  simp only [Bool.and_eq_true, Bool.or_eq_true, decide_eq_true_eq]; omega
theorem has_ge {kind : Int} (h2 : to < 0) : Fd.has (.mk kind fr to nul tag df of sub) ver = decide (ver ≥ fr) := by
  show (decide (fr ≤ ver) && (decide (to < 0) || decide (ver ≤ to))) = _
  rw [Bool.eq_iff_iff];simp only [Bool.and_eq_true, Bool.or_eq_true, decide_eq_true_eq]; omega
theorem fixedW_b1 (i : Int) : fxW i 1 = [UInt8.ofNat (i % 256).toNat] := by simp [fxW]
def apUuid (x : V) : List UInt8 := x.octs
end
end Go.Kq
