/- Numbers in groups of seven bits: kbin.Uvarint. Written by mk_uv.py. -/
import Derived.Test.YtekhigcoccepjaaDoorKqP08
import Derived.Lib.EndianBits
import Derived.ScopeJumps
set_option linter.unusedVariables false
set_option linter.unusedSimpArgs false
namespace Go.Kq
open Go Go.Proofs

/-- A number in groups of seven bits, at most k groups; the last one of five at most 15: the number, how many octets. -/
def uvGo : Nat → List UInt8 → Option (Nat × Nat)
  | 0, _ => none
  | _ + 1, [] => none
  | 1, c :: _ => if c.toNat ≤ 15 then some (c.toNat, 1) else none
  | k + 2, c :: r => if c.toNat < 128 then some (c.toNat, 1) else
      match uvGo (k + 1) r with
      | none => none
      | some (x, n) => some (c.toNat % 128 + 128 * x, n + 1)
def uv (l : List UInt8) : Option (Nat × Nat) := uvGo 5 l
theorem uvGo_spec : ∀ (k : Nat) (l : List UInt8) (x n : Nat), uvGo k l = some (x, n) → x * 8 < 128 ^ k ∧ 1 ≤ n ∧ n ≤ l.length ∧ n ≤ k
  | 0, _, _, _, h => by simp [uvGo] at h
  | _ + 1, [], _, _, h => by simp [uvGo] at h
  | 1, c :: r, x, n, h => by
    simp only [uvGo] at h
    split at h
    · simp at h; obtain ⟨rfl, rfl⟩ := h; simp; omega
    · cases h
  | k + 2, c :: r, x, n, h => by
    simp only [uvGo] at h
    have hp : 128 ^ (k + 2) = 128 * 128 ^ (k + 1) := by rw [Nat.pow_succ]; omega
    have hp1 : 128 ≤ 128 ^ (k + 1) := by
      have := Nat.pow_le_pow_right (show 1 ≤ 128 by omega) (show 1 ≤ k + 1 by omega)
      simpa using this
    split at h
    · simp at h; obtain ⟨rfl, rfl⟩ := h
      rw [hp]; simp only [List.length_cons]
      refine ⟨by omega, by omega, by omega, by omega⟩
    · cases hu : uvGo (k + 1) r with
      | none => rw [hu] at h; cases h
      | some y =>
        obtain ⟨y, m⟩ := y
        rw [hu] at h
        simp at h
        obtain ⟨rfl, rfl⟩ := h
        have ih := uvGo_spec (k + 1) r y m hu
        rw [hp]; simp only [List.length_cons]
        obtain ⟨i1, i2, i3, i4⟩ := ih
        refine ⟨by omega, by omega, by omega, by omega⟩
theorem uv_spec {l : List UInt8} {x n : Nat} (h : uv l = some (x, n)) : x < 4294967296 ∧ 1 ≤ n ∧ n ≤ l.length := by
  have := uvGo_spec 5 l x n h
  have e : (128 : Nat) ^ 5 = 34359738368 := by decide
  rw [e] at this
  exact ⟨by omega, this.2.1, this.2.2.1⟩

section
variable {P : Program} {a : Act} {w : World} {K : Act → World → Prop} {Q : Exit → Act → World → Prop} {d : Option Tmp} {t : TypeId} {p : String} {af : Array Edge} {g : Option (Nat × Bool)}
theorem and127 (c : Nat) (h : c < 256) : bits .and .u8 (c : Int) 127 = ((c % 128 : Nat) : Int) := by
  have := bits_mask .u8 8 (by decide) wraps_u8 7 (by decide) (c : Int) (by omega) (by omega)
  simp at this
  rw [this]; omega
set_option maxRecDepth 100000 in
theorem nat_and128 : ∀ c, c < 256 → c &&& 128 = if c < 128 then 0 else 128 := by decide
theorem and128 (c : Nat) (h : c < 256) : bits .and .u8 (c : Int) 128 = if c < 128 then 0 else 128 := by
  have := (bits_nat .u8 8 (by decide) wraps_u8 c 128 (by omega) (by omega)).1
  rw [show ((128 : Nat) : Int) = 128 from rfl] at this
  rw [this, nat_and128 c h]
  split <;> rfl
theorem wp_and {s u : TypeId} {x y : Operand} {k1 : IntKind} {i j : Int} (hx : a.eval x = .int k1 i) (hy : a.eval y = .int k1 j) (k : K (a.put d (.int k1 (bits .and k1 i j))) w) :
    OW P ⟨d, .binOp .and s x y u, t, p, af, g⟩ a w K Q := by
  have hr : (binOp .and s (.int k1 i) (.int k1 j)).run P w = .ok (.int k1 (bits .and k1 i j)) w := by
    simp only [binOp, ne_eq, not_true, if_false]; rfl
  exact wp_val (by simp [execOp, hx, hy, eqGuard, hr]) k
theorem wp_or {s u : TypeId} {x y : Operand} {k1 : IntKind} {i j : Int} (hx : a.eval x = .int k1 i) (hy : a.eval y = .int k1 j) (k : K (a.put d (.int k1 (bits .or k1 i j))) w) :
    OW P ⟨d, .binOp .or s x y u, t, p, af, g⟩ a w K Q := by
  have hr : (binOp .or s (.int k1 i) (.int k1 j)).run P w = .ok (.int k1 (bits .or k1 i j)) w := by
    simp only [binOp, ne_eq, not_true, if_false]; rfl
  exact wp_val (by simp [execOp, hx, hy, eqGuard, hr]) k
theorem wp_shl {s u : TypeId} {x y : Operand} {k1 k2 : IntKind} {i : Int} {n : Nat} (hx : a.eval x = .int k1 i) (hy : a.eval y = .int k2 n) (hn : n ≤ k1.bits) (k : K (a.put d (.int k1 (k1.wrap (i * 2 ^ n)))) w) :
    OW P ⟨d, .binOp .shl s x y u, t, p, af, g⟩ a w K Q := by
  have hr : (Op.shift .shl k1 i k2 (n : Int)).run P w = .ok (.int k1 (k1.wrap (i * 2 ^ n))) w := by
    unfold Op.shift
    rw [if_neg (by omega)]
    simp [Nat.min_eq_left hn]
  have hb : (binOp .shl s (.int k1 i) (.int k2 (n : Int))).run P w = .ok (.int k1 (k1.wrap (i * 2 ^ n))) w := by
    simp only [binOp]; exact hr
  exact wp_val (by simp [execOp, hx, hy, eqGuard, hb]) k

/-- What stays while the octets are looked at. -/
structure UvE (a : Act) (b o n cap : Nat) : Prop where
  size : a.tmps.size = 87
  defers : a.defers = []
  src : get a 0 = .slice (some ⟨b, o, none⟩) n cap
  over : get a 5 = .int .i64 0
theorem UvE.kept {a a' : Act} {b o n cap : Nat} (h : UvE a b o n cap) (hk : Kept 6 a a') : UvE a' b o n cap :=
  ⟨hk.size.trans h.size, hk.defers.trans h.defers, (hk.get 0 (by omega)).trans h.src, (hk.get 5 (by omega)).trans h.over⟩
theorem UvE.put {a : Act} {b o n cap : Nat} (h : UvE a b o n cap) {i : Nat} (h0 : i ≠ 0) (h5 : i ≠ 5) (v : Value) : UvE (a.put (some i) v) b o n cap :=
  ⟨(size_put _ _ _).trans h.size, (defers_put _ _ _).trans h.defers, (get_put_ne h0).trans h.src, (get_put_ne h5).trans h.over⟩

/-- One octet: is it the last one? else is there another? -/
theorem uv_test {T3 T5 T22 et : TypeId} {b o n cap i k m c acc : Nat} {i5 i6 i7 : Nat} {t1 t2 t3 t4 t5 t6 t7 t8 t9 t10 t11 : TypeId} {p1 p2 p3 p4 p5 p6 p7 p8 p9 p10 p11 : String} {e1 e2 e3 e4 e5 e6 e7 e8 e9 e10 e11 : Array Edge} {k2 : Nat} {C : Code}
    (hs : sliceOf P T22 et 1 1 = true) (h5 : scal P T5 = true)
    (hE : UvE a b o n cap) (hc : w.cell? ⟨b, o + i, none⟩ = some (.int .u8 c)) (hcl : c < 256) (hi : i < n) (h4 : get a 4 = .int .u32 acc) (hm : 6 ≤ m) (hm2 : m + 9 < 87) (hki : k = i + 1) (hk2 : k2 = i + 2)
    (hok : c < 128 → ∀ a', a'.tmps.size = 87 → a'.defers = [] → get a' 2 = .int .u32 acc → get a' 3 = .int .i64 (k : Int) → Q .ret a' w)
    (hgo : 128 ≤ c → n < k2 → ∀ a', UvE a' b o n cap → Q (.goto 0) a' w)
    (hon : 128 ≤ c → k2 ≤ n → ∀ a', UvE a' b o n cap → get a' 4 = .int .u32 acc → C.wp P Q a' w) :
    (Code.seq (Code.seq (Code.region i5 ⟨[⟨some m, .move (.tmp 0), t1, p1, e1, none⟩,
    ⟨some (m + 1), .indexAddr T22 (.tmp m) (.const (.int .i64 i)), t2, p2, e2, none⟩,
    ⟨some (m + 2), .load T5 (.tmp (m + 1)), t3, p3, e3, none⟩,
    ⟨some (m + 3), .binOp .and T5 (.tmp (m + 2)) (.const (.int .u8 128)) T5, t4, p4, e4, none⟩,
    ⟨some (m + 4), .binOp .eql T5 (.tmp (m + 3)) (.const (.int .u8 0)) T5, t5, p5, e5, none⟩]⟩ false)
  (.cond (.tmp (m + 4)) (.seq (Code.region i6 ⟨[⟨some (m + 5), .move (.tmp 4), t6, p6, e6, none⟩,
    ⟨some 2, .assign (.tmp (m + 5)), t7, p7, e7, none⟩,
    ⟨some 3, .assign (.const (.int .i64 k)), t8, p8, e8, none⟩]⟩ false)
  .ret)
  (.seq (Code.region i7 ⟨[⟨some (m + 6), .move (.tmp 0), t9, p9, e9, none⟩,
    ⟨some (m + 7), .call ⟨.builtin .len, #[(.tmp (m + 6))], #[T22]⟩, t10, p10, e10, none⟩,
    ⟨some (m + 8), .binOp .lss T3 (.tmp (m + 7)) (.const (.int .i64 k2)) T3, t11, p11, e11, none⟩]⟩ false)
  (.cond (.tmp (m + 8)) (.goto 0)
  .skip)))) C).wp P Q a w := by
  have hsz := hE.size
  refine then_id (wp_seq_k fun K1 hK1 => ?_)
  refine wp_seq_k fun K2 hK2 => ?_
  refine wp_reg ?_
  rw [wpl_cons, wp_move, eval_tmp, hE.src, wpl_cons]
  refine wp_indexAddr hs (b := b) (o := o) (len := n) (cap := cap) (k1 := .i64) (i := i) (by rw [eval_tmp, get_put_same (by omega)]) rfl (by omega) (by omega) ?_
  rw [wpl_cons]
  refine wp_load h5 (b := b) (o := o + i) (v := .int .u8 c) (by rw [eval_tmp, get_put_same (by simp only [size_put]; omega)]; simp) hc ?_
  rw [wpl_cons]
  refine wp_and (k1 := .u8) (i := c) (j := 128) (by rw [eval_tmp, get_put_same (by simp only [size_put]; omega)]) rfl ?_
  rw [and128 c hcl, wpl_cons]
  refine wp_eql (k1 := .u8) (i := if c < 128 then 0 else 128) (j := 0) (by rw [eval_tmp, get_put_same (by simp only [size_put]; omega)]) rfl ?_
  rw [wpl_nil]
  have hb : ((if c < 128 then (0 : Int) else 128) == 0) = decide (c < 128) := by by_cases h : c < 128 <;> simp [h]
  rw [hb]
  generalize ha1 : (((((a.put (some m) (.slice (some ⟨b, o, none⟩) n cap)).put (some (m + 1)) (.pointer (some ⟨b, o + (i : Int).toNat * 1, none⟩))).put (some (m + 2)) (.int .u8 c)).put (some (m + 3)) (.int .u8 (if c < 128 then 0 else 128))).put (some (m + 4)) (.bool (decide (c < 128)))) = a1
  have k1 : Kept 6 a a1 := by subst ha1; exact ((((Kept.put0 (by omega) _).put (by omega) _).put (by omega) _).put (by omega) _).put (by omega) _
  have q1 : get a1 (m + 4) = .bool (decide (c < 128)) := by subst ha1; exact get_put_same (by simp only [size_put]; omega)
  clear ha1
  have hE1 := hE.kept k1
  have hz1 := hE1.size
  have h41 : get a1 4 = .int .u32 acc := by rw [k1.get 4 (by omega), h4]
  refine hK2 a1 w ?_
  refine wp_cond_split (t := decide (c < 128)) (by rw [eval_tmp, q1]) (fun h => ?_) fun h => ?_
  · refine wp_seq_k fun K3 hK3 => ?_
    refine wp_reg ?_
    rw [wpl_cons, wp_move, eval_tmp, h41, wpl_cons, wp_assign, eval_tmp, get_put_same (by omega), wpl_cons, wp_assign, eval_const, wpl_nil]
    refine hK3 _ w (wp_ret ?_)
    refine hok (by simpa using h) _ (by simp only [size_put]; exact hz1) (by simp only [defers_put]; exact hE1.defers) ?_ ?_
    · rw [get_put_ne (by omega), get_put_same (by simp only [size_put]; omega)]
    · rw [get_put_same (by simp only [size_put]; omega)]
  · have hc128 : 128 ≤ c := by simp at h; exact h
    refine wp_seq_k fun K3 hK3 => ?_
    refine wp_reg ?_
    rw [wpl_cons, wp_move, eval_tmp, hE1.src, wpl_cons]
    refine wp_len hs (by rw [eval_tmp, get_put_same (by omega)]) ?_
    rw [wpl_cons]
    refine wp_lss (k1 := .i64) (i := n) (j := k2) (by rw [eval_tmp, get_put_same (by simp only [size_put]; omega)]) rfl ?_
    rw [wpl_nil]
    generalize ha2 : ((a1.put (some (m + 6)) (.slice (some ⟨b, o, none⟩) n cap)).put (some (m + 7)) (.int .i64 n)).put (some (m + 8)) (.bool (decide ((n : Int) < k2))) = a2
    have k3 : Kept 6 a1 a2 := by subst ha2; exact ((Kept.put0 (by omega) _).put (by omega) _).put (by omega) _
    have q2 : get a2 (m + 8) = .bool (decide ((n : Int) < k2)) := by subst ha2; exact get_put_same (by simp only [size_put]; omega)
    clear ha2
    have hE2 := hE1.kept k3
    refine hK3 a2 w ?_
    refine wp_cond_split (t := decide ((n : Int) < k2)) (by rw [eval_tmp, q2]) (fun h => wp_goto ?_) fun h => wp_skip (hK1 a2 w (then_up ?_))
    · exact hgo hc128 (by simp at h; omega) a2 hE2
    · exact hon hc128 (by simp at h; omega) a2 hE2 (by rw [k3.get 4 (by omega), h41])

/-- One group laid in. -/
theorem uv_add {T5 T22 T59 T129 et : TypeId} {b o n cap i m c acc sh : Nat} {i8 : Nat} {t1 t2 t3 t4 t5 t6 t7 t8 t9 : TypeId} {p1 p2 p3 p4 p5 p6 p7 p8 p9 : String} {e1 e2 e3 e4 e5 e6 e7 e8 e9 : Array Edge} {K : Act → World → Prop}
    (hs : sliceOf P T22 et 1 1 = true) (h5 : scal P T5 = true) (h5i : intOf P T5 .u8 = true) (h59 : intOf P T59 .u32 = true)
    (hE : UvE a b o n cap) (hc : w.cell? ⟨b, o + i, none⟩ = some (.int .u8 c)) (hcl : c < 256) (hi : i < n) (h4 : get a 4 = .int .u32 acc) (hacc : acc < 2 ^ sh) (hsh : sh ≤ 21) (hm : 6 ≤ m) (hm2 : m + 8 < 87)
    (hk : ∀ a', UvE a' b o n cap → get a' 4 = .int .u32 ((acc + (c % 128) * 2 ^ sh : Nat) : Int) → K a' w) :
    (Code.region i8 ⟨[⟨some m, .move (.tmp 4), t1, p1, e1, none⟩,
    ⟨some (m + 1), .move (.tmp 0), t2, p2, e2, none⟩,
    ⟨some (m + 2), .indexAddr T22 (.tmp (m + 1)) (.const (.int .i64 i)), t3, p3, e3, none⟩,
    ⟨some (m + 3), .load T5 (.tmp (m + 2)), t4, p4, e4, none⟩,
    ⟨some (m + 4), .binOp .and T5 (.tmp (m + 3)) (.const (.int .u8 127)) T5, t5, p5, e5, none⟩,
    ⟨some (m + 5), .convert T5 T59 (.tmp (m + 4)), t6, p6, e6, none⟩,
    ⟨some (m + 6), .binOp .shl T59 (.tmp (m + 5)) (.const (.int .u64 sh)) T129, t7, p7, e7, none⟩,
    ⟨some (m + 7), .binOp .or T59 (.tmp m) (.tmp (m + 6)) T59, t8, p8, e8, none⟩,
    ⟨some 4, .assign (.tmp (m + 7)), t9, p9, e9, none⟩]⟩ false).wp P (Exit.then K Q) a w := by
  have hsz := hE.size
  refine wp_reg ?_
  rw [wpl_cons, wp_move, eval_tmp, h4, wpl_cons, wp_move, eval_tmp, get_put_ne (by omega), hE.src, wpl_cons]
  refine wp_indexAddr hs (b := b) (o := o) (len := n) (cap := cap) (k1 := .i64) (i := i) (by rw [eval_tmp, get_put_same (by simp only [size_put]; omega)]) rfl (by omega) (by omega) ?_
  rw [wpl_cons]
  refine wp_load h5 (b := b) (o := o + i) (v := .int .u8 c) (by rw [eval_tmp, get_put_same (by simp only [size_put]; omega)]; simp) hc ?_
  rw [wpl_cons]
  refine wp_and (k1 := .u8) (i := c) (j := 127) (by rw [eval_tmp, get_put_same (by simp only [size_put]; omega)]) rfl ?_
  rw [and127 c hcl, wpl_cons]
  have hc7 : c % 128 < 128 := Nat.mod_lt _ (by omega)
  generalize c % 128 = c' at hc7 hk ⊢
  refine wp_convert (k1 := .u8) (i := (c' : Int)) h5i h59 (by rw [eval_tmp, get_put_same (by simp only [size_put]; omega)]) ?_
  rw [IntKind.wrap_u32, Int.emod_eq_of_lt (by omega) (by omega), wpl_cons]
  have hp21 : 2 ^ sh ≤ 2 ^ 21 := Nat.pow_le_pow_right (by omega) hsh
  have e21 : (2 : Nat) ^ 21 = 2097152 := by decide
  have hprod : c' * 2 ^ sh ≤ 127 * 2 ^ sh := Nat.mul_le_mul_right _ (by omega)
  refine wp_shl (k1 := .u32) (i := (c' : Int)) (n := sh) (by rw [eval_tmp, get_put_same (by simp only [size_put]; omega)]) rfl (by show sh ≤ 32; omega) ?_
  have ecast : ((c' : Int) * 2 ^ sh) = ((c' * 2 ^ sh : Nat) : Int) := by push_cast; rfl
  rw [ecast, IntKind.wrap_u32, Int.emod_eq_of_lt (by omega) (by omega), wpl_cons]
  have hdvd : ((c' * 2 ^ sh : Nat) : Int) % 2 ^ sh = 0 := by
    have : ((c' * 2 ^ sh) % 2 ^ sh : Nat) = 0 := Nat.mul_mod_left _ _
    exact_mod_cast congrArg (fun z : Nat => (z : Int)) this
  refine wp_or (k1 := .u32) (i := (acc : Int)) (j := ((c' * 2 ^ sh : Nat) : Int)) (by rw [eval_tmp, get_put_ne (by omega), get_put_ne (by omega), get_put_ne (by omega), get_put_ne (by omega), get_put_ne (by omega), get_put_ne (by omega), get_put_same (by omega)])
    (by rw [eval_tmp, get_put_same (by simp only [size_put]; omega)]) ?_
  have hor : bits .or .u32 (acc : Int) ((c' * 2 ^ sh : Nat) : Int) = ((acc + c' * 2 ^ sh : Nat) : Int) := by
    rw [bits_join_low .u32 32 (by decide) wraps_u32 sh (acc : Int) ((c' * 2 ^ sh : Nat) : Int) (by omega) (by exact_mod_cast hacc) (by omega) (by omega) hdvd (by omega)]
    push_cast; rfl
  rw [hor, wpl_cons, wp_assign, eval_tmp, get_put_same (by simp only [size_put]; omega), wpl_nil]
  refine hk _ ?_ (get_put_same (by simp only [size_put]; omega))
  exact (((((((((hE.put (by omega) (by omega) _).put (by omega) (by omega) _).put (by omega) (by omega) _).put (by omega) (by omega) _).put (by omega) (by omega) _).put (by omega) (by omega) _).put (by omega) (by omega) _).put (by omega) (by omega) _).put (by omega) (by omega) _)
end

/-- What kbin.Uvarint gives. -/
structure UvM (P : Program) (f : FuncId) : Prop where
  enters : Enters P f
  call : ∀ w A v xs, OctE w A v xs → Calls P f #[v] w fun e w' => w' = w ∧ match uv xs with
    | some (x, n) => e = .returned (.tuple #[.int .u32 x, .int .i64 n])
    | none => ∃ z : Int, z ≤ 0 ∧ e = .returned (.tuple #[.int .u32 0, .int .i64 z])
theorem uv_ok {k : Nat} {c : UInt8} {r : List UInt8} (h : c.toNat < 128) : uvGo (k + 2) (c :: r) = some (c.toNat, 1) := by simp [uvGo, h]
theorem uv_on {k : Nat} {c : UInt8} {r : List UInt8} (h : 128 ≤ c.toNat) : uvGo (k + 2) (c :: r) = (uvGo (k + 1) r).map fun y => (c.toNat % 128 + 128 * y.1, y.2 + 1) := by
  have h' : ¬ c.toNat < 128 := by omega
  simp only [uvGo, h', if_false]
  cases uvGo (k + 1) r with
  | none => rfl
  | some y => rfl
theorem uv_last {c : UInt8} {r : List UInt8} (h : c.toNat ≤ 15) : uvGo 1 (c :: r) = some (c.toNat, 1) := by simp [uvGo, h]
theorem uv_lastn {c : UInt8} {r : List UInt8} (h : ¬ c.toNat ≤ 15) : uvGo 1 (c :: r) = none := by simp [uvGo, h]
theorem uv_none {k : Nat} : uvGo k [] = none := by cases k <;> rfl

set_option maxRecDepth 10000 in
theorem uv_m {P : Program} {f : FuncId} {fn : Func} {et : TypeId} {T3 T5 T22 T59 T129 : TypeId} {i0 i1 i2 i3 i4 i5 i6 i7 i8 i9 i10 i11 i12 i13 i14 i15 i16 i17 i18 i19 i20 i21 i22 i23 i24 : Nat}
    {t0 t1 t2 t3 t4 t5 t6 t7 t8 t9 t10 t11 t12 t13 t14 t15 t16 t17 t18 t19 t20 t21 t22 t23 t24 t25 t26 t27 t28 t29 t30 t31 t32 t33 t34 t35 t36 t37 t38 t39 t40 t41 t42 t43 t44 t45 t46 t47 t48 t49 t50 t51 t52 t53 t54 t55 t56 t57 t58 t59 t60 t61 t62 t63 t64 t65 t66 t67 t68 t69 t70 t71 t72 t73 t74 t75 t76 t77 t78 t79 t80 t81 t82 t83 t84 t85 t86 t87 t88 t89 t90 t91 t92 t93 t94 t95 t96 t97 t98 t99 t100 t101 t102 : TypeId} {p0 p1 p2 p3 p4 p5 p6 p7 p8 p9 p10 p11 p12 p13 p14 p15 p16 p17 p18 p19 p20 p21 p22 p23 p24 p25 p26 p27 p28 p29 p30 p31 p32 p33 p34 p35 p36 p37 p38 p39 p40 p41 p42 p43 p44 p45 p46 p47 p48 p49 p50 p51 p52 p53 p54 p55 p56 p57 p58 p59 p60 p61 p62 p63 p64 p65 p66 p67 p68 p69 p70 p71 p72 p73 p74 p75 p76 p77 p78 p79 p80 p81 p82 p83 p84 p85 p86 p87 p88 p89 p90 p91 p92 p93 p94 p95 p96 p97 p98 p99 p100 p101 p102 : String} {e0 e1 e2 e3 e4 e5 e6 e7 e8 e9 e10 e11 e12 e13 e14 e15 e16 e17 e18 e19 e20 e21 e22 e23 e24 e25 e26 e27 e28 e29 e30 e31 e32 e33 e34 e35 e36 e37 e38 e39 e40 e41 e42 e43 e44 e45 e46 e47 e48 e49 e50 e51 e52 e53 e54 e55 e56 e57 e58 e59 e60 e61 e62 e63 e64 e65 e66 e67 e68 e69 e70 e71 e72 e73 e74 e75 e76 e77 e78 e79 e80 e81 e82 e83 e84 e85 e86 e87 e88 e89 e90 e91 e92 e93 e94 e95 e96 e97 e98 e99 e100 e101 e102 : Array Edge}
    (hf : P.funcs[f]? = some fn) (hname : (fn.name == "runtime.NumGoroutine") = false) (hres : fn.results = #[.tmp 2, .tmp 3]) (hN : fn.ntmps = 87)
    (hbody : fn.body = some (.seq (Code.region i0 ⟨[⟨some 2, .assign (.const (.int .u32 0)), t0, p0, e0, none⟩,
    ⟨some 3, .assign (.const (.int .i64 0)), t1, p1, e1, none⟩]⟩ false)
  (.scope (.seq (Code.region i1 ⟨[⟨some 4, .assign (.const (.int .u32 0)), t2, p2, e2, none⟩]⟩ false)
  (.seq (Code.region i2 ⟨[⟨some 5, .assign (.const (.int .i64 0)), t3, p3, e3, none⟩]⟩ false)
  (.seq (.seq (Code.region i3 ⟨[⟨some 6, .move (.tmp 0), t4, p4, e4, none⟩,
    ⟨some 7, .call ⟨.builtin .len, #[(.tmp 6)], #[T22]⟩, t5, p5, e5, none⟩,
    ⟨some 8, .binOp .lss T3 (.tmp 7) (.const (.int .i64 1)) T3, t6, p6, e6, none⟩]⟩ false)
  (.cond (.tmp 8) (.goto 0)
  .skip))
  (.seq (Code.region i4 ⟨[⟨some 9, .move (.tmp 0), t7, p7, e7, none⟩,
    ⟨some 10, .indexAddr T22 (.tmp 9) (.const (.int .i64 0)), t8, p8, e8, none⟩,
    ⟨some 11, .load T5 (.tmp 10), t9, p9, e9, none⟩,
    ⟨some 12, .binOp .and T5 (.tmp 11) (.const (.int .u8 127)) T5, t10, p10, e10, none⟩,
    ⟨some 13, .convert T5 T59 (.tmp 12), t11, p11, e11, none⟩,
    ⟨some 4, .assign (.tmp 13), t12, p12, e12, none⟩]⟩ false)
  (.seq (.seq (Code.region i5 ⟨[⟨some 14, .move (.tmp 0), t13, p13, e13, none⟩,
    ⟨some 15, .indexAddr T22 (.tmp 14) (.const (.int .i64 0)), t14, p14, e14, none⟩,
    ⟨some 16, .load T5 (.tmp 15), t15, p15, e15, none⟩,
    ⟨some 17, .binOp .and T5 (.tmp 16) (.const (.int .u8 128)) T5, t16, p16, e16, none⟩,
    ⟨some 18, .binOp .eql T5 (.tmp 17) (.const (.int .u8 0)) T5, t17, p17, e17, none⟩]⟩ false)
  (.cond (.tmp 18) (.seq (Code.region i6 ⟨[⟨some 19, .move (.tmp 4), t18, p18, e18, none⟩,
    ⟨some 2, .assign (.tmp 19), t19, p19, e19, none⟩,
    ⟨some 3, .assign (.const (.int .i64 1)), t20, p20, e20, none⟩]⟩ false)
  .ret)
  (.seq (Code.region i7 ⟨[⟨some 20, .move (.tmp 0), t21, p21, e21, none⟩,
    ⟨some 21, .call ⟨.builtin .len, #[(.tmp 20)], #[T22]⟩, t22, p22, e22, none⟩,
    ⟨some 22, .binOp .lss T3 (.tmp 21) (.const (.int .i64 2)) T3, t23, p23, e23, none⟩]⟩ false)
  (.cond (.tmp 22) (.goto 0)
  .skip))))
  (.seq (Code.region i8 ⟨[⟨some 23, .move (.tmp 4), t24, p24, e24, none⟩,
    ⟨some 24, .move (.tmp 0), t25, p25, e25, none⟩,
    ⟨some 25, .indexAddr T22 (.tmp 24) (.const (.int .i64 1)), t26, p26, e26, none⟩,
    ⟨some 26, .load T5 (.tmp 25), t27, p27, e27, none⟩,
    ⟨some 27, .binOp .and T5 (.tmp 26) (.const (.int .u8 127)) T5, t28, p28, e28, none⟩,
    ⟨some 28, .convert T5 T59 (.tmp 27), t29, p29, e29, none⟩,
    ⟨some 29, .binOp .shl T59 (.tmp 28) (.const (.int .u64 7)) T129, t30, p30, e30, none⟩,
    ⟨some 30, .binOp .or T59 (.tmp 23) (.tmp 29) T59, t31, p31, e31, none⟩,
    ⟨some 4, .assign (.tmp 30), t32, p32, e32, none⟩]⟩ false)
  (.seq (.seq (Code.region i9 ⟨[⟨some 31, .move (.tmp 0), t33, p33, e33, none⟩,
    ⟨some 32, .indexAddr T22 (.tmp 31) (.const (.int .i64 1)), t34, p34, e34, none⟩,
    ⟨some 33, .load T5 (.tmp 32), t35, p35, e35, none⟩,
    ⟨some 34, .binOp .and T5 (.tmp 33) (.const (.int .u8 128)) T5, t36, p36, e36, none⟩,
    ⟨some 35, .binOp .eql T5 (.tmp 34) (.const (.int .u8 0)) T5, t37, p37, e37, none⟩]⟩ false)
  (.cond (.tmp 35) (.seq (Code.region i10 ⟨[⟨some 36, .move (.tmp 4), t38, p38, e38, none⟩,
    ⟨some 2, .assign (.tmp 36), t39, p39, e39, none⟩,
    ⟨some 3, .assign (.const (.int .i64 2)), t40, p40, e40, none⟩]⟩ false)
  .ret)
  (.seq (Code.region i11 ⟨[⟨some 37, .move (.tmp 0), t41, p41, e41, none⟩,
    ⟨some 38, .call ⟨.builtin .len, #[(.tmp 37)], #[T22]⟩, t42, p42, e42, none⟩,
    ⟨some 39, .binOp .lss T3 (.tmp 38) (.const (.int .i64 3)) T3, t43, p43, e43, none⟩]⟩ false)
  (.cond (.tmp 39) (.goto 0)
  .skip))))
  (.seq (Code.region i12 ⟨[⟨some 40, .move (.tmp 4), t44, p44, e44, none⟩,
    ⟨some 41, .move (.tmp 0), t45, p45, e45, none⟩,
    ⟨some 42, .indexAddr T22 (.tmp 41) (.const (.int .i64 2)), t46, p46, e46, none⟩,
    ⟨some 43, .load T5 (.tmp 42), t47, p47, e47, none⟩,
    ⟨some 44, .binOp .and T5 (.tmp 43) (.const (.int .u8 127)) T5, t48, p48, e48, none⟩,
    ⟨some 45, .convert T5 T59 (.tmp 44), t49, p49, e49, none⟩,
    ⟨some 46, .binOp .shl T59 (.tmp 45) (.const (.int .u64 14)) T129, t50, p50, e50, none⟩,
    ⟨some 47, .binOp .or T59 (.tmp 40) (.tmp 46) T59, t51, p51, e51, none⟩,
    ⟨some 4, .assign (.tmp 47), t52, p52, e52, none⟩]⟩ false)
  (.seq (.seq (Code.region i13 ⟨[⟨some 48, .move (.tmp 0), t53, p53, e53, none⟩,
    ⟨some 49, .indexAddr T22 (.tmp 48) (.const (.int .i64 2)), t54, p54, e54, none⟩,
    ⟨some 50, .load T5 (.tmp 49), t55, p55, e55, none⟩,
    ⟨some 51, .binOp .and T5 (.tmp 50) (.const (.int .u8 128)) T5, t56, p56, e56, none⟩,
    ⟨some 52, .binOp .eql T5 (.tmp 51) (.const (.int .u8 0)) T5, t57, p57, e57, none⟩]⟩ false)
  (.cond (.tmp 52) (.seq (Code.region i14 ⟨[⟨some 53, .move (.tmp 4), t58, p58, e58, none⟩,
    ⟨some 2, .assign (.tmp 53), t59, p59, e59, none⟩,
    ⟨some 3, .assign (.const (.int .i64 3)), t60, p60, e60, none⟩]⟩ false)
  .ret)
  (.seq (Code.region i15 ⟨[⟨some 54, .move (.tmp 0), t61, p61, e61, none⟩,
    ⟨some 55, .call ⟨.builtin .len, #[(.tmp 54)], #[T22]⟩, t62, p62, e62, none⟩,
    ⟨some 56, .binOp .lss T3 (.tmp 55) (.const (.int .i64 4)) T3, t63, p63, e63, none⟩]⟩ false)
  (.cond (.tmp 56) (.goto 0)
  .skip))))
  (.seq (Code.region i16 ⟨[⟨some 57, .move (.tmp 4), t64, p64, e64, none⟩,
    ⟨some 58, .move (.tmp 0), t65, p65, e65, none⟩,
    ⟨some 59, .indexAddr T22 (.tmp 58) (.const (.int .i64 3)), t66, p66, e66, none⟩,
    ⟨some 60, .load T5 (.tmp 59), t67, p67, e67, none⟩,
    ⟨some 61, .binOp .and T5 (.tmp 60) (.const (.int .u8 127)) T5, t68, p68, e68, none⟩,
    ⟨some 62, .convert T5 T59 (.tmp 61), t69, p69, e69, none⟩,
    ⟨some 63, .binOp .shl T59 (.tmp 62) (.const (.int .u64 21)) T129, t70, p70, e70, none⟩,
    ⟨some 64, .binOp .or T59 (.tmp 57) (.tmp 63) T59, t71, p71, e71, none⟩,
    ⟨some 4, .assign (.tmp 64), t72, p72, e72, none⟩]⟩ false)
  (.seq (.seq (Code.region i17 ⟨[⟨some 65, .move (.tmp 0), t73, p73, e73, none⟩,
    ⟨some 66, .indexAddr T22 (.tmp 65) (.const (.int .i64 3)), t74, p74, e74, none⟩,
    ⟨some 67, .load T5 (.tmp 66), t75, p75, e75, none⟩,
    ⟨some 68, .binOp .and T5 (.tmp 67) (.const (.int .u8 128)) T5, t76, p76, e76, none⟩,
    ⟨some 69, .binOp .eql T5 (.tmp 68) (.const (.int .u8 0)) T5, t77, p77, e77, none⟩]⟩ false)
  (.cond (.tmp 69) (.seq (Code.region i18 ⟨[⟨some 70, .move (.tmp 4), t78, p78, e78, none⟩,
    ⟨some 2, .assign (.tmp 70), t79, p79, e79, none⟩,
    ⟨some 3, .assign (.const (.int .i64 4)), t80, p80, e80, none⟩]⟩ false)
  .ret)
  (.seq (Code.region i19 ⟨[⟨some 71, .move (.tmp 0), t81, p81, e81, none⟩,
    ⟨some 72, .call ⟨.builtin .len, #[(.tmp 71)], #[T22]⟩, t82, p82, e82, none⟩,
    ⟨some 73, .binOp .lss T3 (.tmp 72) (.const (.int .i64 5)) T3, t83, p83, e83, none⟩]⟩ false)
  (.cond (.tmp 73) (.goto 0)
  .skip))))
  (.seq (Code.region i20 ⟨[⟨some 74, .move (.tmp 4), t84, p84, e84, none⟩,
    ⟨some 75, .move (.tmp 0), t85, p85, e85, none⟩,
    ⟨some 76, .indexAddr T22 (.tmp 75) (.const (.int .i64 4)), t86, p86, e86, none⟩,
    ⟨some 77, .load T5 (.tmp 76), t87, p87, e87, none⟩,
    ⟨some 78, .convert T5 T59 (.tmp 77), t88, p88, e88, none⟩,
    ⟨some 79, .binOp .shl T59 (.tmp 78) (.const (.int .u64 28)) T129, t89, p89, e89, none⟩,
    ⟨some 80, .binOp .or T59 (.tmp 74) (.tmp 79) T59, t90, p90, e90, none⟩,
    ⟨some 4, .assign (.tmp 80), t91, p91, e91, none⟩]⟩ false)
  (.seq (.seq (Code.region i21 ⟨[⟨some 81, .move (.tmp 0), t92, p92, e92, none⟩,
    ⟨some 82, .indexAddr T22 (.tmp 81) (.const (.int .i64 4)), t93, p93, e93, none⟩,
    ⟨some 83, .load T5 (.tmp 82), t94, p94, e94, none⟩,
    ⟨some 84, .binOp .leq T5 (.tmp 83) (.const (.int .u8 15)) T5, t95, p95, e95, none⟩]⟩ false)
  (.cond (.tmp 84) (.seq (Code.region i22 ⟨[⟨some 85, .move (.tmp 4), t96, p96, e96, none⟩,
    ⟨some 2, .assign (.tmp 85), t97, p97, e97, none⟩,
    ⟨some 3, .assign (.const (.int .i64 5)), t98, p98, e98, none⟩]⟩ false)
  .ret)
  .skip))
  (.seq (Code.region i23 ⟨[⟨some 5, .assign (.const (.int .i64 (-5))), t99, p99, e99, none⟩]⟩ false)
  (.seq (.label 0)
  (.seq (Code.region i24 ⟨[⟨some 86, .move (.tmp 5), t100, p100, e100, none⟩,
    ⟨some 2, .assign (.const (.int .u32 0)), t101, p101, e101, none⟩,
    ⟨some 3, .assign (.tmp 86), t102, p102, e102, none⟩]⟩ false)
  .ret)))))))))))))))))))
    (hs : sliceOf P T22 et 1 1 = true) (h5 : scal P T5 = true) (h5i : intOf P T5 .u8 = true) (h59 : intOf P T59 .u32 = true) : UvM P f := by
  refine ⟨enters_of hf hname hbody, ?_⟩
  intro w A v xs ho
  obtain ⟨q, cap, rfl, hq⟩ := ho.slice
  refine calls_of_wp hf hbody ?_
  generalize ha0 : ({ tmps := #[Value.slice q xs.length cap] ++ Array.replicate (fn.ntmps - #[Value.slice q xs.length cap].size) undef, defers := [] } : Act) = a0
  have hsz : a0.tmps.size = 87 := by subst ha0; simp [hN]
  have hd0 : a0.defers = [] := by subst ha0; rfl
  have g0 : get a0 0 = .slice q xs.length cap := by subst ha0; exact get_args rfl
  clear ha0
  refine then_id (wp_seq_k fun K1 hK1 => ?_)
  refine wp_reg ?_
  rw [wpl_cons, wp_assign, eval_const, wpl_cons, wp_assign, eval_const, wpl_nil]
  generalize ha1 : (a0.put (some 2) (.int .u32 0)).put (some 3) (.int .i64 0) = a1
  have k1 : Kept 2 a0 a1 := by subst ha1; exact (Kept.put0 (by omega) _).put (by omega) _
  clear ha1
  have hz1 := k1.size
  refine hK1 a1 w (then_up ?_)
  -- what is answered
  have hret : ∀ {aa : Act} {x n : Nat}, aa.defers = [] → get aa 2 = .int .u32 x → get aa 3 = .int .i64 (n : Int) → uv xs = some (x, n) → bodyPost P fn (fun e w' => w' = w ∧ match uv xs with
      | some (x, n) => e = .returned (.tuple #[.int .u32 x, .int .i64 n])
      | none => ∃ z : Int, z ≤ 0 ∧ e = .returned (.tuple #[.int .u32 0, .int .i64 z])) .ret aa w := by
    intro aa x n h1 h2 h3 h4
    refine ⟨h1, .tuple #[.int .u32 x, .int .i64 n], ?_, rfl, by rw [h4]⟩
    have h2' : aa.tmps[2]?.getD undef = .int .u32 x := by rw [← Array.getD_eq_getD_getElem?]; exact h2
    have h3' : aa.tmps[3]?.getD undef = .int .i64 n := by rw [← Array.getD_eq_getD_getElem?]; exact h3
    simp [results, hres, h2', h3']
  refine wp_scope_jumps 0 (fun a' w' => w' = w ∧ a'.tmps.size = 87 ∧ a'.defers = [] ∧ ∃ z : Int, z ≤ 0 ∧ get a' 5 = .int .i64 z ∧ uv xs = none) (fun _ _ => 0) rfl ?_ ?_
  · refine then_id (wp_seq_k fun K2 hK2 => ?_)
    refine r_const (m := 4) (by omega) (by omega) fun a2 k2 _ => hK2 a2 w (then_up ?_)
    have hz2 := k2.size
    refine then_id (wp_seq_k fun K3 hK3 => ?_)
    refine r_const (m := 5) (by omega) (by omega) fun a3 k3 g5 => hK3 a3 w (then_up ?_)
    have hz3 := k3.size
    have gs : get a3 0 = .slice q xs.length cap := by rw [k3.get 0 (by omega), k2.get 0 (by omega), k1.get 0 (by omega), g0]
    have hd3 : a3.defers = [] := by rw [k3.defers, k2.defers, k1.defers, hd0]
    refine then_id (wp_seq_k fun K4 hK4 => ?_)
    refine wp_seq_k fun K5 hK5 => ?_
    refine wp_reg ?_
    rw [wpl_cons, wp_move, eval_tmp, gs, wpl_cons]
    refine wp_len hs (by rw [eval_tmp, get_put_same (by omega)]) ?_
    rw [wpl_cons]
    refine wp_lss (k1 := .i64) (i := xs.length) (j := 1) (by rw [eval_tmp, get_put_same (by simp only [size_put]; omega)]) rfl ?_
    rw [wpl_nil]
    generalize ha4 : ((a3.put (some 6) (.slice q xs.length cap)).put (some 7) (.int .i64 xs.length)).put (some 8) (.bool (decide ((xs.length : Int) < 1))) = a4
    have k4 : Kept 6 a3 a4 := by subst ha4; exact ((Kept.put0 (by omega) _).put (by omega) _).put (by omega) _
    have g8 : get a4 8 = .bool (decide ((xs.length : Int) < 1)) := by subst ha4; exact get_put_same (by simp only [size_put]; omega)
    clear ha4
    have hz4 := k4.size
    refine hK5 a4 w ?_
    refine wp_cond_split (t := decide ((xs.length : Int) < 1)) (by rw [eval_tmp, g8]) (fun h => wp_goto ?_) fun h => wp_skip (hK4 a4 w (then_up ?_))
    · have hx : xs = [] := by simp at h; exact List.eq_nil_of_length_eq_zero (by omega)
      exact ⟨rfl, rfl, by omega, by rw [k4.defers, hd3], 0, by omega, by rw [k4.get 5 (by omega), g5], by rw [hx]; rfl⟩
    have hn0 : 0 < xs.length := by simp at h; omega
    obtain ⟨b, o, rfl, hr⟩ := hq hn0
    have hE : UvE a4 b o xs.length cap := ⟨by omega, by rw [k4.defers, hd3], by rw [k4.get 0 (by omega), gs], by rw [k4.get 5 (by omega), g5]⟩
    have hcell : ∀ i, (hi : i < xs.length) → w.cell? ⟨b, o + i, none⟩ = some (.int .u8 (xs[i]).toNat) := fun i hi => octets_at hr hi
    have hdrop : ∀ i, (hi : i < xs.length) → xs.drop i = xs[i] :: xs.drop (i + 1) := fun i hi => List.drop_eq_getElem_cons hi
    have hlt : ∀ i, (hi : i < xs.length) → (xs[i]).toNat < 256 := fun i hi => (xs[i]).toNat_lt
    -- the first octet
    have e0 : uv xs = uvGo 5 (xs[0] :: xs.drop 1) := by rw [← hdrop 0 hn0]; rfl
    refine then_id (wp_seq_k fun K6 hK6 => ?_)
    refine wp_reg ?_
    rw [wpl_cons, wp_move, eval_tmp, hE.src, wpl_cons]
    refine wp_indexAddr hs (b := b) (o := o) (len := xs.length) (cap := cap) (k1 := .i64) (i := 0) (by rw [eval_tmp, get_put_same (by omega)]) rfl (by omega) (by omega) ?_
    rw [wpl_cons]
    refine wp_load h5 (b := b) (o := o + 0) (v := .int .u8 (xs[0]).toNat) (by rw [eval_tmp, get_put_same (by simp only [size_put]; omega)]; simp) (hcell 0 hn0) ?_
    rw [wpl_cons]
    refine wp_and (k1 := .u8) (i := (xs[0]).toNat) (j := 127) (by rw [eval_tmp, get_put_same (by simp only [size_put]; omega)]) rfl ?_
    rw [and127 _ (hlt 0 hn0), wpl_cons]
    refine wp_convert (k1 := .u8) (i := (((xs[0]).toNat % 128 : Nat) : Int)) h5i h59 (by rw [eval_tmp, get_put_same (by simp only [size_put]; omega)]) ?_
    rw [IntKind.wrap_u32, Int.emod_eq_of_lt (by omega) (by omega), wpl_cons, wp_assign, eval_tmp, get_put_same (by simp only [size_put]; omega), wpl_nil]
    generalize ha5 : (((((a4.put (some 9) (.slice (some ⟨b, o, none⟩) xs.length cap)).put (some 10) (.pointer (some ⟨b, o + (0 : Int).toNat * 1, none⟩))).put (some 11) (.int .u8 (xs[0]).toNat)).put (some 12) (.int .u8 (((xs[0]).toNat % 128 : Nat) : Int))).put (some 13) (.int .u32 (((xs[0]).toNat % 128 : Nat) : Int))).put (some 4) (.int .u32 (((xs[0]).toNat % 128 : Nat) : Int)) = a5
    have hE5 : UvE a5 b o xs.length cap := by
      subst ha5
      exact (((((hE.put (by omega) (by omega) _).put (by omega) (by omega) _).put (by omega) (by omega) _).put (by omega) (by omega) _).put (by omega) (by omega) _).put (by omega) (by omega) _
    have h45 : get a5 4 = .int .u32 (((xs[0]).toNat % 128 : Nat) : Int) := by subst ha5; exact get_put_same (by simp only [size_put]; omega)
    clear ha5
    refine hK6 a5 w (then_up ?_)
    -- octet 0: the last one?
    refine uv_test (i := 0) (k := 1) (k2 := 2) (m := 14) hs h5 hE5 (hcell 0 hn0) (hlt 0 hn0) hn0 h45 (by omega) (by omega) rfl rfl ?_ ?_ ?_
    · intro hc a' _ hd' h2 h3
      refine hret hd' h2 h3 ?_
      rw [e0, uv_ok hc]
      simp only [Option.map_some, Option.some.injEq, Prod.mk.injEq]
      refine ⟨by first | trivial | omega, by first | trivial | omega⟩
    · intro hc hl a' hE'
      refine ⟨rfl, rfl, hE'.size, hE'.defers, 0, by omega, hE'.over, ?_⟩
      rw [e0, uv_on hc, List.drop_of_length_le (by omega), uv_none]; rfl
    intro hc0 hl0 a20 hE20 h420
    have hn1 : 1 < xs.length := by omega
    have e1 : uv xs = (uvGo 4 (xs[1] :: xs.drop 2)).map fun y => ((xs[0]).toNat % 128 + 128 * y.1, y.2 + 1) := by
      rw [e0, uv_on hc0, hdrop 1 hn1]
    refine then_id (wp_seq_k fun K30 hK30 => ?_)
    refine uv_add (i := 1) (m := 23) (sh := 7) hs h5 h5i h59 hE20 (hcell 1 hn1) (hlt 1 hn1) hn1 h420 (by simp only [Nat.reducePow]; omega) (by omega) (by omega) (by omega) ?_
    intro a6 hE6 h46
    simp only [Nat.reducePow] at h46
    refine hK30 a6 w (then_up ?_)
    -- octet 1: the last one?
    refine uv_test (i := 1) (k := 2) (k2 := 3) (m := 31) hs h5 hE6 (hcell 1 hn1) (hlt 1 hn1) hn1 h46 (by omega) (by omega) rfl rfl ?_ ?_ ?_
    · intro hc a' _ hd' h2 h3
      refine hret hd' h2 h3 ?_
      rw [e1, uv_ok hc]
      simp only [Option.map_some, Option.some.injEq, Prod.mk.injEq]
      refine ⟨by first | trivial | omega, by first | trivial | omega⟩
    · intro hc hl a' hE'
      refine ⟨rfl, rfl, hE'.size, hE'.defers, 0, by omega, hE'.over, ?_⟩
      rw [e1, uv_on hc, List.drop_of_length_le (by omega), uv_none]; rfl
    intro hc1 hl1 a21 hE21 h421
    have hn2 : 2 < xs.length := by omega
    have e2 : uv xs = (uvGo 3 (xs[2] :: xs.drop 3)).map fun y => ((xs[0]).toNat % 128 + ((xs[1]).toNat % 128) * 128 + 16384 * y.1, y.2 + 2) := by
      rw [e1, uv_on hc1, hdrop 2 hn2, Option.map_map]
      congr 1; funext y; simp only [Function.comp_apply, Prod.mk.injEq]; refine ⟨by first | trivial | omega, by first | trivial | omega⟩
    refine then_id (wp_seq_k fun K31 hK31 => ?_)
    refine uv_add (i := 2) (m := 40) (sh := 14) hs h5 h5i h59 hE21 (hcell 2 hn2) (hlt 2 hn2) hn2 h421 (by simp only [Nat.reducePow]; omega) (by omega) (by omega) (by omega) ?_
    intro a7 hE7 h47
    simp only [Nat.reducePow] at h47
    refine hK31 a7 w (then_up ?_)
    -- octet 2: the last one?
    refine uv_test (i := 2) (k := 3) (k2 := 4) (m := 48) hs h5 hE7 (hcell 2 hn2) (hlt 2 hn2) hn2 h47 (by omega) (by omega) rfl rfl ?_ ?_ ?_
    · intro hc a' _ hd' h2 h3
      refine hret hd' h2 h3 ?_
      rw [e2, uv_ok hc]
      simp only [Option.map_some, Option.some.injEq, Prod.mk.injEq]
      refine ⟨by first | trivial | omega, by first | trivial | omega⟩
    · intro hc hl a' hE'
      refine ⟨rfl, rfl, hE'.size, hE'.defers, 0, by omega, hE'.over, ?_⟩
      rw [e2, uv_on hc, List.drop_of_length_le (by omega), uv_none]; rfl
    intro hc2 hl2 a22 hE22 h422
    have hn3 : 3 < xs.length := by omega
    have e3 : uv xs = (uvGo 2 (xs[3] :: xs.drop 4)).map fun y => ((xs[0]).toNat % 128 + ((xs[1]).toNat % 128) * 128 + ((xs[2]).toNat % 128) * 16384 + 2097152 * y.1, y.2 + 3) := by
      rw [e2, uv_on hc2, hdrop 3 hn3, Option.map_map]
      congr 1; funext y; simp only [Function.comp_apply, Prod.mk.injEq]; refine ⟨by first | trivial | omega, by first | trivial | omega⟩
    refine then_id (wp_seq_k fun K32 hK32 => ?_)
    refine uv_add (i := 3) (m := 57) (sh := 21) hs h5 h5i h59 hE22 (hcell 3 hn3) (hlt 3 hn3) hn3 h422 (by simp only [Nat.reducePow]; omega) (by omega) (by omega) (by omega) ?_
    intro a8 hE8 h48
    simp only [Nat.reducePow] at h48
    refine hK32 a8 w (then_up ?_)
    -- octet 3: the last one?
    refine uv_test (i := 3) (k := 4) (k2 := 5) (m := 65) hs h5 hE8 (hcell 3 hn3) (hlt 3 hn3) hn3 h48 (by omega) (by omega) rfl rfl ?_ ?_ ?_
    · intro hc a' _ hd' h2 h3
      refine hret hd' h2 h3 ?_
      rw [e3, uv_ok hc]
      simp only [Option.map_some, Option.some.injEq, Prod.mk.injEq]
      refine ⟨by first | trivial | omega, by first | trivial | omega⟩
    · intro hc hl a' hE'
      refine ⟨rfl, rfl, hE'.size, hE'.defers, 0, by omega, hE'.over, ?_⟩
      rw [e3, uv_on hc, List.drop_of_length_le (by omega), uv_none]; rfl
    intro hc3 hl3 a23 hE23 h423
    have hn4 : 4 < xs.length := by omega
    have e4 : uv xs = (uvGo 1 (xs[4] :: xs.drop 5)).map fun y => ((xs[0]).toNat % 128 + ((xs[1]).toNat % 128) * 128 + ((xs[2]).toNat % 128) * 16384 + ((xs[3]).toNat % 128) * 2097152 + 268435456 * y.1, y.2 + 4) := by
      rw [e3, uv_on hc3, hdrop 4 hn4, Option.map_map]
      congr 1; funext y; simp only [Function.comp_apply, Prod.mk.injEq]; refine ⟨by first | trivial | omega, by first | trivial | omega⟩
    -- the fifth octet
    refine then_id (wp_seq_k fun K40 hK40 => ?_)
    have hz23 := hE23.size
    generalize hacc : (xs[0]).toNat % 128 + ((xs[1]).toNat % 128) * 128 + ((xs[2]).toNat % 128) * 16384 + ((xs[3]).toNat % 128) * 2097152 = acc at h423 e4
    have hal : acc < 268435456 := by omega
    clear hacc
    have hc4 := hlt 4 hn4
    have hcc := hcell 4 hn4
    generalize hcx : xs[4] = cx at hc4 hcc e4
    refine wp_reg ?_
    rw [wpl_cons, wp_move, eval_tmp, h423, wpl_cons, wp_move, eval_tmp, get_put_ne (by omega), hE23.src, wpl_cons]
    refine wp_indexAddr hs (b := b) (o := o) (len := xs.length) (cap := cap) (k1 := .i64) (i := 4) (by rw [eval_tmp, get_put_same (by simp only [size_put]; omega)]) rfl (by omega) (by omega) ?_
    rw [wpl_cons]
    refine wp_load h5 (b := b) (o := o + 4) (v := .int .u8 cx.toNat) (by rw [eval_tmp, get_put_same (by simp only [size_put]; omega)]; simp) hcc ?_
    rw [wpl_cons]
    refine wp_convert (k1 := .u8) (i := (cx.toNat : Int)) h5i h59 (by rw [eval_tmp, get_put_same (by simp only [size_put]; omega)]) ?_
    rw [IntKind.wrap_u32, Int.emod_eq_of_lt (by omega) (by omega), wpl_cons]
    refine wp_shl (k1 := .u32) (i := (cx.toNat : Int)) (n := 28) (by rw [eval_tmp, get_put_same (by simp only [size_put]; omega)]) rfl (by decide) ?_
    rw [IntKind.wrap_u32, wpl_cons]
    refine wp_or (k1 := .u32) (i := (acc : Int)) (j := ((cx.toNat : Int) * 2 ^ 28 % 4294967296)) (by rw [eval_tmp, get_put_ne (by omega), get_put_ne (by omega), get_put_ne (by omega), get_put_ne (by omega), get_put_ne (by omega), get_put_same (by omega)]) (by rw [eval_tmp, get_put_same (by simp only [size_put]; omega)]) ?_
    rw [wpl_cons, wp_assign, eval_tmp, get_put_same (by simp only [size_put]; omega), wpl_nil]
    generalize hor : bits .or .u32 (acc : Int) ((cx.toNat : Int) * 2 ^ 28 % 4294967296) = oo
    generalize ha9 : ((((((((a23.put (some 74) (.int .u32 acc)).put (some 75) (.slice (some ⟨b, o, none⟩) xs.length cap)).put (some 76) (.pointer (some ⟨b, o + (4 : Int).toNat * 1, none⟩))).put (some 77) (.int .u8 cx.toNat)).put (some 78) (.int .u32 cx.toNat)).put (some 79) (.int .u32 ((cx.toNat : Int) * 2 ^ 28 % 4294967296))).put (some 80) (.int .u32 oo)).put (some 4) (.int .u32 oo)) = a9
    have hE9 : UvE a9 b o xs.length cap := by
      subst ha9
      exact (((((((hE23.put (by omega) (by omega) _).put (by omega) (by omega) _).put (by omega) (by omega) _).put (by omega) (by omega) _).put (by omega) (by omega) _).put (by omega) (by omega) _).put (by omega) (by omega) _).put (by omega) (by omega) _
    have h49 : get a9 4 = .int .u32 oo := by subst ha9; exact get_put_same (by simp only [size_put]; omega)
    clear ha9
    have hz9 := hE9.size
    refine hK40 a9 w (then_up ?_)
    refine then_id (wp_seq_k fun K41 hK41 => ?_)
    refine wp_seq_k fun K42 hK42 => ?_
    refine wp_reg ?_
    rw [wpl_cons, wp_move, eval_tmp, hE9.src, wpl_cons]
    refine wp_indexAddr hs (b := b) (o := o) (len := xs.length) (cap := cap) (k1 := .i64) (i := 4) (by rw [eval_tmp, get_put_same (by omega)]) rfl (by omega) (by omega) ?_
    rw [wpl_cons]
    refine wp_load h5 (b := b) (o := o + 4) (v := .int .u8 cx.toNat) (by rw [eval_tmp, get_put_same (by simp only [size_put]; omega)]; simp) hcc ?_
    rw [wpl_cons]
    refine wp_leq (k1 := .u8) (i := cx.toNat) (j := 15) (by rw [eval_tmp, get_put_same (by simp only [size_put]; omega)]) rfl ?_
    rw [wpl_nil]
    generalize ha10 : (((a9.put (some 81) (.slice (some ⟨b, o, none⟩) xs.length cap)).put (some 82) (.pointer (some ⟨b, o + (4 : Int).toNat * 1, none⟩))).put (some 83) (.int .u8 cx.toNat)).put (some 84) (.bool (decide ((cx.toNat : Int) ≤ 15))) = a10
    have k10 : Kept 6 a9 a10 := by subst ha10; exact (((Kept.put0 (by omega) _).put (by omega) _).put (by omega) _).put (by omega) _
    have g84 : get a10 84 = .bool (decide ((cx.toNat : Int) ≤ 15)) := by subst ha10; exact get_put_same (by simp only [size_put]; omega)
    clear ha10
    have hE10 := hE9.kept k10
    have hz10 := hE10.size
    refine hK42 a10 w ?_
    refine wp_cond_split (t := decide ((cx.toNat : Int) ≤ 15)) (by rw [eval_tmp, g84]) (fun h => ?_) fun h => wp_skip (hK41 a10 w (then_up ?_))
    · have hle : cx.toNat ≤ 15 := by simp at h; omega
      have hval : oo = ((acc + cx.toNat * 268435456 : Nat) : Int) := by
        rw [← hor, show (2 : Int) ^ 28 = 268435456 from by decide, Int.emod_eq_of_lt (by omega) (by omega)]
        rw [bits_join_low .u32 32 (by decide) wraps_u32 28 (acc : Int) ((cx.toNat : Int) * 268435456) (by omega) (by rw [show (2 : Int) ^ 28 = 268435456 from by decide]; omega) (by omega) (by omega) (by rw [show (2 : Int) ^ 28 = 268435456 from by decide]; omega) (by omega)]
        rw [Int.natCast_add, Int.natCast_mul]; rfl
      refine wp_seq_k fun K43 hK43 => ?_
      refine wp_reg ?_
      rw [wpl_cons, wp_move, eval_tmp, k10.get 4 (by omega), h49, wpl_cons, wp_assign, eval_tmp, get_put_same (by omega), wpl_cons, wp_assign, eval_const, wpl_nil]
      refine hK43 _ w (wp_ret ?_)
      refine hret (x := acc + cx.toNat * 268435456) (n := 5) (by simp only [defers_put]; exact hE10.defers) (by rw [get_put_ne (by omega), get_put_same (by simp only [size_put]; omega), hval]) (by rw [get_put_same (by simp only [size_put]; omega)]; rfl) ?_
      rw [e4, uv_last hle, Option.map_some]
      refine congrArg some (Prod.ext ?_ rfl)
      show acc + 268435456 * cx.toNat = acc + cx.toNat * 268435456
      rw [Nat.mul_comm]
    · have hgt : ¬ cx.toNat ≤ 15 := by simp at h; omega
      refine then_id (wp_seq_k fun K43 hK43 => ?_)
      refine r_const (m := 5) (by omega) (by omega) fun a11 k11 g11 => hK43 a11 w (then_up ?_)
      refine then_id (wp_seq_k fun K44 hK44 => ?_)
      refine wp_label (hK44 a11 w (then_up ?_))
      have hz11 := k11.size
      refine then_id (wp_seq_k fun K45 hK45 => ?_)
      refine wp_reg ?_
      rw [wpl_cons, wp_move, eval_tmp, g11, wpl_cons, wp_assign, eval_const, wpl_cons, wp_assign, eval_tmp, get_put_ne (by omega), get_put_same (by omega), wpl_nil]
      refine hK45 _ w (wp_ret ?_)
      have hnone : uv xs = none := by rw [e4, uv_lastn hgt]; rfl
      refine ⟨by simp only [defers_put]; rw [k11.defers, hE10.defers], .tuple #[.int .u32 0, .int .i64 (-5)], ?_, rfl, by rw [hnone]; exact ⟨-5, by omega, rfl⟩⟩
      have h2' := get_put_same (a := a11.put (some 86) (.int .i64 (-5))) (d := 2) (v := .int .u32 0) (by simp only [size_put]; omega)
      simp [results, hres, Act.put, Array.getElem?_setIfInBounds, show 2 < a11.tmps.size from by omega, show 3 < a11.tmps.size from by omega]
  · rintro a' w' ⟨rfl, hz, hd, z, hz0, h5', hnone⟩
    refine then_id (wp_seq_k fun K50 hK50 => ?_)
    refine wp_skip ?_
    refine hK50 a' w' (then_up ?_)
    refine then_id (wp_seq_k fun K51 hK51 => ?_)
    refine wp_reg ?_
    rw [wpl_cons, wp_move, eval_tmp, h5', wpl_cons, wp_assign, eval_const, wpl_cons, wp_assign, eval_tmp, get_put_ne (by omega), get_put_same (by omega), wpl_nil]
    refine hK51 _ w' (wp_ret ?_)
    refine ⟨by simp only [defers_put]; exact hd, .tuple #[.int .u32 0, .int .i64 z], ?_, rfl, by rw [hnone]; exact ⟨z, hz0, rfl⟩⟩
    simp [results, hres, Act.put, Array.getElem?_setIfInBounds, show 2 < a'.tmps.size from by omega, show 3 < a'.tmps.size from by omega]

end Go.Kq

/- The tags that a reader reads. Written by mk_tag.py. -/
namespace Go.Kq
open Go Go.Proofs

def rdUv (st : RSt) : Nat × RSt :=
  match uv st.xs with
  | some (x, n) => (x, { st with xs := st.xs.drop n })
  | none => (0, .fail)
def gUv (st : RSt) : V × RSt := (.n (rdUv st).1, (rdUv st).2)
theorem rdUv_lt (st : RSt) : (rdUv st).1 < 4294967296 := by
  unfold rdUv
  split
  · rename_i x n h; exact (uv_spec h).1
  · simp

theorem RW.octe {w : World} {rb sb : Nat} {st : RSt} (h : RW w rb sb st) : ∃ sv, w.cell? ⟨rb, 0, none⟩ = Option.some sv ∧ OctE w (· = sb) sv st.xs := by
  obtain ⟨sv, h0, h1, f0, f1, hrb, hs⟩ := h.cells
  refine ⟨sv, h0, ?_⟩
  rcases hs with ⟨hn, hxs, rfl⟩ | ⟨hn, o, cap, rfl, hc, hr⟩
  · rw [hxs]; exact .nil
  · exact ⟨Option.some st.xs, .inr ⟨sb, o, cap, st.xs, rfl, rfl, hc, hr, rfl⟩, rfl⟩

set_option maxRecDepth 10000 in
/-- The reader's own. -/
theorem rdruv_m {P : Program} {f : FuncId} {fn : Func} {et : TypeId} {T3 T4 T22 T114 : TypeId} {f100 : FuncId} {a0 : Array TypeId} {i0 i1 i2 i3 i4 i5 i6 i7 : Nat}
    {t0 t1 t2 t3 t4 t5 t6 t7 t8 t9 t10 t11 t12 t13 t14 t15 t16 t17 t18 t19 t20 t21 t22 t23 t24 t25 t26 t27 t28 t29 t30 t31 t32 t33 : TypeId} {p0 p1 p2 p3 p4 p5 p6 p7 p8 p9 p10 p11 p12 p13 p14 p15 p16 p17 p18 p19 p20 p21 p22 p23 p24 p25 p26 p27 p28 p29 p30 p31 p32 p33 : String} {e0 e1 e2 e3 e4 e5 e6 e7 e8 e9 e10 e11 e12 e13 e14 e15 e16 e17 e18 e19 e20 e21 e22 e23 e24 e25 e26 e27 e28 e29 e30 e31 e32 e33 : Array Edge}
    (hf : P.funcs[f]? = some fn) (hname : (fn.name == "runtime.NumGoroutine") = false) (hres : fn.results = #[.tmp 2]) (hN : fn.ntmps = 31)
    (hbody : fn.body = some (.seq (Code.region i0 ⟨[⟨some 2, .assign (.const (.int .u32 0)), t0, p0, e0, none⟩]⟩ false)
  (.seq (Code.region i1 ⟨[⟨some 6, .move (.tmp 0), t1, p1, e1, none⟩,
    ⟨some 7, .nilCheck (.tmp 6), t2, p2, e2, none⟩,
    ⟨some 8, .fieldAddr T114 (.tmp 7) 0, t3, p3, e3, none⟩,
    ⟨some 9, .load T22 (.tmp 8), t4, p4, e4, none⟩,
    ⟨some 10, .call ⟨.value (.func f100), #[(.tmp 9)], a0⟩, t5, p5, e5, none⟩,
    ⟨some 5, .move (.tmp 10), t6, p6, e6, none⟩,
    ⟨some 11, .extract (.tmp 5) 0, t7, p7, e7, none⟩,
    ⟨some 12, .extract (.tmp 5) 1, t8, p8, e8, none⟩,
    ⟨some 3, .assign (.tmp 11), t9, p9, e9, none⟩,
    ⟨some 4, .assign (.tmp 12), t10, p10, e10, none⟩]⟩ false)
  (.seq (.seq (Code.region i2 ⟨[⟨some 13, .move (.tmp 4), t11, p11, e11, none⟩,
    ⟨some 14, .binOp .leq T3 (.tmp 13) (.const (.int .i64 0)) T3, t12, p12, e12, none⟩]⟩ false)
  (.cond (.tmp 14) (.seq (Code.region i3 ⟨[⟨some 15, .move (.tmp 0), t13, p13, e13, none⟩,
    ⟨some 16, .nilCheck (.tmp 15), t14, p14, e14, none⟩,
    ⟨some 17, .fieldAddr T114 (.tmp 16) 1, t15, p15, e15, none⟩,
    ⟨none, .store T4 (.tmp 17) (.const (.bool true)), t16, p16, e16, none⟩]⟩ false)
  (.seq (Code.region i4 ⟨[⟨some 18, .move (.tmp 0), t17, p17, e17, none⟩,
    ⟨some 19, .nilCheck (.tmp 18), t18, p18, e18, none⟩,
    ⟨some 20, .fieldAddr T114 (.tmp 19) 0, t19, p19, e19, none⟩,
    ⟨none, .store T22 (.tmp 20) (.const (.slice none 0 0)), t20, p20, e20, none⟩]⟩ false)
  (.seq (Code.region i5 ⟨[⟨some 2, .assign (.const (.int .u32 0)), t21, p21, e21, none⟩]⟩ false)
  .ret)))
  .skip))
  (.seq (Code.region i6 ⟨[⟨some 21, .move (.tmp 0), t22, p22, e22, none⟩,
    ⟨some 22, .move (.tmp 0), t23, p23, e23, none⟩,
    ⟨some 23, .nilCheck (.tmp 22), t24, p24, e24, none⟩,
    ⟨some 24, .fieldAddr T114 (.tmp 23) 0, t25, p25, e25, none⟩,
    ⟨some 25, .load T22 (.tmp 24), t26, p26, e26, none⟩,
    ⟨some 26, .move (.tmp 4), t27, p27, e27, none⟩,
    ⟨some 27, .slice T22 (.tmp 25) (some (.tmp 26)) none none, t28, p28, e28, none⟩,
    ⟨some 28, .nilCheck (.tmp 21), t29, p29, e29, none⟩,
    ⟨some 29, .fieldAddr T114 (.tmp 28) 0, t30, p30, e30, none⟩,
    ⟨none, .store T22 (.tmp 29) (.tmp 27), t31, p31, e31, none⟩]⟩ false)
  (.seq (Code.region i7 ⟨[⟨some 30, .move (.tmp 3), t32, p32, e32, none⟩,
    ⟨some 2, .assign (.tmp 30), t33, p33, e33, none⟩]⟩ false)
  .ret))))))
    (hs : sliceOf P T22 et 1 1 = true) (h22 : scal P T22 = true) (h4 : scal P T4 = true) (hF0 : fieldOf P T114 0 0 = true) (hF1 : fieldOf P T114 1 1 = true) (hu : UvM P f100) : MethV P f (.int .u32) gUv := by
  refine ⟨enters_of hf hname hbody, ?_⟩
  intro w rb sb st h
  obtain ⟨sv, hc0, ho⟩ := h.octe
  have hgone := h.gone
  have hthere : w.there rb 0 2 := h.2.1
  refine calls_of_wp hf hbody ?_
  generalize ha0 : ({ tmps := #[Value.pointer (some ⟨rb, 0, none⟩)] ++ Array.replicate (fn.ntmps - #[Value.pointer (some ⟨rb, 0, none⟩)].size) undef, defers := [] } : Act) = a0
  have hsz : a0.tmps.size = 31 := by subst ha0; simp [hN]
  have hd0 : a0.defers = [] := by subst ha0; rfl
  have g0 : get a0 0 = .pointer (some ⟨rb, 0, none⟩) := by subst ha0; exact get_args rfl
  clear ha0
  refine then_id (wp_seq_k fun K1 hK1 => ?_)
  refine r_const (m := 2) (by omega) (by omega) fun a1 k1 _ => hK1 a1 w (then_up ?_)
  have hz1 := k1.size
  have g1 : get a1 0 = .pointer (some ⟨rb, 0, none⟩) := by rw [k1.get 0 (by omega), g0]
  refine then_id (wp_seq_k fun K2 hK2 => ?_)
  refine wp_reg ?_
  rw [wpl_cons, wp_move, eval_tmp, g1, wpl_cons]
  refine wp_nilCheck (q := ⟨rb, 0, none⟩) (by rw [eval_tmp, get_put_same (by omega)]) ?_
  rw [wpl_cons]
  refine wp_fieldAddr (b := rb) (i := 0) hF0 (by rw [eval_tmp, get_put_same (by simp only [size_put]; omega)]) ?_
  rw [wpl_cons]
  refine wp_load h22 (b := rb) (o := 0) (v := sv) (by rw [eval_tmp, get_put_same (by simp only [size_put]; omega)]) hc0 ?_
  rw [wpl_cons]
  refine wp_calls (R := fun v w' => w' = w ∧ ∃ (x : Nat) (z : Int), v = .tuple #[.int .u32 x, .int .i64 z] ∧ ((z ≤ 0 ∧ uv st.xs = none) ∨ ∃ n : Nat, z = n ∧ uv st.xs = some (x, n))) hu.enters (vs := #[sv])
    (by simp [eval_tmp, get_put_same (a := ((a1.put (some 6) (.pointer (some ⟨rb, 0, none⟩))).put (some 7) (.pointer (some ⟨rb, 0, none⟩))).put (some 8) (.pointer (some ⟨rb, 0 + 0, none⟩))) (d := 9) (v := sv) (by simp only [size_put]; omega)])
    ((hu.call w _ sv st.xs ho).mono (by
      rintro e' w' ⟨rfl, hm⟩
      cases huv : uv st.xs with
      | none => rw [huv] at hm; obtain ⟨z, hz, rfl⟩ := hm; exact ⟨_, rfl, rfl, 0, z, rfl, .inl ⟨hz, rfl⟩⟩
      | some y => obtain ⟨x, n⟩ := y; rw [huv] at hm; subst hm; exact ⟨_, rfl, rfl, x, n, rfl, .inr ⟨n, rfl, rfl⟩⟩)) ?_
  rintro v w' ⟨rfl, x, z, rfl, hxz⟩
  rw [wpl_cons, wp_move, eval_tmp, get_put_same (by simp only [size_put]; omega), wpl_cons]
  refine wp_extract (vs := #[.int .u32 x, .int .i64 z]) (v := .int .u32 x) (by rw [eval_tmp, get_put_same (by simp only [size_put]; omega)]) rfl ?_
  rw [wpl_cons]
  refine wp_extract (vs := #[.int .u32 x, .int .i64 z]) (v := .int .i64 z) (by rw [eval_tmp, get_put_ne (by omega), get_put_same (by simp only [size_put]; omega)]) rfl ?_
  rw [wpl_cons, wp_assign, eval_tmp, get_put_ne (by omega), get_put_same (by simp only [size_put]; omega), wpl_cons, wp_assign, eval_tmp, get_put_ne (by omega), get_put_same (by simp only [size_put]; omega), wpl_nil]
  generalize ha2 : (((((((((a1.put (some 6) (.pointer (some ⟨rb, 0, none⟩))).put (some 7) (.pointer (some ⟨rb, 0, none⟩))).put (some 8) (.pointer (some ⟨rb, 0 + 0, none⟩))).put (some 9) sv).put (some 10) (.tuple #[.int .u32 x, .int .i64 z])).put (some 5) (.tuple #[.int .u32 x, .int .i64 z])).put (some 11) (.int .u32 x)).put (some 12) (.int .i64 z)).put (some 3) (.int .u32 x)).put (some 4) (.int .i64 z) = a2
  have k2 : Kept 2 a1 a2 := by subst ha2; exact (((((((((Kept.put0 (by omega) _).put (by omega) _).put (by omega) _).put (by omega) _).put (by omega) _).put (by omega) _).put (by omega) _).put (by omega) _).put (by omega) _).put (by omega) _
  have q3 : get a2 3 = .int .u32 x := by subst ha2; rw [get_put_ne (by omega), get_put_same (by simp only [size_put]; omega)]
  have q4 : get a2 4 = .int .i64 z := by subst ha2; exact get_put_same (by simp only [size_put]; omega)
  clear ha2
  have hz2 := k2.size
  refine hK2 a2 w' (then_up ?_)
  refine then_id (wp_seq_k fun K3 hK3 => ?_)
  refine wp_seq_k fun K4 hK4 => ?_
  refine wp_reg ?_
  rw [wpl_cons, wp_move, eval_tmp, q4, wpl_cons]
  refine wp_leq (k1 := .i64) (i := z) (j := 0) (by rw [eval_tmp, get_put_same (by omega)]) rfl ?_
  rw [wpl_nil]
  generalize ha3 : (a2.put (some 13) (.int .i64 z)).put (some 14) (.bool (decide (z ≤ 0))) = a3
  have k3 : Kept 13 a2 a3 := by subst ha3; exact (Kept.put0 (by omega) _).put (by omega) _
  have q14 : get a3 14 = .bool (decide (z ≤ 0)) := by subst ha3; exact get_put_same (by simp only [size_put]; omega)
  clear ha3
  have hz3 := k3.size
  have g3 : get a3 0 = .pointer (some ⟨rb, 0, none⟩) := by rw [k3.get 0 (by omega), k2.get 0 (by omega), g1]
  have hd3 : a3.defers = [] := by rw [k3.defers, k2.defers, k1.defers, hd0]
  refine hK4 a3 w' ?_
  refine wp_cond_split (t := decide (z ≤ 0)) (by rw [eval_tmp, q14]) (fun hz => ?_) fun hz => wp_skip (hK3 a3 w' (then_up ?_))
  · have hnone : uv st.xs = none := by
      rcases hxz with ⟨_, h⟩ | ⟨n, rfl, h⟩
      · exact h
      · have := (uv_spec h).2.1; simp at hz; omega
    have er : gUv st = (.n 0, .fail) := by simp [gUv, rdUv, hnone]
    rw [er]
    refine wp_seq_k fun K5 hK5 => ?_
    refine wp_reg ?_
    rw [wpl_cons, wp_move, eval_tmp, g3, wpl_cons]
    refine wp_nilCheck (q := ⟨rb, 0, none⟩) (by rw [eval_tmp, get_put_same (by omega)]) ?_
    rw [wpl_cons]
    refine wp_fieldAddr (b := rb) (i := 0) hF1 (by rw [eval_tmp, get_put_same (by simp only [size_put]; omega)]) ?_
    rw [wpl_cons]
    refine wp_store h4 (b := rb) (o := 0 + 1) (v := .bool true) (by rw [eval_tmp, get_put_same (by simp only [size_put]; omega)]) rfl rfl (there_part hthere (by omega) (by omega)) ?_
    rw [put_none, wpl_nil]
    generalize ha4 : ((a3.put (some 15) (.pointer (some ⟨rb, 0, none⟩))).put (some 16) (.pointer (some ⟨rb, 0, none⟩))).put (some 17) (.pointer (some ⟨rb, 0 + 1, none⟩)) = a4
    have k4 : Kept 13 a3 a4 := by subst ha4; exact ((Kept.put0 (by omega) _).put (by omega) _).put (by omega) _
    clear ha4
    have hz4 := k4.size
    refine hK5 a4 _ ?_
    refine wp_seq_k fun K6 hK6 => ?_
    refine wp_reg ?_
    rw [wpl_cons, wp_move, eval_tmp, k4.get 0 (by omega), g3, wpl_cons]
    refine wp_nilCheck (q := ⟨rb, 0, none⟩) (by rw [eval_tmp, get_put_same (by omega)]) ?_
    rw [wpl_cons]
    refine wp_fieldAddr (b := rb) (i := 0) hF0 (by rw [eval_tmp, get_put_same (by simp only [size_put]; omega)]) ?_
    rw [wpl_cons]
    refine wp_store h22 (b := rb) (o := 0 + 0) (v := .slice none 0 0) (by rw [eval_tmp, get_put_same (by simp only [size_put]; omega)]) rfl rfl (there_part ((Fr.set w' rb (0 + 1) (.bool true)).there hthere) (by omega) (by omega)) ?_
    rw [put_none, wpl_nil]
    generalize ha5 : ((a4.put (some 18) (.pointer (some ⟨rb, 0, none⟩))).put (some 19) (.pointer (some ⟨rb, 0, none⟩))).put (some 20) (.pointer (some ⟨rb, 0 + 0, none⟩)) = a5
    have k5 : Kept 13 a4 a5 := by subst ha5; exact ((Kept.put0 (by omega) _).put (by omega) _).put (by omega) _
    clear ha5
    have hz5 := k5.size
    refine hK6 a5 _ ?_
    refine wp_seq_k fun K7 hK7 => ?_
    refine r_const (m := 2) (by omega) (by omega) fun a6 k6 g6 => hK7 a6 _ ?_
    exact wp_ret ⟨by rw [k6.defers, k5.defers, k4.defers, hd3], _, results_one hres, _, rfl, by rw [g6]; exact ⟨0, rfl, rfl, by decide, by decide⟩, hgone.1, hgone.2⟩
  · obtain ⟨n, rfl, hsome⟩ : ∃ n : Nat, z = n ∧ uv st.xs = some (x, n) := by
      rcases hxz with ⟨h, _⟩ | h
      · simp at hz; omega
      · exact h
    obtain ⟨hx32, hn1, hnl⟩ := uv_spec hsome
    have er : gUv st = (.n x, { st with xs := st.xs.drop n }) := by simp [gUv, rdUv, hsome]
    rw [er]
    have hne : st.xs ≠ [] := by intro e; rw [e] at hnl; simp at hnl; omega
    obtain ⟨o, cap, hc, _, _, _, hrb, hsb, hcap, hr, hnil⟩ := h.some hne
    have hsv : sv = .slice (some ⟨sb, o, none⟩) st.xs.length cap := by rw [hc] at hc0; exact (Option.some.inj hc0).symm
    refine then_id (wp_seq_k fun K5 hK5 => ?_)
    refine wp_reg ?_
    rw [wpl_cons, wp_move, eval_tmp, g3, wpl_cons, wp_move, eval_tmp, get_put_ne (by omega), g3, wpl_cons]
    refine wp_nilCheck (q := ⟨rb, 0, none⟩) (by rw [eval_tmp, get_put_same (by simp only [size_put]; omega)]) ?_
    rw [wpl_cons]
    refine wp_fieldAddr (b := rb) (i := 0) hF0 (by rw [eval_tmp, get_put_same (by simp only [size_put]; omega)]) ?_
    rw [wpl_cons]
    refine wp_load h22 (b := rb) (o := 0) (v := .slice (some ⟨sb, o, none⟩) st.xs.length cap) (by rw [eval_tmp, get_put_same (by simp only [size_put]; omega)]) hc ?_
    rw [wpl_cons, wp_move, eval_tmp, get_put_ne (by omega), get_put_ne (by omega), get_put_ne (by omega), get_put_ne (by omega), get_put_ne (by omega), k3.get 4 (by omega), q4, wpl_cons]
    refine wp_sliceLo (q := some ⟨sb, o, none⟩) (len := st.xs.length) (cap := cap) (l := n) (k1 := .i64) hs (by rw [eval_tmp, get_put_ne (by omega), get_put_same (by simp only [size_put]; omega)]) (by rw [eval_tmp, get_put_same (by simp only [size_put]; omega)]) hnl ?_
    rw [wpl_cons]
    refine wp_nilCheck (q := ⟨rb, 0, none⟩) (by rw [eval_tmp, get_put_ne (by omega), get_put_ne (by omega), get_put_ne (by omega), get_put_ne (by omega), get_put_ne (by omega), get_put_ne (by omega), get_put_same (by omega)]) ?_
    rw [wpl_cons]
    refine wp_fieldAddr (b := rb) (i := 0) hF0 (by rw [eval_tmp, get_put_same (by simp only [size_put]; omega)]) ?_
    rw [wpl_cons]
    generalize hvv : Value.slice (if cap = n then some ⟨sb, o, none⟩ else Option.map (fun y : Addr => y.add (n * 1)) (some ⟨sb, o, none⟩)) (st.xs.length - n) (cap - n) = vv
    have hvv' : vv = .slice (if cap = n then some ⟨sb, o, none⟩ else some ⟨sb, o + n, none⟩) (st.xs.length - n) (cap - n) := by rw [← hvv]; simp [add_addr]
    have hone : vv.oneCell' = true := by rw [hvv']; rfl
    refine wp_store h22 (b := rb) (o := 0 + 0) (v := vv) (by rw [eval_tmp, get_put_same (by simp only [size_put]; omega)]) (by rw [eval_tmp, get_put_ne (by omega), get_put_ne (by omega), get_put_same (by simp only [size_put]; omega)]) hone (there_part hthere (by omega) (by omega)) ?_
    rw [put_none, wpl_nil]
    have hon := h.on (w1 := w') (k := n) hc hr hcap hnil hnl (Fr.refl _ _) hvv'
    generalize ha4 : (((((((a3.put (some 21) (.pointer (some ⟨rb, 0, none⟩))).put (some 22) (.pointer (some ⟨rb, 0, none⟩))).put (some 23) (.pointer (some ⟨rb, 0, none⟩))).put (some 24) (.pointer (some ⟨rb, 0 + 0, none⟩))).put (some 25) (.slice (some ⟨sb, o, none⟩) st.xs.length cap)).put (some 26) (.int .i64 n)).put (some 27) vv).put (some 28) (.pointer (some ⟨rb, 0, none⟩)) = a4'
    generalize ha5 : a4'.put (some 29) (.pointer (some ⟨rb, 0 + 0, none⟩)) = a5
    have k5 : Kept 13 a3 a5 := by subst ha5 ha4; exact ((((((((Kept.put0 (by omega) _).put (by omega) _).put (by omega) _).put (by omega) _).put (by omega) _).put (by omega) _).put (by omega) _).put (by omega) _).put (by omega) _
    clear ha4 ha5
    have hz5 := k5.size
    refine hK5 a5 _ (then_up ?_)
    refine then_id (wp_seq_k fun K6 hK6 => ?_)
    refine wp_reg ?_
    rw [wpl_cons, wp_move, eval_tmp, k5.get 3 (by omega), k3.get 3 (by omega), q3, wpl_cons, wp_assign, eval_tmp, get_put_same (by omega), wpl_nil]
    refine hK6 _ _ (wp_ret ?_)
    refine ⟨by simp only [defers_put]; rw [k5.defers, hd3], _, results_one hres, _, rfl, ?_, hon.1, hon.2⟩
    rw [get_put_same (by simp only [size_put]; omega)]
    exact ⟨x, rfl, rfl, by simp [IntKind.min, IntKind.signed], by simp [IntKind.max, IntKind.signed, IntKind.bits]; omega⟩

/-! ### a tag is set -/
/-- The tags under work: no map yet, or one that is new. -/
def TagV (w : World) (A : Nat → Prop) (lo : Nat) (v : Value) (x : V) : Prop := (v = .map none ∧ x = .nil) ∨ ∃ r kv, v = .map (some r) ∧ lo ≤ r ∧ TagM w A r kv ∧ x = .t kv
structure SetTagM (P : Program) (f : FuncId) : Prop where
  enters : Enters P f
  call : ∀ w A lo tb to v x (k : Nat) u y, w.cell? ⟨tb, to, none⟩ = some v → w.there tb to 1 → TagV w A lo v x → (∀ b, A b → b < lo) → lo ≤ w.heap.size → k < 4294967296 → Octs w A u y → ¬ A tb →
    Calls P f #[.pointer (some ⟨tb, to, none⟩), .int .u32 (k : Int), u] w fun e w' => (∃ z, e = .returned z) ∧ ∃ r, w'.cell? ⟨tb, to, none⟩ = some (.map (some r)) ∧ lo ≤ r ∧ TagM w' A r (kvSet (tagKv x) k (.oct y)) ∧ Fr [⟨tb, to, to + 1⟩, ⟨r, 0, 0⟩] w w'
theorem TagM.notCell {w : World} {A : Nat → Prop} {r : Nat} {kv : List (Nat × V)} {tb to : Nat} {v : Value} (h : TagM w A r kv) (hc : w.cell? ⟨tb, to, none⟩ = some v) : tb ≠ r := by
  rintro rfl
  obtain ⟨es, clock, h1, _⟩ := h
  obtain ⟨cs, T, fz, h2, _⟩ := block_of_cell hc
  rw [h1] at h2; cases h2

theorem settag_m {P : Program} {f : FuncId} {fn : Func} {kt et : TypeId} {T97 T99 : TypeId} {i0 i1 i2 : Nat}
    {t0 t1 t2 t3 t4 t5 t6 t7 t8 t9 t10 t11 t12 t13 t14 t15 t16 : TypeId} {p0 p1 p2 p3 p4 p5 p6 p7 p8 p9 p10 p11 p12 p13 p14 p15 p16 : String} {e0 e1 e2 e3 e4 e5 e6 e7 e8 e9 e10 e11 e12 e13 e14 e15 e16 : Array Edge}
    (hf : P.funcs[f]? = some fn) (hname : (fn.name == "runtime.NumGoroutine") = false) (hres : fn.results = #[]) (hN : fn.ntmps = 21)
    (hbody : fn.body = some (.seq (.seq (Code.region i0 ⟨[⟨some 6, .move (.tmp 0), t0, p0, e0, none⟩,
    ⟨some 7, .nilCheck (.tmp 6), t1, p1, e1, none⟩,
    ⟨some 8, .fieldAddr T99 (.tmp 7) 0, t2, p2, e2, none⟩,
    ⟨some 9, .load T97 (.tmp 8), t3, p3, e3, none⟩,
    ⟨some 10, .binOp .eql T97 (.tmp 9) (.const (.map none)) T97, t4, p4, e4, none⟩]⟩ false)
  (.cond (.tmp 10) (Code.region i1 ⟨[⟨some 11, .move (.tmp 0), t5, p5, e5, none⟩,
    ⟨some 12, .makeMap T97 none, t6, p6, e6, none⟩,
    ⟨some 13, .nilCheck (.tmp 11), t7, p7, e7, none⟩,
    ⟨some 14, .fieldAddr T99 (.tmp 13) 0, t8, p8, e8, none⟩,
    ⟨none, .store T97 (.tmp 14) (.tmp 12), t9, p9, e9, none⟩]⟩ false)
  .skip))
  (Code.region i2 ⟨[⟨some 15, .move (.tmp 0), t10, p10, e10, none⟩,
    ⟨some 16, .nilCheck (.tmp 15), t11, p11, e11, none⟩,
    ⟨some 17, .fieldAddr T99 (.tmp 16) 0, t12, p12, e12, none⟩,
    ⟨some 18, .load T97 (.tmp 17), t13, p13, e13, none⟩,
    ⟨some 19, .move (.tmp 1), t14, p14, e14, none⟩,
    ⟨some 20, .move (.tmp 2), t15, p15, e15, none⟩,
    ⟨none, .mapUpdate T97 (.tmp 18) (.tmp 19) (.tmp 20), t16, p16, e16, none⟩]⟩ false)))
    (hT : mapOf P T97 kt et = true) (h97 : scal P T97 = true) (hF : fieldOf P T99 0 0 = true) : SetTagM P f := by
  refine ⟨enters_of hf hname hbody, ?_⟩
  intro w A lo tb to v x k u y hc hth hv hA hlo hk hu hAt
  refine calls_of_wp hf hbody ?_
  generalize ha0 : ({ tmps := #[Value.pointer (some ⟨tb, to, none⟩), Value.int .u32 (k : Int), u] ++ Array.replicate (fn.ntmps - #[Value.pointer (some ⟨tb, to, none⟩), Value.int .u32 (k : Int), u].size) undef, defers := [] } : Act) = a0
  have hsz : a0.tmps.size = 21 := by subst ha0; simp [hN]
  have hd0 : a0.defers = [] := by subst ha0; rfl
  have g0 : get a0 0 = .pointer (some ⟨tb, to, none⟩) := by subst ha0; exact get_args rfl
  have g1 : get a0 1 = .int .u32 (k : Int) := by subst ha0; exact get_args rfl
  have g2 : get a0 2 = u := by subst ha0; exact get_args rfl
  clear ha0
  obtain ⟨q, hvq⟩ : ∃ q, v = .map q := by
    rcases hv with ⟨rfl, _⟩ | ⟨r, kv, rfl, _⟩
    · exact ⟨_, rfl⟩
    · exact ⟨_, rfl⟩
  subst hvq
  have main : ∀ (a : Act) (w2 : World) (r : Nat) (kv : List (Nat × V)), Kept 6 a0 a → w2.cell? ⟨tb, to, none⟩ = some (.map (some r)) → lo ≤ r → TagM w2 A r kv → kv = tagKv x → Fr [⟨tb, to, to + 1⟩, ⟨r, 0, 0⟩] w w2 →
      (Code.region i2 ⟨[⟨some 15, .move (.tmp 0), t10, p10, e10, none⟩, ⟨some 16, .nilCheck (.tmp 15), t11, p11, e11, none⟩, ⟨some 17, .fieldAddr T99 (.tmp 16) 0, t12, p12, e12, none⟩, ⟨some 18, .load T97 (.tmp 17), t13, p13, e13, none⟩, ⟨some 19, .move (.tmp 1), t14, p14, e14, none⟩, ⟨some 20, .move (.tmp 2), t15, p15, e15, none⟩,
        ⟨none, .mapUpdate T97 (.tmp 18) (.tmp 19) (.tmp 20), t16, p16, e16, none⟩]⟩ false).wp P (bodyPost P fn fun e w' => (∃ z, e = .returned z) ∧ ∃ r, w'.cell? ⟨tb, to, none⟩ = some (.map (some r)) ∧ lo ≤ r ∧ TagM w' A r (kvSet (tagKv x) k (.oct y)) ∧ Fr [⟨tb, to, to + 1⟩, ⟨r, 0, 0⟩] w w') a w2 := by
    intro a w2 r kv hk2 hc2 hlr hm hkv hfr
    have hsz2 := hk2.size
    refine wp_reg ?_
    rw [wpl_cons, wp_move, eval_tmp, hk2.get 0 (by omega), g0, wpl_cons]
    refine wp_nilCheck (q := ⟨tb, to, none⟩) (by rw [eval_tmp, get_put_same (by omega)]) ?_
    rw [wpl_cons]
    refine wp_fieldAddr (b := tb) (i := to) hF (by rw [eval_tmp, get_put_same (by simp only [size_put]; omega)]) ?_
    rw [wpl_cons]
    refine wp_load h97 (b := tb) (o := to) (by rw [eval_tmp, get_put_same (by simp only [size_put]; omega)]; simp) hc2 ?_
    rw [wpl_cons, wp_move, eval_tmp, get_put_ne (by omega), get_put_ne (by omega), get_put_ne (by omega), get_put_ne (by omega), hk2.get 1 (by omega), g1, wpl_cons, wp_move, eval_tmp, get_put_ne (by omega), get_put_ne (by omega), get_put_ne (by omega), get_put_ne (by omega), get_put_ne (by omega), hk2.get 2 (by omega), g2, wpl_cons]
    refine wp_mapSet (r := r) (k := k) (v := u) (A := A) (kv := kv) (x := y) hT (by rw [eval_tmp, get_put_ne (by omega), get_put_ne (by omega), get_put_same (by simp only [size_put]; omega)]) (by rw [eval_tmp, get_put_ne (by omega), get_put_same (by simp only [size_put]; omega)]) (by rw [eval_tmp, get_put_same (by simp only [size_put]; omega)]) hm hk
      (hu.kept hfr (by intro z hz; simp at hz; rcases hz with rfl | rfl; exact hAt; intro hb; have := hA _ hb; simp only at this; omega) (fun _ h => h)) (fun hb => by have := hA _ hb; omega) ?_
    intro w3 f3 hm3
    rw [put_none, wpl_nil]
    refine ⟨by simp only [defers_put]; rw [hk2.defers, hd0], .tuple #[], by simp [results, hres], ⟨_, rfl⟩, r, f3.cell hc2 (.cons (.inl (fun e => hm.notCell hc2 e.symm)) .nil), hlr, by rw [← hkv]; exact hm3, ?_⟩
    refine hfr.trans f3 ?_
    intro z hz; simp at hz; subst hz; exact .inr ⟨⟨r, 0, 0⟩, by simp, rfl, by simp, by simp⟩
  refine then_id (wp_seq_k fun K1 hK1 => ?_)
  refine wp_seq_k fun K2 hK2 => ?_
  refine wp_reg ?_
  rw [wpl_cons, wp_move, eval_tmp, g0, wpl_cons]
  refine wp_nilCheck (q := ⟨tb, to, none⟩) (by rw [eval_tmp, get_put_same (by omega)]) ?_
  rw [wpl_cons]
  refine wp_fieldAddr (b := tb) (i := to) hF (by rw [eval_tmp, get_put_same (by simp only [size_put]; omega)]) ?_
  rw [wpl_cons]
  refine wp_load h97 (b := tb) (o := to) (by rw [eval_tmp, get_put_same (by simp only [size_put]; omega)]; simp) hc ?_
  rw [wpl_cons]
  refine wp_eqlMapNil (q := q) hT (by rw [eval_tmp, get_put_same (by simp only [size_put]; omega)]) ?_
  rw [wpl_nil]
  generalize ha1 : ((((a0.put (some 6) (.pointer (some ⟨tb, to, none⟩))).put (some 7) (.pointer (some ⟨tb, to, none⟩))).put (some 8) (.pointer (some ⟨tb, to + 0, none⟩))).put (some 9) (.map q)).put (some 10) (.bool q.isNone) = a1
  have k1 : Kept 6 a0 a1 := by subst ha1; exact ((((Kept.put0 (by omega) _).put (by omega) _).put (by omega) _).put (by omega) _).put (by omega) _
  have g10 : get a1 10 = .bool q.isNone := by subst ha1; exact get_put_same (by simp only [size_put]; omega)
  clear ha1
  have hz1 := k1.size
  refine hK2 a1 w ?_
  refine wp_cond_split (t := q.isNone) (by rw [eval_tmp, g10]) (fun hq => ?_) fun hq => wp_skip (hK1 a1 w (then_up ?_))
  · obtain rfl : q = none := by simpa using hq
    obtain rfl : x = .nil := by
      rcases hv with ⟨_, h⟩ | ⟨r, kv, h, _⟩
      · exact h
      · cases h
    refine wp_reg ?_
    rw [wpl_cons, wp_move, eval_tmp, k1.get 0 (by omega), g0, wpl_cons]
    refine wp_makeMap ?_
    have f1 := Fr.alloc [] w (.map #[] 0)
    have hnew := TagM.new w A
    have sz1 := size_alloc w (.map #[] 0)
    generalize w.alloc (.map #[] 0) = w1 at f1 hnew sz1 ⊢
    rw [wpl_cons]
    refine wp_nilCheck (q := ⟨tb, to, none⟩) (by rw [eval_tmp, get_put_ne (by omega), get_put_same (by omega)]) ?_
    rw [wpl_cons]
    refine wp_fieldAddr (b := tb) (i := to) hF (by rw [eval_tmp, get_put_same (by simp only [size_put]; omega)]) ?_
    rw [wpl_cons]
    have th1 := f1.there hth
    refine wp_store h97 (b := tb) (o := to + 0) (v := .map (some w.heap.size)) (by rw [eval_tmp, get_put_same (by simp only [size_put]; omega)]) (by rw [eval_tmp, get_put_ne (by omega), get_put_ne (by omega), get_put_same (by simp only [size_put]; omega)]) rfl th1 ?_
    rw [put_none, wpl_nil]
    have f2 := Fr.set w1 tb to (.map (some w.heap.size))
    have htl := lt_of_cell hc
    refine hK1 _ _ (then_up ?_)
    refine main _ _ w.heap.size [] ((((k1.put (by omega) _).put (by omega) _).put (by omega) _).put (by omega) _) (range_set th1) hlo ?_ rfl ?_
    · exact hnew.kept f2 (by intro z hz; simp at hz; subst hz; exact hAt) (by intro z hz; simp at hz; subst hz; simp only; omega) (fun _ h => h)
    · refine (f1.nil (l := [⟨tb, to, to + 1⟩, ⟨w.heap.size, 0, 0⟩])).trans f2 ?_
      intro z hz; simp at hz; subst hz; exact .inr ⟨⟨tb, to, to + 1⟩, by simp, rfl, by simp, by simp⟩
  · rcases hv with ⟨h, _⟩ | ⟨r, kv, h, hlr, hm, rfl⟩
    · simp at h; subst h; simp at hq
    · simp at h; subst h
      exact main a1 w r kv k1 hc hlr hm rfl (Fr.refl _ _)

/-! ### all of them -/
structure SpanM (P : Program) (f : FuncId) : Prop where
  enters : Enters P f
  call : ∀ w rb sb st l, RW w rb sb st → Calls P f #[.pointer (some ⟨rb, 0, none⟩), .int .i64 l] w fun e w' => ∃ x, e = .returned x ∧ Octs w' (· = sb) x (rdSpan l st).1 ∧ RW w' rb sb (rdSpan l st).2 ∧ Fr [⟨rb, 0, 2⟩] w w'
def rdTagsGo : Nat → V → RSt → V × RSt
  | 0, x, st => (x, st)
  | n + 1, x, st => rdTagsGo n (tagSet x (rdUv st).1 (.oct (rdSpan (rdUv (rdUv st).2).1 (rdUv (rdUv st).2).2).1)) (rdSpan (rdUv (rdUv st).2).1 (rdUv (rdUv st).2).2).2
def rdTags (st : RSt) : V × RSt := rdTagsGo (rdUv st).1 .nil (rdUv st).2
structure TagsM (P : Program) (f : FuncId) : Prop where
  enters : Enters P f
  call : ∀ w rb sb st, RW w rb sb st → sb < w.heap.size → Calls P f #[.pointer (some ⟨rb, 0, none⟩)] w fun e w' => ∃ v, e = .returned (.agg #[v]) ∧ Rep w' (Foot sb w.heap.size w'.heap.size) .tags [v] (rdTags st).1 ∧ RW w' rb sb (rdTags st).2 ∧ Fr [⟨rb, 0, 2⟩] w w'
theorem Rep.u32 {w : World} {A : Nat → Prop} {v : Value} {n : Nat} (h : Rep w A (.int .u32) [v] (.n n)) : v = .int .u32 n := by
  obtain ⟨i, h1, h2, _⟩ := h
  simp at h1 h2
  rw [h1, h2]

set_option maxRecDepth 10000 in
theorem tags_m {P : Program} {f : FuncId} {fn : Func} {T3 T59 T99 : TypeId} {f92 f94 f95 : FuncId} {a0 a1 a2 a3 a4 : Array TypeId} {i0 i1 i2 i3 i5 i6 i4 i7 : Nat}
    {t0 t1 t2 t3 t4 t5 t6 t7 t8 t9 t10 t11 t12 t13 t14 t15 t16 t17 t18 t19 t20 t21 t22 t23 : TypeId} {p0 p1 p2 p3 p4 p5 p6 p7 p8 p9 p10 p11 p12 p13 p14 p15 p16 p17 p18 p19 p20 p21 p22 p23 : String} {e0 e1 e2 e3 e4 e5 e6 e7 e8 e9 e10 e11 e12 e13 e14 e15 e16 e17 e18 e19 e20 e21 e22 e23 : Array Edge}
    (hf : P.funcs[f]? = some fn) (hname : (fn.name == "runtime.NumGoroutine") = false) (hres : fn.results = #[.cell 2 T99]) (hN : fn.ntmps = 24)
    (hbody : fn.body = some (.seq (Code.region i0 ⟨[⟨some 2, .alloc T99, t0, p0, e0, none⟩]⟩ false)
  (.seq (Code.region i1 ⟨[⟨some 3, .alloc T99, t1, p1, e1, none⟩]⟩ false)
  (.seq (.seq (Code.region i2 ⟨[⟨some 7, .move (.tmp 0), t2, p2, e2, none⟩,
    ⟨some 8, .call ⟨.value (.func f94), #[(.tmp 7)], a0⟩, t3, p3, e3, none⟩,
    ⟨some 4, .assign (.tmp 8), t4, p4, e4, none⟩]⟩ false)
  (.block 0 (.loop (.seq (.seq (Code.region i3 ⟨[⟨some 9, .move (.tmp 4), t5, p5, e5, none⟩,
    ⟨some 10, .binOp .gtr T59 (.tmp 9) (.const (.int .u32 0)) T59, t6, p6, e6, none⟩]⟩ false)
  (.cond (.tmp 10) .skip
  (.exit 0)))
  (.seq (.block 1 (.seq (Code.region i5 ⟨[⟨some 13, .move (.tmp 0), t7, p7, e7, none⟩,
    ⟨some 14, .call ⟨.value (.func f94), #[(.tmp 13)], a1⟩, t8, p8, e8, none⟩,
    ⟨some 15, .move (.tmp 0), t9, p9, e9, none⟩,
    ⟨some 16, .call ⟨.value (.func f94), #[(.tmp 15)], a2⟩, t10, p10, e10, none⟩,
    ⟨some 5, .assign (.tmp 14), t11, p11, e11, none⟩,
    ⟨some 6, .assign (.tmp 16), t12, p12, e12, none⟩]⟩ false)
  (Code.region i6 ⟨[⟨some 17, .move (.tmp 5), t13, p13, e13, none⟩,
    ⟨some 18, .move (.tmp 0), t14, p14, e14, none⟩,
    ⟨some 19, .move (.tmp 6), t15, p15, e15, none⟩,
    ⟨some 20, .convert T59 T3 (.tmp 19), t16, p16, e16, none⟩,
    ⟨some 21, .call ⟨.value (.func f92), #[(.tmp 18), (.tmp 20)], a3⟩, t17, p17, e17, none⟩,
    ⟨some 22, .call ⟨.value (.func f95), #[(.tmp 3), (.tmp 17), (.tmp 21)], a4⟩, t18, p18, e18, none⟩]⟩ false)))
  (Code.region i4 ⟨[⟨some 11, .move (.tmp 4), t19, p19, e19, none⟩,
    ⟨some 12, .binOp .sub T59 (.tmp 11) (.const (.int .u32 1)) T59, t20, p20, e20, none⟩,
    ⟨some 4, .assign (.tmp 12), t21, p21, e21, none⟩]⟩ false))))))
  (.seq (Code.region i7 ⟨[⟨some 23, .load T99 (.tmp 3), t22, p22, e22, none⟩,
    ⟨none, .store T99 (.tmp 2) (.tmp 23), t23, p23, e23, none⟩]⟩ false)
  .ret)))))
    (hT : Flat P T99 [.map none]) (h59 : intOf P T59 .u32 = true) (h3 : intOf P T3 .i64 = true) (hu : MethV P f94 (.int .u32) gUv) (hsp : SpanM P f92) (hset : SetTagM P f95) : TagsM P f := by
  refine ⟨enters_of hf hname hbody, ?_⟩
  intro w rb sb st h hsb
  have hrb : rb < w.heap.size := by obtain ⟨sv, h0, _⟩ := h.octe; exact lt_of_cell h0
  refine calls_of_wp hf hbody ?_
  generalize ha0 : ({ tmps := #[Value.pointer (some ⟨rb, 0, none⟩)] ++ Array.replicate (fn.ntmps - #[Value.pointer (some ⟨rb, 0, none⟩)].size) undef, defers := [] } : Act) = a0
  have hsz : a0.tmps.size = 24 := by subst ha0; simp [hN]
  have hd0 : a0.defers = [] := by subst ha0; rfl
  have g0 : get a0 0 = .pointer (some ⟨rb, 0, none⟩) := by subst ha0; exact get_args rfl
  clear ha0
  refine then_id (wp_seq_k fun K1 hK1 => ?_)
  refine wp_reg ?_
  rw [wpl_cons]
  refine wp_alloc hT.zero ?_
  rw [wpl_nil]
  have f1 := Fr.alloc [] w (.cells (Value.agg #[.map none]).cells T99)
  have th1 : (w.alloc (.cells (Value.agg #[.map none]).cells T99)).there w.heap.size 0 1 := there_new w #[.map none] T99
  have sz1 := size_alloc w (.cells (Value.agg #[.map none]).cells T99)
  have hcast : (Value.agg [Value.map none].toArray) = (Value.agg #[.map none]) := rfl
  rw [hcast]
  generalize w.alloc (.cells (Value.agg #[.map none]).cells T99) = w1 at f1 th1 sz1 ⊢
  have k1 : Kept 2 a0 (a0.put (some 2) (.pointer (some ⟨w.heap.size, 0, none⟩))) := Kept.put0 (by omega) _
  have q2 : get (a0.put (some 2) (.pointer (some ⟨w.heap.size, 0, none⟩))) 2 = .pointer (some ⟨w.heap.size, 0, none⟩) := get_put_same (by omega)
  generalize a0.put (some 2) (.pointer (some ⟨w.heap.size, 0, none⟩)) = b1 at k1 q2 ⊢
  have hz1 := k1.size
  refine hK1 b1 w1 (then_up ?_)
  refine then_id (wp_seq_k fun K2 hK2 => ?_)
  refine wp_reg ?_
  rw [wpl_cons]
  refine wp_alloc hT.zero ?_
  rw [wpl_nil]
  have f2 := Fr.alloc [] w1 (.cells (Value.agg #[.map none]).cells T99)
  have th2 : (w1.alloc (.cells (Value.agg #[.map none]).cells T99)).there w1.heap.size 0 1 := there_new w1 #[.map none] T99
  have c2 : (w1.alloc (.cells (Value.agg #[.map none]).cells T99)).cell? ⟨w1.heap.size, 0, none⟩ = some (.map none) := (range_new w1 #[.map none] T99 (0, 0)) 0 _ rfl
  have sz2 := size_alloc w1 (.cells (Value.agg #[.map none]).cells T99)
  rw [hcast]
  generalize w1.alloc (.cells (Value.agg #[.map none]).cells T99) = w2 at f2 th2 c2 sz2 ⊢
  have k2 : Kept 3 b1 (b1.put (some 3) (.pointer (some ⟨w1.heap.size, 0, none⟩))) := Kept.put0 (by omega) _
  have q3 : get (b1.put (some 3) (.pointer (some ⟨w1.heap.size, 0, none⟩))) 3 = .pointer (some ⟨w1.heap.size, 0, none⟩) := get_put_same (by omega)
  generalize b1.put (some 3) (.pointer (some ⟨w1.heap.size, 0, none⟩)) = b2 at k2 q3 ⊢
  have hz2 := k2.size
  have f02 : Fr [] w w2 := f1.tr f2
  refine hK2 b2 w2 (then_up ?_)
  refine then_id (wp_seq_k fun K3 hK3 => ?_)
  refine wp_seq_k fun K4 hK4 => ?_
  refine wp_reg ?_
  rw [wpl_cons, wp_move, eval_tmp, k2.get 0 (by omega), k1.get 0 (by omega), g0, wpl_cons]
  refine wp_calls (R := fun x w' => x = .int .u32 (rdUv st).1 ∧ RW w' rb sb (rdUv st).2 ∧ Fr [⟨rb, 0, 2⟩] w2 w') hu.enters (vs := #[.pointer (some ⟨rb, 0, none⟩)]) (by simp [eval_tmp, get_put_same (a := b2) (d := 7) (v := .pointer (some ⟨rb, 0, none⟩)) (by omega)])
    ((hu.call w2 rb sb st (h.kept f02 (by simp))).mono (by rintro e' w' ⟨x, rfl, h1, h2, h3⟩; exact ⟨_, rfl, h1.u32, h2, h3⟩)) ?_
  rintro x w3 ⟨rfl, hr3, f3⟩
  rw [wpl_cons, wp_assign, eval_tmp, get_put_same (by simp only [size_put]; omega), wpl_nil]
  generalize hb3 : ((b2.put (some 7) (.pointer (some ⟨rb, 0, none⟩))).put (some 8) (.int .u32 (rdUv st).1)).put (some 4) (.int .u32 (rdUv st).1) = b3
  have k3 : Kept 4 b2 b3 := by subst hb3; exact ((Kept.put0 (by omega) _).put (by omega) _).put (by omega) _
  have q4 : get b3 4 = .int .u32 (rdUv st).1 := by subst hb3; exact get_put_same (by simp only [size_put]; omega)
  clear hb3
  have hz3 := k3.size
  have hlt := rdUv_lt st
  have sz3 := f3.size
  refine hK4 b3 w3 ?_
  refine wp_block (wp_loop (fun a' w' => ∃ (n : Nat) (x : V) (s : RSt) (v : Value), n < 4294967296 ∧ a'.tmps.size = 24 ∧ a'.defers = [] ∧ get a' 0 = .pointer (some ⟨rb, 0, none⟩) ∧ get a' 2 = .pointer (some ⟨w.heap.size, 0, none⟩) ∧ get a' 3 = .pointer (some ⟨w1.heap.size, 0, none⟩) ∧ get a' 4 = .int .u32 n ∧
      RW w' rb sb s ∧ rdTagsGo n x s = rdTags st ∧ w'.cell? ⟨w1.heap.size, 0, none⟩ = some v ∧ TagV w' (· = sb) w.heap.size v x ∧ w'.there w1.heap.size 0 1 ∧ w'.there w.heap.size 0 1 ∧ Fr [⟨rb, 0, 2⟩] w w') (fun a' _ => idxOf (get a' 4)) ?_ ?_)
  · refine ⟨(rdUv st).1, .nil, (rdUv st).2, .map none, hlt, by omega, by rw [k3.defers, k2.defers, k1.defers, hd0], by rw [k3.get 0 (by omega), k2.get 0 (by omega), k1.get 0 (by omega), g0], by rw [k3.get 2 (by omega), k2.get 2 (by omega), q2], by rw [k3.get 3 (by omega), q3], q4, hr3, rfl,
      f3.cell c2 (.cons (.inl (by simp only; omega)) .nil), .inl ⟨rfl, rfl⟩, f3.there th2, f3.there (f2.there th1), (f02.nil (l := _)).tr f3⟩
  · rintro a4 w4 ⟨n, x, s, v, hn, hs4, hd4, p0, p2, p3', p4, hr4, hgo, hc4, hv4, ht4, htr4, f4⟩
    refine wp_seq_k fun K5 hK5 => ?_
    refine wp_seq_k fun K6 hK6 => ?_
    refine wp_reg ?_
    rw [wpl_cons, wp_move, eval_tmp, p4, wpl_cons]
    refine wp_gtr (k1 := .u32) (i := n) (j := 0) (by rw [eval_tmp, get_put_same (by omega)]) rfl ?_
    rw [wpl_nil]
    generalize ha5 : (a4.put (some 9) (.int .u32 n)).put (some 10) (.bool (decide ((n : Int) > 0))) = a5
    have k5 : Kept 9 a4 a5 := by subst ha5; exact (Kept.put0 (by omega) _).put (by omega) _
    have g10 : get a5 10 = .bool (decide ((n : Int) > 0)) := by subst ha5; exact get_put_same (by simp only [size_put]; omega)
    clear ha5
    have hz5 := k5.size
    have sz4 := f4.size
    refine hK6 a5 w4 ?_
    refine wp_cond_split (t := decide ((n : Int) > 0)) (by rw [eval_tmp, g10]) ?_ ?_
    · intro hpos
      obtain ⟨n, rfl⟩ : ∃ k, n = k + 1 := ⟨n - 1, by simp at hpos; omega⟩
      refine wp_skip (hK5 a5 w4 ?_)
      refine wp_seq_k fun K7 hK7 => ?_
      refine wp_block (wp_mono (show Code.wp P _ (Exit.then K7 (Exit.inBlock 1 (Exit.then K7 _))) a5 w4 from ?_) (fun _ _ _ => inBlock_then))
      refine wp_seq_k fun K8 hK8 => ?_
      refine wp_reg ?_
      rw [wpl_cons, wp_move, eval_tmp, k5.get 0 (by omega), p0, wpl_cons]
      refine wp_calls (R := fun x w' => x = .int .u32 (rdUv s).1 ∧ RW w' rb sb (rdUv s).2 ∧ Fr [⟨rb, 0, 2⟩] w4 w') hu.enters (vs := #[.pointer (some ⟨rb, 0, none⟩)]) (by simp [eval_tmp, get_put_same (a := a5) (d := 13) (v := .pointer (some ⟨rb, 0, none⟩)) (by omega)])
        ((hu.call w4 rb sb s hr4).mono (by rintro e' w' ⟨x, rfl, h1, h2, h3⟩; exact ⟨_, rfl, h1.u32, h2, h3⟩)) ?_
      rintro _ w5 ⟨rfl, hr5, f5⟩
      rw [wpl_cons, wp_move, eval_tmp, get_put_ne (by omega), get_put_ne (by omega), k5.get 0 (by omega), p0, wpl_cons]
      refine wp_calls (R := fun x w' => x = .int .u32 (rdUv (rdUv s).2).1 ∧ RW w' rb sb (rdUv (rdUv s).2).2 ∧ Fr [⟨rb, 0, 2⟩] w5 w') hu.enters (vs := #[.pointer (some ⟨rb, 0, none⟩)])
        (by simp only [List.map_toArray, List.map_cons, List.map_nil, eval_tmp]; rw [get_put_same (by simp only [size_put]; omega)])
        ((hu.call w5 rb sb _ hr5).mono (by rintro e' w' ⟨x, rfl, h1, h2, h3⟩; exact ⟨_, rfl, h1.u32, h2, h3⟩)) ?_
      rintro _ w6 ⟨rfl, hr6, f6⟩
      have hk32 := rdUv_lt s
      have hs32 := rdUv_lt (rdUv s).2
      generalize hkk : (rdUv s).1 = kk at *
      generalize hss : (rdUv (rdUv s).2).1 = sz at *
      rw [wpl_cons, wp_assign, eval_tmp, get_put_ne (by omega), get_put_ne (by omega), get_put_same (by simp only [size_put]; omega), wpl_cons, wp_assign, eval_tmp, get_put_ne (by omega), get_put_same (by simp only [size_put]; omega), wpl_nil]
      generalize ha6 : (((((a5.put (some 13) (.pointer (some ⟨rb, 0, none⟩))).put (some 14) (.int .u32 kk)).put (some 15) (.pointer (some ⟨rb, 0, none⟩))).put (some 16) (.int .u32 sz)).put (some 5) (.int .u32 kk)).put (some 6) (.int .u32 sz) = a6
      have k6 : Kept 5 a4 a6 := by subst ha6; exact (k5.mono (by omega)).trans ((((((Kept.put0 (by omega) _).put (by omega) _).put (by omega) _).put (by omega) _).put (by omega) _).put (by omega) _)
      have g5 : get a6 5 = .int .u32 kk := by subst ha6; rw [get_put_ne (by omega), get_put_same (by simp only [size_put]; omega)]
      have g6 : get a6 6 = .int .u32 sz := by subst ha6; exact get_put_same (by simp only [size_put]; omega)
      clear ha6
      have hz6 := k6.size
      refine hK8 a6 w6 ?_
      refine wp_reg ?_
      rw [wpl_cons, wp_move, eval_tmp, g5, wpl_cons, wp_move, eval_tmp, get_put_ne (by omega), k6.get 0 (by omega), p0, wpl_cons, wp_move, eval_tmp, get_put_ne (by omega), get_put_ne (by omega), g6, wpl_cons]
      refine wp_convert (k1 := .u32) (i := (sz : Int)) h59 h3 (by rw [eval_tmp, get_put_same (by simp only [size_put]; omega)]) ?_
      rw [wrap64 (by omega), wpl_cons]
      refine wp_calls hsp.enters (vs := #[.pointer (some ⟨rb, 0, none⟩), .int .i64 (sz : Int)])
        (by simp only [List.map_toArray, List.map_cons, List.map_nil, eval_tmp]; rw [get_put_ne (by omega), get_put_ne (by omega), get_put_same (by simp only [size_put]; omega), get_put_same (by simp only [size_put]; omega)])
        (hsp.call w6 rb sb _ (sz : Int) hr6) ?_
      rintro sv w7 ⟨ho7, hr7, f7⟩
      rw [wpl_cons]
      have f47 : Fr [⟨rb, 0, 2⟩] w4 w7 := (f5.tr f6).tr f7
      have sz7 := f47.size
      have hc7 := f47.cell hc4 (.cons (.inl (by simp only; omega)) .nil)
      have hv7 : TagV w7 (· = sb) w.heap.size v x := by
        rcases hv4 with h | ⟨r, kv, h1, h2, h3, h4⟩
        · exact .inl h
        · exact .inr ⟨r, kv, h1, h2, h3.kept f47 (by intro z hz; simp at hz; subst hz; exact hr4.1) (by intro z hz; simp at hz; subst hz; simp only; omega) (fun _ h => h), h4⟩
      refine wp_calls (R := fun _ w' => ∃ r, w'.cell? ⟨w1.heap.size, 0, none⟩ = some (.map (some r)) ∧ w.heap.size ≤ r ∧ TagM w' (· = sb) r (kvSet (tagKv x) kk (.oct (rdSpan (sz : Int) (rdUv (rdUv s).2).2).1)) ∧ Fr [⟨w1.heap.size, 0, 0 + 1⟩, ⟨r, 0, 0⟩] w7 w') hset.enters (vs := #[.pointer (some ⟨w1.heap.size, 0, none⟩), .int .u32 (kk : Int), sv])
        (by
          simp only [List.map_toArray, List.map_cons, List.map_nil, eval_tmp]
          rw [get_put_ne (by omega), get_put_ne (by omega), get_put_ne (by omega), get_put_ne (by omega), get_put_ne (by omega), k6.get 3 (by omega), p3', get_put_ne (by omega), get_put_ne (by omega), get_put_ne (by omega), get_put_ne (by omega), get_put_same (by omega), get_put_same (by simp only [size_put]; omega)])
        ((hset.call w7 (· = sb) w.heap.size w1.heap.size 0 v x kk sv _ hc7 (f47.there ht4) hv7 (by rintro b rfl; exact hsb) (by omega) hk32 ho7 (by show ¬ _ = _; omega)).mono (by rintro e' w' ⟨⟨z, rfl⟩, h⟩; exact ⟨_, rfl, h⟩)) ?_
      rintro xx w8 ⟨r8, hc8, hr8, hm8, f8⟩
      rw [wpl_nil]
      generalize ha7 : ((((((a6.put (some 17) (.int .u32 kk)).put (some 18) (.pointer (some ⟨rb, 0, none⟩))).put (some 19) (.int .u32 sz)).put (some 20) (.int .i64 (sz : Int))).put (some 21) sv).put (some 22) xx) = a7
      have k7 : Kept 5 a4 a7 := by subst ha7; exact k6.trans ((((((Kept.put0 (by omega) _).put (by omega) _).put (by omega) _).put (by omega) _).put (by omega) _).put (by omega) _)
      clear ha7
      have hz7 := k7.size
      have f48 : Fr [⟨rb, 0, 2⟩] w w8 := by
        refine (f4.tr f47).trans f8 ?_
        intro z hz; simp at hz
        rcases hz with rfl | rfl
        · exact .inl (by simp only; omega)
        · exact .inl hr8
      refine hK7 a7 w8 ?_
      refine wp_reg ?_
      rw [wpl_cons, wp_move, eval_tmp, k7.get 4 (by omega), p4, wpl_cons]
      refine wp_sub (k1 := .u32) (i := ((n + 1 : Nat) : Int)) (j := 1) (by rw [eval_tmp, get_put_same (by omega)]) rfl ?_
      have hwr : IntKind.u32.wrap (((n + 1 : Nat) : Int) - 1) = (n : Int) := by rw [IntKind.wrap_u32]; omega
      rw [hwr, wpl_cons, wp_assign, eval_tmp, get_put_same (by simp only [size_put]; omega), wpl_nil]
      refine ⟨⟨n, tagSet x kk (.oct (rdSpan (sz : Int) (rdUv (rdUv s).2).2).1), (rdSpan (sz : Int) (rdUv (rdUv s).2).2).2, .map (some r8), by omega, by simp only [size_put]; omega, by simp only [defers_put]; rw [k7.defers, hd4], ?_, ?_, ?_, ?_, ?_, ?_, hc8, .inr ⟨r8, _, rfl, hr8, hm8, rfl⟩, ?_, ?_, f48⟩, ?_⟩
      · rw [get_put_ne (by omega), get_put_ne (by omega), get_put_ne (by omega), k7.get 0 (by omega), p0]
      · rw [get_put_ne (by omega), get_put_ne (by omega), get_put_ne (by omega), k7.get 2 (by omega), p2]
      · rw [get_put_ne (by omega), get_put_ne (by omega), get_put_ne (by omega), k7.get 3 (by omega), p3']
      · exact get_put_same (by simp only [size_put]; omega)
      · refine hr7.kept f8 ?_
        intro z hz; simp at hz
        rcases hz with rfl | rfl
        · exact ⟨by simp only; omega, by simp only; omega⟩
        · exact ⟨by simp only; omega, by simp only; omega⟩
      · rw [← hgo]
        simp only [rdTagsGo, hkk, hss]
      · exact f8.there (f47.there ht4)
      · exact f8.there (f47.there htr4)
      · rw [get_put_same (by simp only [size_put]; omega)]; simp only [idxOf]; omega
    · intro hge
      have hn0 : n = 0 := by simp at hge; omega
      subst hn0
      refine wp_exit ?_
      show K3 a5 w4
      refine hK3 a5 w4 (then_up ?_)
      refine then_id (wp_seq_k fun K11 hK11 => ?_)
      refine wp_reg ?_
      rw [wpl_cons]
      refine wp_loadFlat hT (cs := [v]) (b := w1.heap.size) (o := 0) rfl (by rw [eval_tmp, k5.get 3 (by omega), p3']) (range_one.2 hc4) ?_
      rw [wpl_cons]
      have hone : v.oneCell' = true := by rcases hv4 with ⟨rfl, _⟩ | ⟨_, _, rfl, _⟩ <;> rfl
      refine wp_storeFlat hT (cs := [v]) (b := w.heap.size) (o := 0) rfl (by rw [eval_tmp, get_put_ne (by omega), k5.get 2 (by omega), p2]) (by rw [eval_tmp, get_put_same (by omega)]) (by intro z hz; simp at hz; subst hz; exact hone) htr4 ?_
      rw [put_none, wpl_nil]
      have f9 := Fr.sets w.heap.size [v] w4 0
      have r9 := World.rangeAt_setCells_same (w := w4) w.heap.size 0 [v] htr4
      have sz9 := f9.size
      refine hK11 _ _ (wp_ret ?_)
      have hfin : rdTags st = (x, s) := by rw [← hgo]; rfl
      refine ⟨by simp only [defers_put]; rw [k5.defers, hd4], _, results_cell hres hT (cs := [v]) rfl (by rw [get_put_ne (by omega), k5.get 2 (by omega), p2]) r9, v, rfl, ?_, ?_, ?_⟩
      · rw [hfin]
        rcases hv4 with ⟨rfl, rfl⟩ | ⟨r, kv, rfl, h2, h3, rfl⟩
        · exact .inl ⟨rfl, rfl⟩
        · have hne : w.heap.size ≠ r := h3.notCell (there_cell htr4 (Nat.le_refl _) (by omega)).choose_spec
          have h3' := h3.kept f9 (A' := Foot sb w.heap.size (w4.setCells w.heap.size 0 [.map (some r)]).heap.size) (by intro z hz; simp at hz; subst hz; simp only; omega) (by intro z hz; simp at hz; subst hz; exact hne) (fun b hb => .inl hb)
          exact h3'.rep (.inr ⟨h2, h3'.lt⟩)
      · rw [hfin]
        exact hr4.kept f9 (by intro z hz; simp at hz; subst hz; exact ⟨by simp only; omega, by simp only; omega⟩)
      · refine f4.trans f9 ?_
        intro z hz; simp at hz; subst hz; exact .inl (Nat.le_refl _)
end Go.Kq
