/- Two trees compared: the head. Written by mk_st.py. -/
import Derived.Test.YtjeplgghcebfjaaDoorKqSame
namespace Go.Kq
open Go Go.Proofs

variable {P : Program} {a : Act} {w : World} {K : Act → World → Prop} {Q : Exit → Act → World → Prop} {d : Option Tmp} {t : TypeId} {p : String} {af : Array Edge} {g : Option (Nat × Bool)}
theorem under_bool {s : TypeId} (h : boolTy P s = true) : P.underlying s = some .bool := by
  unfold boolTy at h
  split at h
  · assumption
  · cases h
theorem run_eqBool {s : TypeId} {i j : Bool} (h : P.underlying s = some .bool) (n : Nat) : (Op.equalIn (n + 1) s (.bool i) (.bool j)).run P w = .ok (i == j) w := by
  simp [Op.equalIn, run_underlying h]
theorem run_equalBool {s : TypeId} {i j : Bool} (h : P.underlying s = some .bool) : (Op.equal s (.bool i) (.bool j)).run P w = .ok (i == j) w := run_eqBool h 9999
theorem wp_neqBool {s u : TypeId} {x y : Operand} {i j : Bool} (hs : boolTy P s = true) (hx : a.eval x = .bool i) (hy : a.eval y = .bool j) (k : K (a.put d (.bool (!(i == j)))) w) :
    OW P ⟨d, .binOp .neq s x y u, t, p, af, g⟩ a w K Q := by
  refine wp_val (v := .bool (!(i == j))) (w' := w) ?_ k
  have hg : (eqGuard .neq s x y (.bool i) (.bool j)).run P w = .ok () w := by simp [eqGuard]
  have hr : (binOp .neq s (.bool i) (.bool j)).run P w = .ok (.bool (!(i == j))) w := by
    simp only [binOp, Sem.run_bind, run_equalBool (under_bool hs), Result.andThen_ok, Sem.run_pure]
  simp only [execOp, hx, hy, Sem.run_bind, hg, hr, Result.andThen_ok, Sem.run_pure]
theorem wp_eqlBool {s u : TypeId} {x y : Operand} {i j : Bool} (hs : boolTy P s = true) (hx : a.eval x = .bool i) (hy : a.eval y = .bool j) (k : K (a.put d (.bool (i == j))) w) :
    OW P ⟨d, .binOp .eql s x y u, t, p, af, g⟩ a w K Q := by
  refine wp_val (v := .bool (i == j)) (w' := w) ?_ k
  have hg : (eqGuard .eql s x y (.bool i) (.bool j)).run P w = .ok () w := by simp [eqGuard]
  have hr : (binOp .eql s (.bool i) (.bool j)).run P w = .ok (.bool (i == j)) w := by
    simp only [binOp, Sem.run_bind, run_equalBool (under_bool hs), Result.andThen_ok, Sem.run_pure]
  simp only [execOp, hx, hy, Sem.run_bind, hg, hr, Result.andThen_ok, Sem.run_pure]
theorem wp_pickNo {x y z : Operand} {v : Value} (hx : a.eval x = .bool false) (hz : a.eval z = v) (k : K (a.put d v) w) : OW P ⟨d, .pick x y z, t, p, af, g⟩ a w K Q :=
  wp_val (by simp [execOp, hx, hz, asBool]) k
theorem wp_pickYes {x y z : Operand} {v : Value} (hx : a.eval x = .bool true) (hy : a.eval y = v) (k : K (a.put d v) w) : OW P ⟨d, .pick x y z, t, p, af, g⟩ a w K Q :=
  wp_val (by simp [execOp, hx, hy, asBool]) k
theorem wp_box {s : TypeId} {x : Operand} {v : Value} (hx : a.eval x = v) (k : K (a.put d (.pointer (some ⟨w.heap.size, 0, none⟩))) (w.alloc (.cells v.cells s))) : OW P ⟨d, .box s x, t, p, af, g⟩ a w K Q :=
  wp_val (v := .pointer (some ⟨w.heap.size, 0, none⟩)) (w' := w.alloc (.cells v.cells s)) (by simp [execOp, hx, Instr.box, newVar, newRow]) k

/-- Two trees that say the same, in their boxes. -/
structure SE (a : Act) (w : World) (b2 b3 : Nat) (n : Int) (nl : Bool) (s1 s2 l1 l2 u1 u2 : Value) (A1 A2 : Nat → Prop) (s : List UInt8) (l : List T) (u : List (Nat × List UInt8)) : Prop where
  size : a.tmps.size = 100
  defers : a.defers = []
  g2 : get a 2 = .pointer (some ⟨b2, 0, none⟩)
  g3 : get a 3 = .pointer (some ⟨b3, 0, none⟩)
  r2 : w.rangeAt b2 0 [.int .i64 n, s1, .bool nl, l1, u1]
  r3 : w.rangeAt b3 0 [.int .i64 n, s2, .bool nl, l2, u2]
  o1 : OctE w A1 s1 s
  o2 : OctE w A2 s2 s
  t1 : Things w A1 l1 l
  t2 : Things w A2 l2 l
  v1 : TagsR w A1 u1 u
  v2 : TagsR w A2 u2 u
theorem SE.step {a a' : Act} {w w' : World} {b2 b3 : Nat} {n : Int} {nl : Bool} {s1 s2 l1 l2 u1 u2 : Value} {A1 A2 : Nat → Prop} {s : List UInt8} {l : List T} {u : List (Nat × List UInt8)} (h : SE a w b2 b3 n nl s1 s2 l1 l2 u1 u2 A1 A2 s l u) (hk : Kept 4 a a') (hf : Fr [] w w') :
    SE a' w' b2 b3 n nl s1 s2 l1 l2 u1 u2 A1 A2 s l u :=
  ⟨hk.size.trans h.size, hk.defers.trans h.defers, (hk.get 2 (by omega)).trans h.g2, (hk.get 3 (by omega)).trans h.g3, hf.range h.r2 .nil, hf.range h.r3 .nil, h.o1.kept hf (by simp) (fun _ h => h), h.o2.kept hf (by simp) (fun _ h => h),
    h.t1.kept hf (by simp) (fun _ h => h), h.t2.kept hf (by simp) (fun _ h => h), h.v1.kept hf (by simp) (fun _ h => h), h.v2.kept hf (by simp) (fun _ h => h)⟩
theorem Things.slice {w : World} {A : Nat → Prop} {v : Value} {l : List T} (h : Things w A v l) : ∃ q cap, v = .slice q l.length cap := by
  rcases h with ⟨rfl, rfl⟩ | ⟨b, o, cap, _, rfl, _⟩
  · exact ⟨none, 0, rfl⟩
  · exact ⟨_, _, rfl⟩
theorem TagsR.slice {w : World} {A : Nat → Prop} {v : Value} {l : List (Nat × List UInt8)} (h : TagsR w A v l) : ∃ q cap, v = .slice q l.length cap := by
  rcases h with ⟨rfl, rfl⟩ | ⟨b, o, cap, _, rfl, _⟩
  · exact ⟨none, 0, rfl⟩
  · exact ⟨_, _, rfl⟩

theorem st_head {P : Program} {T2 T3 T4 T22 T32 T33 T35 et1 et2 bs1 bs2 : TypeId} {f21 : FuncId} {a0 : Array TypeId} {i1 : Nat} {z : List Value} {c1 c2 : Code}
    {t3 t4 t5 t6 t7 t8 t9 t10 t11 t12 t13 t14 t15 t16 t17 t18 t19 t20 t21 t22 t23 t24 t25 t26 t27 t28 t29 t30 t31 t32 t33 t34 t35 t36 t37 t38 t39 t40 : TypeId} {p3 p4 p5 p6 p7 p8 p9 p10 p11 p12 p13 p14 p15 p16 p17 p18 p19 p20 p21 p22 p23 p24 p25 p26 p27 p28 p29 p30 p31 p32 p33 p34 p35 p36 p37 p38 p39 p40 : String} {e3 e4 e5 e6 e7 e8 e9 e10 e11 e12 e13 e14 e15 e16 e17 e18 e19 e20 e21 e22 e23 e24 e25 e26 e27 e28 e29 e30 e31 e32 e33 e34 e35 e36 e37 e38 e39 e40 : Array Edge}
    (hT : Flat P T35 z) (hz : z.length = 5) (hT2 : scal P T2 = true) (hT4 : scal P T4 = true) (hT4b : boolTy P T4 = true) (hT22 : scal P T22 = true) (hT32 : scal P T32 = true) (hT33 : scal P T33 = true) (hT32s : sliceOf P T32 et1 5 bs1 = true) (hT33s : sliceOf P T33 et2 2 bs2 = true) (hS : SameM P f21)
    {a : Act} {w : World} {K : Act → World → Prop} {Q : Exit → Act → World → Prop} {b2 b3 : Nat} {n : Int} {nl : Bool} {s1 s2 l1 l2 u1 u2 : Value} {A1 A2 : Nat → Prop} {s : List UInt8} {l : List T} {u : List (Nat × List UInt8)} (h : SE a w b2 b3 n nl s1 s2 l1 l2 u1 u2 A1 A2 s l u)
    (hk : ∀ a' w', Kept 4 a a' → Fr [] w w' → c2.wp P (Exit.then K Q) a' w') :
    (Code.seq (Code.region i1 ⟨[⟨some 7, .fieldAddr T35 (.tmp 2) 0, t3, p3, e3, none⟩,
    ⟨some 8, .load T2 (.tmp 7), t4, p4, e4, none⟩,
    ⟨some 9, .fieldAddr T35 (.tmp 3) 0, t5, p5, e5, none⟩,
    ⟨some 10, .load T2 (.tmp 9), t6, p6, e6, none⟩,
    ⟨some 11, .binOp .neq T2 (.tmp 8) (.tmp 10) T2, t7, p7, e7, none⟩,
    ⟨some 12, .move (.tmp 11), t8, p8, e8, none⟩,
    ⟨some 13, .fieldAddr T35 (.tmp 2) 2, t9, p9, e9, some (5, false)⟩,
    ⟨some 14, .load T4 (.tmp 13), t10, p10, e10, some (5, false)⟩,
    ⟨some 15, .fieldAddr T35 (.tmp 3) 2, t11, p11, e11, some (5, false)⟩,
    ⟨some 16, .load T4 (.tmp 15), t12, p12, e12, some (5, false)⟩,
    ⟨some 17, .binOp .neq T4 (.tmp 14) (.tmp 16) T4, t13, p13, e13, some (5, false)⟩,
    ⟨some 18, .pick (.tmp 12) (.const (.bool true)) (.tmp 17), t14, p14, e14, none⟩,
    ⟨some 19, .move (.tmp 18), t15, p15, e15, none⟩,
    ⟨some 20, .fieldAddr T35 (.tmp 2) 1, t16, p16, e16, some (12, false)⟩,
    ⟨some 21, .load T22 (.tmp 20), t17, p17, e17, some (12, false)⟩,
    ⟨some 22, .fieldAddr T35 (.tmp 3) 1, t18, p18, e18, some (12, false)⟩,
    ⟨some 23, .load T22 (.tmp 22), t19, p19, e19, some (12, false)⟩,
    ⟨some 24, .call ⟨.value (.func f21), #[(.tmp 21), (.tmp 23)], a0⟩, t20, p20, e20, some (12, false)⟩,
    ⟨some 25, .unOp .not T4 (.tmp 24), t21, p21, e21, some (12, false)⟩,
    ⟨some 26, .pick (.tmp 19) (.const (.bool true)) (.tmp 25), t22, p22, e22, none⟩,
    ⟨some 27, .move (.tmp 26), t23, p23, e23, none⟩,
    ⟨some 28, .fieldAddr T35 (.tmp 2) 3, t24, p24, e24, some (20, false)⟩,
    ⟨some 29, .load T32 (.tmp 28), t25, p25, e25, some (20, false)⟩,
    ⟨some 30, .call ⟨.builtin .len, #[(.tmp 29)], #[T32]⟩, t26, p26, e26, some (20, false)⟩,
    ⟨some 31, .fieldAddr T35 (.tmp 3) 3, t27, p27, e27, some (20, false)⟩,
    ⟨some 32, .load T32 (.tmp 31), t28, p28, e28, some (20, false)⟩,
    ⟨some 33, .call ⟨.builtin .len, #[(.tmp 32)], #[T32]⟩, t29, p29, e29, some (20, false)⟩,
    ⟨some 34, .binOp .neq T3 (.tmp 30) (.tmp 33) T3, t30, p30, e30, some (20, false)⟩,
    ⟨some 35, .pick (.tmp 27) (.const (.bool true)) (.tmp 34), t31, p31, e31, none⟩,
    ⟨some 36, .move (.tmp 35), t32, p32, e32, none⟩,
    ⟨some 37, .fieldAddr T35 (.tmp 2) 4, t33, p33, e33, some (29, false)⟩,
    ⟨some 38, .load T33 (.tmp 37), t34, p34, e34, some (29, false)⟩,
    ⟨some 39, .call ⟨.builtin .len, #[(.tmp 38)], #[T33]⟩, t35, p35, e35, some (29, false)⟩,
    ⟨some 40, .fieldAddr T35 (.tmp 3) 4, t36, p36, e36, some (29, false)⟩,
    ⟨some 41, .load T33 (.tmp 40), t37, p37, e37, some (29, false)⟩,
    ⟨some 42, .call ⟨.builtin .len, #[(.tmp 41)], #[T33]⟩, t38, p38, e38, some (29, false)⟩,
    ⟨some 43, .binOp .neq T3 (.tmp 39) (.tmp 42) T3, t39, p39, e39, some (29, false)⟩,
    ⟨some 44, .pick (.tmp 36) (.const (.bool true)) (.tmp 43), t40, p40, e40, none⟩]⟩ false) (.cond (.tmp 44) c1 c2)).wp P (Exit.then K Q) a w := by
  obtain ⟨ql1, cl1, hl1⟩ := h.t1.slice
  obtain ⟨ql2, cl2, hl2⟩ := h.t2.slice
  obtain ⟨qu1, cu1, hu1⟩ := h.v1.slice
  obtain ⟨qu2, cu2, hu2⟩ := h.v2.slice
  have hfield := fun k (hk : k < 5) => hT.field (k := k) (by rw [hz]; exact hk)
  have hsz := h.size
  refine wp_seq_k fun K1 hK1 => ?_
  refine wp_seqG [spC [] (.pointer (some ⟨b2, 0 + 0, none⟩)),
    spC [0] (.int .i64 n),
    spC [] (.pointer (some ⟨b3, 0 + 0, none⟩)),
    spC [2] (.int .i64 n),
    spC [1, 3] (.bool false),
    spC [4] (.bool false),
    spC [5] (.pointer (some ⟨b2, 0 + 2, none⟩)),
    spC [6, 5] (.bool nl),
    spC [5] (.pointer (some ⟨b3, 0 + 2, none⟩)),
    spC [8, 5] (.bool nl),
    spC [7, 9, 5] (.bool false),
    spC [5, 10] (.bool false),
    spC [11] (.bool false),
    spC [12] (.pointer (some ⟨b2, 0 + 1, none⟩)),
    spC [13, 12] s1,
    spC [12] (.pointer (some ⟨b3, 0 + 1, none⟩)),
    spC [15, 12] s2,
    spC [14, 16, 12] (.bool true),
    spC [17, 12] (.bool false),
    spC [12, 18] (.bool false),
    spC [19] (.bool false),
    spC [20] (.pointer (some ⟨b2, 0 + 3, none⟩)),
    spC [21, 20] l1,
    spC [22, 20] (.int .i64 l.length),
    spC [20] (.pointer (some ⟨b3, 0 + 3, none⟩)),
    spC [24, 20] l2,
    spC [25, 20] (.int .i64 l.length),
    spC [23, 26, 20] (.bool false),
    spC [20, 27] (.bool false),
    spC [28] (.bool false),
    spC [29] (.pointer (some ⟨b2, 0 + 4, none⟩)),
    spC [30, 29] u1,
    spC [31, 29] (.int .i64 u.length),
    spC [29] (.pointer (some ⟨b3, 0 + 4, none⟩)),
    spC [33, 29] u2,
    spC [34, 29] (.int .i64 u.length),
    spC [32, 35, 29] (.bool false),
    spC [29, 36] (.bool false)] 7 [] rfl (by simp [needLt, spC]) (by simp [shape]) (by simp [spC]) (by simp; omega)
    ⟨lasts_c _ _ _, lasts_c _ _ _, lasts_c _ _ _, lasts_c _ _ _, lasts_c _ _ _, lasts_c _ _ _, lasts_c _ _ _, lasts_c _ _ _, lasts_c _ _ _, lasts_c _ _ _, lasts_c _ _ _, lasts_c _ _ _, lasts_c _ _ _, lasts_c _ _ _, lasts_c _ _ _, lasts_c _ _ _, lasts_c _ _ _, lasts_c _ _ _, lasts_c _ _ _, lasts_c _ _ _, lasts_c _ _ _, lasts_c _ _ _, lasts_c _ _ _, lasts_c _ _ _, lasts_c _ _ _, lasts_c _ _ _, lasts_c _ _ _, lasts_c _ _ _, lasts_c _ _ _, lasts_c _ _ _, lasts_c _ _ _, lasts_c _ _ _, lasts_c _ _ _, lasts_c _ _ _, lasts_c _ _ _, lasts_c _ _ _, lasts_c _ _ _, lasts_c _ _ _, trivial⟩ ?_ ?_
  · refine ⟨op_c fun a' w' hk' hf' hd' K' hK' => ?_,
      op_c fun a' w' hk' hf' hd' K' hK' => ?_,
      op_c fun a' w' hk' hf' hd' K' hK' => ?_,
      op_c fun a' w' hk' hf' hd' K' hK' => ?_,
      op_c fun a' w' hk' hf' hd' K' hK' => ?_,
      op_c fun a' w' hk' hf' hd' K' hK' => ?_,
      op_gy rfl (by omega) (fun _ _ hd' => hd'.c 5 (by simp [spC]) rfl) (op_c fun a' w' hk' hf' hd' K' hK' => ?_),
      op_gy rfl (by omega) (fun _ _ hd' => hd'.c 5 (by simp [spC]) rfl) (op_c fun a' w' hk' hf' hd' K' hK' => ?_),
      op_gy rfl (by omega) (fun _ _ hd' => hd'.c 5 (by simp [spC]) rfl) (op_c fun a' w' hk' hf' hd' K' hK' => ?_),
      op_gy rfl (by omega) (fun _ _ hd' => hd'.c 5 (by simp [spC]) rfl) (op_c fun a' w' hk' hf' hd' K' hK' => ?_),
      op_gy rfl (by omega) (fun _ _ hd' => hd'.c 5 (by simp [spC]) rfl) (op_c fun a' w' hk' hf' hd' K' hK' => ?_),
      op_c fun a' w' hk' hf' hd' K' hK' => ?_,
      op_c fun a' w' hk' hf' hd' K' hK' => ?_,
      op_gy rfl (by omega) (fun _ _ hd' => hd'.c 12 (by simp [spC]) rfl) (op_c fun a' w' hk' hf' hd' K' hK' => ?_),
      op_gy rfl (by omega) (fun _ _ hd' => hd'.c 12 (by simp [spC]) rfl) (op_c fun a' w' hk' hf' hd' K' hK' => ?_),
      op_gy rfl (by omega) (fun _ _ hd' => hd'.c 12 (by simp [spC]) rfl) (op_c fun a' w' hk' hf' hd' K' hK' => ?_),
      op_gy rfl (by omega) (fun _ _ hd' => hd'.c 12 (by simp [spC]) rfl) (op_c fun a' w' hk' hf' hd' K' hK' => ?_),
      op_gy rfl (by omega) (fun _ _ hd' => hd'.c 12 (by simp [spC]) rfl) (op_r fun a' w' hk' hf' hd' K' hK' => ?_),
      op_gy rfl (by omega) (fun _ _ hd' => hd'.c 12 (by simp [spC]) rfl) (op_c fun a' w' hk' hf' hd' K' hK' => ?_),
      op_c fun a' w' hk' hf' hd' K' hK' => ?_,
      op_c fun a' w' hk' hf' hd' K' hK' => ?_,
      op_gy rfl (by omega) (fun _ _ hd' => hd'.c 20 (by simp [spC]) rfl) (op_c fun a' w' hk' hf' hd' K' hK' => ?_),
      op_gy rfl (by omega) (fun _ _ hd' => hd'.c 20 (by simp [spC]) rfl) (op_c fun a' w' hk' hf' hd' K' hK' => ?_),
      op_gy rfl (by omega) (fun _ _ hd' => hd'.c 20 (by simp [spC]) rfl) (op_c fun a' w' hk' hf' hd' K' hK' => ?_),
      op_gy rfl (by omega) (fun _ _ hd' => hd'.c 20 (by simp [spC]) rfl) (op_c fun a' w' hk' hf' hd' K' hK' => ?_),
      op_gy rfl (by omega) (fun _ _ hd' => hd'.c 20 (by simp [spC]) rfl) (op_c fun a' w' hk' hf' hd' K' hK' => ?_),
      op_gy rfl (by omega) (fun _ _ hd' => hd'.c 20 (by simp [spC]) rfl) (op_c fun a' w' hk' hf' hd' K' hK' => ?_),
      op_gy rfl (by omega) (fun _ _ hd' => hd'.c 20 (by simp [spC]) rfl) (op_c fun a' w' hk' hf' hd' K' hK' => ?_),
      op_c fun a' w' hk' hf' hd' K' hK' => ?_,
      op_c fun a' w' hk' hf' hd' K' hK' => ?_,
      op_gy rfl (by omega) (fun _ _ hd' => hd'.c 29 (by simp [spC]) rfl) (op_c fun a' w' hk' hf' hd' K' hK' => ?_),
      op_gy rfl (by omega) (fun _ _ hd' => hd'.c 29 (by simp [spC]) rfl) (op_c fun a' w' hk' hf' hd' K' hK' => ?_),
      op_gy rfl (by omega) (fun _ _ hd' => hd'.c 29 (by simp [spC]) rfl) (op_c fun a' w' hk' hf' hd' K' hK' => ?_),
      op_gy rfl (by omega) (fun _ _ hd' => hd'.c 29 (by simp [spC]) rfl) (op_c fun a' w' hk' hf' hd' K' hK' => ?_),
      op_gy rfl (by omega) (fun _ _ hd' => hd'.c 29 (by simp [spC]) rfl) (op_c fun a' w' hk' hf' hd' K' hK' => ?_),
      op_gy rfl (by omega) (fun _ _ hd' => hd'.c 29 (by simp [spC]) rfl) (op_c fun a' w' hk' hf' hd' K' hK' => ?_),
      op_gy rfl (by omega) (fun _ _ hd' => hd'.c 29 (by simp [spC]) rfl) (op_c fun a' w' hk' hf' hd' K' hK' => ?_),
      op_c fun a' w' hk' hf' hd' K' hK' => ?_, trivial⟩
    · exact wp_fieldAddr (hfield _ (by decide)) (by rw [eval_tmp, hk'.get 2 (by omega), h.g2]) hK'
    · exact wp_load hT2 (by rw [eval_tmp]; exact hd'.c 0 (by simp [spC]) rfl) ((hf'.range h.r2 .nil) 0 _ rfl) hK'
    · exact wp_fieldAddr (hfield _ (by decide)) (by rw [eval_tmp, hk'.get 3 (by omega), h.g3]) hK'
    · exact wp_load hT2 (by rw [eval_tmp]; exact hd'.c 2 (by simp [spC]) rfl) ((hf'.range h.r3 .nil) 0 _ rfl) hK'
    · exact wp_neq (k1 := .i64) (by rw [eval_tmp]; exact hd'.c 1 (by simp [spC]) rfl) (by rw [eval_tmp]; exact hd'.c 3 (by simp [spC]) rfl) (by simpa using hK')
    · rw [wp_move, eval_tmp, hd'.c 4 (by simp [spC]) rfl]; exact hK'
    · exact wp_fieldAddr (hfield _ (by decide)) (by rw [eval_tmp, hk'.get 2 (by omega), h.g2]) hK'
    · exact wp_load hT4 (by rw [eval_tmp]; exact hd'.c 6 (by simp [spC]) rfl) ((hf'.range h.r2 .nil) 2 _ rfl) hK'
    · exact wp_fieldAddr (hfield _ (by decide)) (by rw [eval_tmp, hk'.get 3 (by omega), h.g3]) hK'
    · exact wp_load hT4 (by rw [eval_tmp]; exact hd'.c 8 (by simp [spC]) rfl) ((hf'.range h.r3 .nil) 2 _ rfl) hK'
    · exact wp_neqBool hT4b (by rw [eval_tmp]; exact hd'.c 7 (by simp [spC]) rfl) (by rw [eval_tmp]; exact hd'.c 9 (by simp [spC]) rfl) (by simpa using hK')
    · exact wp_pickNo (by rw [eval_tmp]; exact hd'.c 5 (by simp [spC]) rfl) (by rw [eval_tmp]; exact hd'.c 10 (by simp [spC]) rfl) hK'
    · rw [wp_move, eval_tmp, hd'.c 11 (by simp [spC]) rfl]; exact hK'
    · exact wp_fieldAddr (hfield _ (by decide)) (by rw [eval_tmp, hk'.get 2 (by omega), h.g2]) hK'
    · exact wp_load hT22 (by rw [eval_tmp]; exact hd'.c 13 (by simp [spC]) rfl) ((hf'.range h.r2 .nil) 1 _ rfl) hK'
    · exact wp_fieldAddr (hfield _ (by decide)) (by rw [eval_tmp, hk'.get 3 (by omega), h.g3]) hK'
    · exact wp_load hT22 (by rw [eval_tmp]; exact hd'.c 15 (by simp [spC]) rfl) ((hf'.range h.r3 .nil) 1 _ rfl) hK'
    · exact wp_calls hS.enters (vs := #[s1, s2]) (by simp [eval_tmp, hd'.c 14 (by simp [spC]) rfl, hd'.c 16 (by simp [spC]) rfl]) (R := fun v w2 => v = .bool true ∧ Fr [] w' w2) ((hS.call w' s1 s2 s A1 A2 (h.o1.kept hf' (by simp) (fun _ h => h)) (h.o2.kept hf' (by simp) (fun _ h => h))).mono (by rintro e' w2 ⟨rfl, h2⟩; exact ⟨_, rfl, rfl, h2⟩)) (by rintro v w2 ⟨rfl, h2⟩; exact hK' _ _ rfl h2)
    · exact wp_not (b := true) (by rw [eval_tmp]; exact hd'.c 17 (by simp [spC]) rfl) hK'
    · exact wp_pickNo (by rw [eval_tmp]; exact hd'.c 12 (by simp [spC]) rfl) (by rw [eval_tmp]; exact hd'.c 18 (by simp [spC]) rfl) hK'
    · rw [wp_move, eval_tmp, hd'.c 19 (by simp [spC]) rfl]; exact hK'
    · exact wp_fieldAddr (hfield _ (by decide)) (by rw [eval_tmp, hk'.get 2 (by omega), h.g2]) hK'
    · exact wp_load hT32 (by rw [eval_tmp]; exact hd'.c 21 (by simp [spC]) rfl) ((hf'.range h.r2 .nil) 3 _ rfl) hK'
    · exact wp_len hT32s (by rw [eval_tmp, hd'.c 22 (by simp [spC]) rfl, hl1]) hK'
    · exact wp_fieldAddr (hfield _ (by decide)) (by rw [eval_tmp, hk'.get 3 (by omega), h.g3]) hK'
    · exact wp_load hT32 (by rw [eval_tmp]; exact hd'.c 24 (by simp [spC]) rfl) ((hf'.range h.r3 .nil) 3 _ rfl) hK'
    · exact wp_len hT32s (by rw [eval_tmp, hd'.c 25 (by simp [spC]) rfl, hl2]) hK'
    · exact wp_neq (k1 := .i64) (by rw [eval_tmp]; exact hd'.c 23 (by simp [spC]) rfl) (by rw [eval_tmp]; exact hd'.c 26 (by simp [spC]) rfl) (by simpa using hK')
    · exact wp_pickNo (by rw [eval_tmp]; exact hd'.c 20 (by simp [spC]) rfl) (by rw [eval_tmp]; exact hd'.c 27 (by simp [spC]) rfl) hK'
    · rw [wp_move, eval_tmp, hd'.c 28 (by simp [spC]) rfl]; exact hK'
    · exact wp_fieldAddr (hfield _ (by decide)) (by rw [eval_tmp, hk'.get 2 (by omega), h.g2]) hK'
    · exact wp_load hT33 (by rw [eval_tmp]; exact hd'.c 30 (by simp [spC]) rfl) ((hf'.range h.r2 .nil) 4 _ rfl) hK'
    · exact wp_len hT33s (by rw [eval_tmp, hd'.c 31 (by simp [spC]) rfl, hu1]) hK'
    · exact wp_fieldAddr (hfield _ (by decide)) (by rw [eval_tmp, hk'.get 3 (by omega), h.g3]) hK'
    · exact wp_load hT33 (by rw [eval_tmp]; exact hd'.c 33 (by simp [spC]) rfl) ((hf'.range h.r3 .nil) 4 _ rfl) hK'
    · exact wp_len hT33s (by rw [eval_tmp, hd'.c 34 (by simp [spC]) rfl, hu2]) hK'
    · exact wp_neq (k1 := .i64) (by rw [eval_tmp]; exact hd'.c 32 (by simp [spC]) rfl) (by rw [eval_tmp]; exact hd'.c 35 (by simp [spC]) rfl) (by simpa using hK')
    · exact wp_pickNo (by rw [eval_tmp]; exact hd'.c 29 (by simp [spC]) rfl) (by rw [eval_tmp]; exact hd'.c 36 (by simp [spC]) rfl) hK'
  · intro a' w' hk' hf' hd'
    have g44 : get a' 44 = .bool false := hd'.c (nd' := [29, 36]) 37 (by simp [spC]) rfl
    refine hK1 a' w' ?_
    exact wp_cond_split (t := false) (by rw [eval_tmp, g44]) (fun h => by cases h) fun _ => hk a' w' (hk'.mono (by omega)) hf'

end Go.Kq
