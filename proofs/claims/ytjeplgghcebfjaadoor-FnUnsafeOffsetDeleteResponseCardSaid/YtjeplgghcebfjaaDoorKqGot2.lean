/- A tree in the words of the statements: the loop over its things. -/
import Derived.Test.YtjeplgghcebfjaaDoorKqGot1
namespace Go.Kq
open Go Go.Proofs

theorem GE.notA {w : World} {e : GE} {c1 : List Value} {n : Int} {sv : Value} {nl : Bool} {lv uv : Value} (h : GM w e c1 n sv nl lv uv) {r : List Rng} (hr : ∀ x ∈ r, e.s1 ≤ x.b) : ∀ x ∈ (⟨e.ob, 0, 5⟩ : Rng) :: r, ¬ e.A x.b := by
  intro x hx hA
  have h1 := h.a0 _ hA
  rcases List.mem_cons.1 hx with rfl | hx
  · have := h.ob0; simp only at *; omega
  · have := hr x hx; have := h.ob0; have := h.ob1; omega

/-- A struct is laid into a box of its own. -/
theorem r_boxed {P : Program} {T24 T27 et bs : TypeId} {i4 m : Nat} {z : List Value} {sa si sx sv1 sv2 : Nat} {t16 t17 t18 t19 : TypeId} {p16 p17 p18 p19 : String} {e16 e17 e18 e19 : Array Edge}
    (hT : Flat P T27 z) (hs : sliceOf P T24 et z.length bs = true) {a : Act} {w : World} {K : Act → World → Prop} {Q : Exit → Act → World → Prop} {b o len cap j : Nat} {es : List Value}
    (ga : get a sa = .slice (some ⟨b, o, none⟩) len cap) (gi : get a si = .int .i64 j) (hj : j < len) (hes : w.rangeAt b (o + j * z.length) es) (hl : es.length = z.length) (h1 : ∀ u ∈ es, u.oneCell' = true)
    (hb : sv1 + 1 = sv2 ∧ sv2 < a.tmps.size ∧ sx < a.tmps.size ∧ sx < sv1 ∧ m ≤ sx ∧ m ≤ sv1)
    (hk : ∀ a' w', Kept m a a' → (∀ t, t < sv1 → t ≠ sx → get a' t = get a t) → get a' sx = .pointer (some ⟨w.heap.size, 0, none⟩) → Fr [] w w' → w.heap.size < w'.heap.size → w'.rangeAt w.heap.size 0 es → K a' w') :
    (Code.region i4 ⟨[⟨some sv1, .indexAddr T24 (.tmp sa) (.tmp si), t16, p16, e16, none⟩, ⟨some sv2, .load T27 (.tmp sv1), t17, p17, e17, none⟩, ⟨some sx, .alloc T27, t18, p18, e18, none⟩, ⟨none, .store T27 (.tmp sx) (.tmp sv2), t19, p19, e19, none⟩]⟩ false).wp P (Exit.then K Q) a w := by
  obtain ⟨rfl, q2, q3, q4, q5, q6⟩ := hb
  refine wp_reg ?_
  rw [wpl_cons]
  refine wp_indexAddr hs (by rw [eval_tmp, ga]) (by rw [eval_tmp, gi]) (by omega) (by omega) ?_
  rw [wpl_cons]
  refine wp_loadFlat hT (cs := es) (b := b) (o := o + j * z.length) hl (by rw [eval_tmp, get_put_same (by omega)]; simp) hes ?_
  rw [wpl_cons]
  refine wp_alloc hT.zero ?_
  rw [wpl_cons]
  have hal := Fr.alloc [] w (.cells (Value.agg z.toArray).cells T27)
  have hth : (w.alloc (.cells (Value.agg z.toArray).cells T27)).there w.heap.size 0 es.length := by
    have := there_new w z.toArray T27
    rw [hl]
    rw [List.size_toArray] at this
    exact this
  have hsz := size_alloc w (.cells (Value.agg z.toArray).cells T27)
  refine wp_storeFlat hT (cs := es) (b := w.heap.size) (o := 0) hl (by rw [eval_tmp, get_put_same (by simp only [size_put]; omega)]) (by rw [eval_tmp, get_put_ne (by omega), get_put_same (by simp only [size_put]; omega)]) h1 hth ?_
  rw [wpl_nil, put_none]
  have hf := Fr.sets w.heap.size es (w.alloc (.cells (Value.agg z.toArray).cells T27)) 0
  have hfs := hf.size
  refine hk _ _ (((Kept.put0 q6 _).put (by omega) _).put q5 _) (fun t h1 h2 => by rw [get_put_ne (fun e => h2 e.symm), get_put_ne (by omega), get_put_ne (by omega)]) (get_put_same (by simp only [size_put]; omega)) (hal.trans hf ?_) (by omega) (World.rangeAt_setCells_same _ _ _ _ hth)
  intro r hr; simp at hr; subst hr; exact .inl (Nat.le_refl _)

theorem got_loopL {P : Program} {T3 T24 T27 T32 T35 bs bs2 : TypeId} {f11 : FuncId} {a0 : Array TypeId} {i2 i3 i4 i5 i6 : Nat}
    {t11 t12 t13 t14 t15 t16 t17 t18 t19 t20 t21 t22 t23 t24 t25 t26 t27 t28 t29 : TypeId} {p11 p12 p13 p14 p15 p16 p17 p18 p19 p20 p21 p22 p23 p24 p25 p26 p27 p28 p29 : String} {e11 e12 e13 e14 e15 e16 e17 e18 e19 e20 e21 e22 e23 e24 e25 e26 e27 e28 e29 : Array Edge}
    (hT : Flat P T35 zT) (hT27 : Flat P T27 zT) (hz0 : zeroIs P T35 zT) (hT24 : scal P T24 = true) (hT24s : sliceOf P T24 T27 5 bs2 = true) (hT32 : scal P T32 = true) (hT32s : sliceOf P T32 T35 5 bs = true) (hbs : bs ≤ 1024) (hmx : P.follows .mixedOrders = true) (henter : Enters P f11)
    (he : edgeOk 0 [e20, e21, e22, e23, e24, e25, e26, e27] [[], [0], [], [2], [3], [1, 4], [], [0, 1, 2, 3, 4, 5, 6]] = true)
    {a : Act} {w : World} {K : Act → World → Prop} {Q : Exit → Act → World → Prop} {e : GE} {n n1 : Int} {sv s1 : Value} {nl nl1 : Bool} {l1 u1 uv : Value} {l : List T}
    (hsz : a.tmps.size = 49) (g1 : get a 1 = .pointer (some ⟨e.b1, 0, none⟩)) (g3 : get a 3 = .pointer (some ⟨e.ob, 0, none⟩)) (hm : GM w e [.int .i64 n1, s1, .bool nl1, l1, u1] n sv nl (.slice none 0 0) uv) (ht : Things w e.A l1 l)
    (hcall : ∀ y ∈ l, GotCall P f11 y)
    (hk : ∀ a' w' lv', Kept 4 a a' → (∃ r : List Rng, (∀ x ∈ r, e.s1 ≤ x.b) ∧ Fr (⟨e.ob, 0, 5⟩ :: r) w w') → GM w' e [.int .i64 n1, s1, .bool nl1, l1, u1] n sv nl lv' uv → GL w' e lv' l → K a' w') :
    (Code.seq (Code.region i2 ⟨[⟨some 15, .fieldAddr T27 (.tmp 1) 3, t11, p11, e11, none⟩, ⟨some 16, .load T24 (.tmp 15), t12, p12, e12, none⟩, ⟨some 17, .call ⟨.builtin .len, #[(.tmp 16)], #[T24]⟩, t13, p13, e13, none⟩, ⟨some 18, .move (.const (.int .i64 0)), t14, p14, e14, none⟩]⟩ false)
      (.block 0 (.loop (.seq (Code.region i3 ⟨[⟨some 19, .binOp .lss T3 (.tmp 18) (.tmp 17) T3, t15, p15, e15, none⟩]⟩ false)
        (.seq (.cond (.tmp 19) .skip (.exit 0))
          (.seq (.block 1 (.seq (Code.region i4 ⟨[⟨some 20, .indexAddr T24 (.tmp 16) (.tmp 18), t16, p16, e16, none⟩, ⟨some 21, .load T27 (.tmp 20), t17, p17, e17, none⟩, ⟨some 5, .alloc T27, t18, p18, e18, none⟩, ⟨none, .store T27 (.tmp 5) (.tmp 21), t19, p19, e19, none⟩]⟩ false)
              (Code.region i5 ⟨[⟨some 22, .fieldAddr T35 (.tmp 3) 3, t20, p20, e20, none⟩, ⟨some 23, .load T32 (.tmp 22), t21, p21, e21, none⟩, ⟨some 24, .load T27 (.tmp 5), t22, p22, e22, none⟩, ⟨some 25, .call ⟨.value (.func f11), #[(.tmp 24)], a0⟩, t23, p23, e23, none⟩,
                ⟨some 26, .buildSlice T32 1 #[(0, .tmp 25)], t24, p24, e24, none⟩, ⟨some 27, .call ⟨.builtin .append, #[(.tmp 23), (.tmp 26)], #[T32, T32]⟩, t25, p25, e25, none⟩, ⟨some 28, .fieldAddr T35 (.tmp 3) 3, t26, p26, e26, none⟩, ⟨none, .store T32 (.tmp 28) (.tmp 27), t27, p27, e27, none⟩]⟩ true)))
            (Code.region i6 ⟨[⟨some 29, .binOp .add T3 (.tmp 18) (.const (.int .i64 1)) T3, t28, p28, e28, none⟩, ⟨some 18, .move (.tmp 29), t29, p29, e29, none⟩]⟩ false))))))).wp P (Exit.then K Q) a w := by
  have hbig := ht.big
  obtain ⟨ql1, cl1, hl1⟩ := ht.slice
  refine wp_seq_k fun K5 hK5 => ?_
  refine wp_reg ?_
  rw [wpl_cons]
  refine wp_fieldAddr (hT27.field (k := 3) (by decide)) (by rw [eval_tmp, g1]) ?_
  rw [wpl_cons]
  refine wp_load hT24 (by rw [eval_tmp, get_put_same (by omega)]) (hm.r1 3 l1 rfl) ?_
  rw [wpl_cons]
  refine wp_len hT24s (by rw [eval_tmp, get_put_same (by simp only [size_put]; omega), hl1]) ?_
  rw [wpl_cons, wp_move, eval_const, wpl_nil]
  generalize ha3 : (((a.put (some 15) (.pointer (some ⟨e.b1, 0 + 3, none⟩))).put (some 16) l1).put (some 17) (.int .i64 l.length)).put (some 18) (.int .i64 0) = a3
  have k3 : Kept 4 a a3 := by subst ha3; exact (((Kept.put0 (by omega) _).put (by omega) _).put (by omega) _).put (by omega) _
  have g16 : get a3 16 = l1 := by subst ha3; rw [get_put_ne (by omega), get_put_ne (by omega), get_put_same (by simp only [size_put]; omega)]
  have g17 : get a3 17 = .int .i64 l.length := by subst ha3; rw [get_put_ne (by omega), get_put_same (by simp only [size_put]; omega)]
  have g18 : get a3 18 = .int .i64 0 := by subst ha3; rw [get_put_same (by simp only [size_put]; omega)]
  clear ha3
  refine hK5 a3 w ?_
  refine wp_block (wp_loop (fun a' w' => ∃ (j : Nat) (lv : Value), j ≤ l.length ∧ Kept 4 a a' ∧ get a' 16 = l1 ∧ get a' 17 = .int .i64 l.length ∧ get a' 18 = .int .i64 j ∧ GM w' e [.int .i64 n1, s1, .bool nl1, l1, u1] n sv nl lv uv ∧ GL w' e lv (l.take j) ∧
    ∃ r : List Rng, (∀ x ∈ r, e.s1 ≤ x.b) ∧ Fr (⟨e.ob, 0, 5⟩ :: r) w w') (fun a' _ => l.length - idxOf (get a' 18)) ?_ ?_)
  · exact ⟨0, _, Nat.zero_le _, k3, g16, g17, g18, hm, ⟨by simpa using LOwn.nil, by simp [blk]⟩, [], by simp, Fr.refl _ _⟩
  · rintro a4 w4 ⟨j, lv, hj, k4, ga, gl, gi, hm4, hl4, r, hr, f4⟩
    have hz4 := k4.size
    refine wp_seq_k fun K6 hK6 => ?_
    refine wp_reg ?_
    rw [wpl_cons]
    refine wp_lss (k1 := .i64) (i := j) (j := l.length) (by rw [eval_tmp, gi]) (by rw [eval_tmp, gl]) ?_
    rw [wpl_nil]
    generalize ha5 : a4.put (some 19) (.bool (decide ((j : Int) < l.length))) = a5
    have k5 : Kept 19 a4 a5 := by subst ha5; exact Kept.put0 (Nat.le_refl _) _
    have g19 : get a5 19 = .bool (decide ((j : Int) < l.length)) := by subst ha5; exact get_put_same (by omega)
    clear ha5
    have hz5 := k5.size
    refine hK6 a5 w4 ?_
    refine wp_seq_k fun K7 hK7 => ?_
    refine wp_cond_split (t := decide ((j : Int) < l.length)) (by rw [eval_tmp, g19]) ?_ ?_
    · intro hlt
      have hjl : j < l.length := by simpa using hlt
      refine wp_skip (hK7 a5 w4 ?_)
      refine wp_seq_k fun K8 hK8 => ?_
      refine wp_block (wp_mono (show Code.wp P _ (Exit.then K8 (Exit.inBlock 1 (Exit.then K8 _))) a5 w4 from ?_) (fun _ _ _ => inBlock_then))
      refine wp_seq_k fun K9 hK9 => ?_
      have ht4 := ht.kept f4 (GE.notA hm hr) (fun _ h => h)
      obtain ⟨bb, oo, cc, es, hv, hres, htr⟩ := ht4.at hjl
      refine r_boxed (m := 4) (z := zT) (et := T27) (bs := bs2) (b := bb) (o := oo) (len := l.length) (cap := cc) (j := j) hT27 hT24s (by rw [k5.get 16 (by omega), ga, hv]) (by rw [k5.get 18 (by omega), gi]) hjl hres htr.length htr.ones ⟨rfl, by omega, by omega, by omega, by omega, by omega⟩ fun a6 w6 k6 hkeep g5 f6 hlt6 hxr => hK9 a6 w6 ?_
      have hz6 := k6.size
      have hm6 := hm4.kept f6 (by simp)
      have hlen : (l.take j).length = j := by simp; omega
      have hblt : ∀ b, blk lv = some b → b < w4.heap.size := fun b hb => by
        rcases hl4.1.blk_in hb with h | h
        · have := hm4.a0 b h; have := hm4.ob0; have := hm4.ob1; have := hm4.top; omega
        · exact h.2
      refine got_app (xb := w4.heap.size) (es := es) (y := l[j]) hT hT27 hz0 hT32 hT32s hbs hmx henter he (by omega) (by rw [hkeep 3 (by omega) (by omega), k5.get 3 (by omega), k4.get 3 (by omega), g3]) g5 hm6 ⟨hl4.1.kept f6 (by simp) (GE.C_mono f6.size), hl4.2⟩ (by omega) hxr
        (htr.kept f6 (by simp) (fun _ h => h)) hm4.top (fun b hb h => by have := hblt b hb; omega) (hcall _ (List.getElem_mem hjl)) ?_
      rintro a7 w7 lv' k7 ⟨r', hr', f7⟩ hm7 hl7
      refine hK8 a7 w7 ?_
      have hz7 := k7.size
      have g18' : get a7 18 = .int .i64 j := by rw [k7.get 18 (by omega), hkeep 18 (by omega) (by omega), k5.get 18 (by omega), gi]
      refine wp_reg ?_
      rw [wpl_cons]
      refine wp_add (k1 := .i64) (i := j) (j := 1) (by rw [eval_tmp, g18']) rfl ?_
      rw [wpl_cons, wp_move, eval_tmp, get_put_same (by omega), wpl_nil]
      have hwr : IntKind.i64.wrap ((j : Int) + 1) = ((j + 1 : Nat) : Int) := by
        simp [IntKind.wrap, IntKind.bits, IntKind.signed]; omega
      rw [hwr]
      refine ⟨⟨j + 1, lv', hjl, ?_, ?_, ?_, ?_, hm7, ?_, r ++ r', ?_, ?_⟩, ?_⟩
      · exact (((k4.trans (k5.mono (by omega))).trans k6).trans (k7.mono (by omega))).trans ((Kept.put0 (by omega) _).put (by omega) _)
      · rw [get_put_ne (by omega), get_put_ne (by omega), k7.get 16 (by omega), hkeep 16 (by omega) (by omega), k5.get 16 (by omega), ga]
      · rw [get_put_ne (by omega), get_put_ne (by omega), k7.get 17 (by omega), hkeep 17 (by omega) (by omega), k5.get 17 (by omega), gl]
      · rw [get_put_same (by simp only [size_put]; omega)]
      · rw [List.take_succ_eq_append_getElem hjl]; exact hl7
      · intro x hx
        rcases List.mem_append.1 hx with h | h
        · exact hr x h
        · exact hr' x h
      · have f46 : Fr (⟨e.ob, 0, 5⟩ :: (r ++ r')) w w6 := (f4.mono (l' := ⟨e.ob, 0, 5⟩ :: (r ++ r')) (fun x hx => by
          rcases List.mem_cons.1 hx with rfl | h
          · exact Rng.in_self (by simp)
          · exact Rng.in_self (List.mem_cons_of_mem _ (List.mem_append_left _ h)))).tr (Fr.nil f6)
        refine f46.trans f7 fun x hx => ?_
        rcases List.mem_cons.1 hx with rfl | h
        · exact Rng.in_self (by simp)
        · exact Rng.in_self (List.mem_cons_of_mem _ (List.mem_append_right _ h))
      · rw [get_put_same (by simp only [size_put]; omega), gi]; simp [idxOf]; omega
    · intro hge
      have hjl : j = l.length := by
        have : ¬ ((j : Int) < l.length) := by simpa using hge
        omega
      subst hjl
      rw [List.take_length] at hl4
      refine wp_exit ?_
      show K a5 w4
      exact hk a5 w4 lv (k4.trans (k5.mono (by omega))) ⟨r, hr, f4⟩ hm4 hl4

end Go.Kq
