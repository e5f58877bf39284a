/- The other form of an append that tells one thing more, and both together. -/
import Derived.Test.YtjeplgghcebfjaaDoorKqTlS
namespace Go.Kq
open Go Go.Proofs

variable {P : Program} {TT TL S TS : TypeId} {N sv st si m n k o kf id id2 : Nat}

/-- 'append(t.L[k].L, tell(&v.F[i]))': a place is made, then what was told is laid there. -/
theorem app_call1 {t : Ty} {f : FuncId} {g : V → T} {ats : Array TypeId} (hT : TreeTys P TT TL) (hf : TellM P f t g) {zt : Array Value} (hzt : zt.toList = zT)
    {t0 t1 t2 t3 t4 t5 t6 t7 t8 t9 t10 t11 t12 t13 t14 t15 t16 t17 t18 t19 : TypeId} {p0 p1 p2 p3 p4 p5 p6 p7 p8 p9 p10 p11 p12 p13 p14 p15 p16 p17 p18 p19 : String} {e0 e1 e2 e3 e4 e5 e6 e7 e8 e9 e10 e11 e12 e13 e14 e15 e16 e17 e18 e19 : Array Edge}
    (he : edgeOk 0 [e0, e1, e2, e3, e4, e5, e6, e7, e8, e9, e10, e11, e12, e13, e14, e15, e16, e17] [[], [0], [1], [2], [3], [], [5], [6], [7], [], [8, 9], [10], [4], [],
      [0, 1, 2, 3, 4, 5, 6, 7, 8, 9, 10, 11, 12, 13], [0, 1, 2, 3, 4, 5, 6, 7, 8, 9, 10, 11, 12, 13, 14], [0, 1, 2, 3, 4, 5, 6, 7, 8, 9, 10, 11, 12, 13, 14, 15], [0, 1, 2, 3, 4, 5, 6, 7, 8, 9, 10, 11, 12, 13, 14, 15, 16]] = true)
    (hS : fieldOf P S kf o = true) (hTS0 : sliceN P TS t.size = true) (hscl : scal P TS = true)
    (hb : (decide (sv < n) && decide (st < n) && decide (si < n) && decide (m ≤ n) && decide (n + 18 ≤ N)) = true) :
    AppStep P N sv st si m (.seq (Code.region id ⟨[⟨some n, .fieldAddr TT (.tmp st) 3, t0, p0, e0, none⟩, ⟨some (n + 1), .load TL (.tmp n), t1, p1, e1, none⟩,
      ⟨some (n + 2), .indexAddr TL (.tmp (n + 1)) (.const (.int .i64 k)), t2, p2, e2, none⟩, ⟨some (n + 3), .fieldAddr TT (.tmp (n + 2)) 3, t3, p3, e3, none⟩, ⟨some (n + 4), .load TL (.tmp (n + 3)), t4, p4, e4, none⟩,
      ⟨some (n + 5), .move (.tmp sv), t5, p5, e5, none⟩, ⟨some (n + 6), .nilCheck (.tmp (n + 5)), t6, p6, e6, none⟩, ⟨some (n + 7), .fieldAddr S (.tmp (n + 6)) kf, t7, p7, e7, none⟩, ⟨some (n + 8), .load TS (.tmp (n + 7)), t8, p8, e8, none⟩,
      ⟨some (n + 9), .move (.tmp si), t9, p9, e9, none⟩, ⟨some (n + 10), .indexAddr TS (.tmp (n + 8)) (.tmp (n + 9)), t10, p10, e10, none⟩, ⟨some (n + 11), .call ⟨.value (.func f), #[.tmp (n + 10)], ats⟩, t11, p11, e11, none⟩,
      ⟨some (n + 12), .call ⟨.builtin .len, #[.tmp (n + 4)], #[TL]⟩, t12, p12, e12, none⟩, ⟨some (n + 13), .buildSlice TL 1 #[(0, .const (.agg zt))], t13, p13, e13, none⟩,
      ⟨some (n + 14), .call ⟨.builtin .append, #[.tmp (n + 4), .tmp (n + 13)], #[TL, TL]⟩, t14, p14, e14, none⟩,
      ⟨some (n + 15), .indexAddr TL (.tmp (n + 1)) (.const (.int .i64 k)), t15, p15, e15, none⟩, ⟨some (n + 16), .fieldAddr TT (.tmp (n + 15)) 3, t16, p16, e16, none⟩, ⟨none, .store TL (.tmp (n + 16)) (.tmp (n + 14)), t17, p17, e17, none⟩]⟩ true)
      (Code.region id2 ⟨[⟨some (n + 17), .indexAddr TL (.tmp (n + 14)) (.tmp (n + 12)), t18, p18, e18, none⟩, ⟨none, .store TT (.tmp (n + 17)) (.tmp (n + 11)), t19, p19, e19, none⟩]⟩ false)) k o t g := by
  intro e K Q a w ts s1 b lv l x j y hN hsv hst hsi hm hy hlo hx hj hk hll hK
  obtain ⟨et, es, hTS⟩ := sliceN_is hTS0
  simp only [Bool.and_eq_true, decide_eq_true_eq] at hb
  obtain ⟨⟨⟨⟨b1, b2⟩, b3⟩, b4⟩, b5⟩ := hb
  obtain ⟨c, hc, hrc⟩ := hx.one rfl
  obtain ⟨q, cap, rfl, hq, _, hel⟩ := arr_cell hrc
  have hjl : j < x.items.length := (List.getElem?_eq_some_iff.1 hj).1
  obtain ⟨qa, rfl⟩ : ∃ qa, q = some qa := by
    cases q with
    | some qa => exact ⟨qa, rfl⟩
    | none => cases x <;> simp [V.isNil] at hq; simp [V.items] at hjl
  obtain ⟨sb, so, rfl, hB, hels⟩ := hel _ rfl
  obtain ⟨ce, hce, hcl, hre⟩ := hels j y hj
  have hBs := hm.bs sb hB
  have hs01 : e.s0 ≤ s1 := hm.s0
  have hs1 : s1 ≤ w.heap.size := hm.top
  have hpb : e.pb < e.s0 := hm.ps
  have hzero := hT.zero
  have hloc := hlo
  obtain ⟨flat0, ho0, hel0⟩ := hloc
  have hlvq : ∃ lq lcap, lv = .slice lq l.length lcap := by
    obtain ⟨_, h | ⟨g', o', cap', _, h, _⟩⟩ := ho0
    · exact ⟨none, 0, by rw [h.1, h.2]⟩
    · exact ⟨_, _, h⟩
  obtain ⟨lq, lcap, hlv0⟩ := hlvq
  have hztc : (Value.agg zt).cells = zT.toArray := by show zt = zT.toArray; rw [← hzt]
  refine wp_seq_k fun K1 hK1 => ?_
  refine wp_drawR (os := [⟨some n, .fieldAddr TT (.tmp st) 3, t0, p0, e0, none⟩, ⟨some (n + 1), .load TL (.tmp n), t1, p1, e1, none⟩,
      ⟨some (n + 2), .indexAddr TL (.tmp (n + 1)) (.const (.int .i64 k)), t2, p2, e2, none⟩, ⟨some (n + 3), .fieldAddr TT (.tmp (n + 2)) 3, t3, p3, e3, none⟩, ⟨some (n + 4), .load TL (.tmp (n + 3)), t4, p4, e4, none⟩,
      ⟨some (n + 5), .move (.tmp sv), t5, p5, e5, none⟩, ⟨some (n + 6), .nilCheck (.tmp (n + 5)), t6, p6, e6, none⟩, ⟨some (n + 7), .fieldAddr S (.tmp (n + 6)) kf, t7, p7, e7, none⟩, ⟨some (n + 8), .load TS (.tmp (n + 7)), t8, p8, e8, none⟩,
      ⟨some (n + 9), .move (.tmp si), t9, p9, e9, none⟩, ⟨some (n + 10), .indexAddr TS (.tmp (n + 8)) (.tmp (n + 9)), t10, p10, e10, none⟩, ⟨some (n + 11), .call ⟨.value (.func f), #[.tmp (n + 10)], ats⟩, t11, p11, e11, none⟩,
      ⟨some (n + 12), .call ⟨.builtin .len, #[.tmp (n + 4)], #[TL]⟩, t12, p12, e12, none⟩, ⟨some (n + 13), .buildSlice TL 1 #[(0, .const (.agg zt))], t13, p13, e13, none⟩])
    (rest := [⟨some (n + 14), .call ⟨.builtin .append, #[.tmp (n + 4), .tmp (n + 13)], #[TL, TL]⟩, t14, p14, e14, none⟩,
      ⟨some (n + 15), .indexAddr TL (.tmp (n + 1)) (.const (.int .i64 k)), t15, p15, e15, none⟩, ⟨some (n + 16), .fieldAddr TT (.tmp (n + 15)) 3, t16, p16, e16, none⟩, ⟨none, .store TL (.tmp (n + 16)) (.tmp (n + 14)), t17, p17, e17, none⟩])
    [spC [] (.pointer (some ⟨e.tb, 0 + 3, none⟩)), spC [0] (.slice (some ⟨e.lb, 0, none⟩) e.n e.n),
      spC [1] (.pointer (some ⟨e.lb, 0 + (k : Int).toNat * 5, none⟩)), spC [2] (.pointer (some ⟨e.lb, 0 + (k : Int).toNat * 5 + 3, none⟩)), spC [3] lv,
      spC [] (.pointer (some ⟨e.pb, e.po, none⟩)), spC [5] (.pointer (some ⟨e.pb, e.po, none⟩)), spC [6] (.pointer (some ⟨e.pb, e.po + o, none⟩)), spC [7] (.slice (some ⟨sb, so, none⟩) x.items.length cap),
      spC [] (.int .i64 j), spC [8, 9] (.pointer (some ⟨sb, so + (j : Int).toNat * t.size, none⟩)), spR [10] (fun v w' => ∃ cs : List Value, v = .agg cs.toArray ∧ RepT w' (From w.heap.size w') cs (g y)),
      spC [4] (.int .i64 l.length), spR [] (fun v w' => ∃ (b : Nat), v = .slice (some ⟨b, 0, none⟩) 1 1 ∧ w.heap.size ≤ b ∧ w'.rangeAt b 0 zT)] n [] hT.mixed he (by simp [shape]) rfl
    (by simp [spC, spR]) (by simp; omega)
    ⟨lasts_c _ _ _, lasts_c _ _ _, lasts_c _ _ _, lasts_c _ _ _, lasts_c _ _ _, lasts_c _ _ _, lasts_c _ _ _, lasts_c _ _ _, lasts_c _ _ _, lasts_c _ _ _, lasts_c _ _ _, ?_, lasts_c _ _ _, ?_, trivial⟩ ?_ ?_
  · rintro v w1 w2 hf12 ⟨cs, h1, h2⟩
    have hf12 : Fr [] w1 w2 := hf12
    exact ⟨cs, h1, h2.kept hf12 (by simp) (From.mono hf12.size)⟩
  · rintro v w1 w2 hf12 ⟨b, h1, h2, h3⟩
    have hf12 : Fr [] w1 w2 := hf12
    exact ⟨b, h1, h2, hf12.range h3 .nil⟩
  · refine ⟨op_c fun a' w' hk' hf' hd' K' hK' => ?_, op_c fun a' w' hk' hf' hd' K' hK' => ?_, op_c fun a' w' hk' hf' hd' K' hK' => ?_, op_c fun a' w' hk' hf' hd' K' hK' => ?_, op_c fun a' w' hk' hf' hd' K' hK' => ?_,
      op_c fun a' w' hk' hf' hd' K' hK' => ?_, op_c fun a' w' hk' hf' hd' K' hK' => ?_, op_c fun a' w' hk' hf' hd' K' hK' => ?_, op_c fun a' w' hk' hf' hd' K' hK' => ?_, op_c fun a' w' hk' hf' hd' K' hK' => ?_,
      op_c fun a' w' hk' hf' hd' K' hK' => ?_, op_r fun a' w' hk' hf' hd' K' hK' => ?_, op_c fun a' w' hk' hf' hd' K' hK' => ?_, op_r fun a' w' hk' hf' hd' K' hK' => ?_, trivial⟩
    · exact wp_fieldAddr (hT.flat.field (by decide)) (by rw [eval_tmp, hk'.get st b2, hst]) hK'
    · exact wp_load hT.scl (by rw [eval_tmp]; exact hd'.c 0 (by simp) rfl) ((hm.kept hf' (by simp)).tree 3 _ rfl) hK'
    · exact wp_indexAddr hT.sl (by rw [eval_tmp]; exact hd'.c 1 (by simp) rfl) rfl (by omega) (by omega) hK'
    · exact wp_fieldAddr (hT.flat.field (by decide)) (by rw [eval_tmp]; exact hd'.c 2 (by simp) rfl) hK'
    · obtain ⟨es, h4, rfl, _⟩ := (hm.kept hf' (by simp)).els k _ hy
      refine wp_load hT.scl (by rw [eval_tmp]; exact hd'.c 3 (by simp) rfl) ?_ hK'
      have := h4 3 lv rfl
      simpa using this
    · rw [wp_move, eval_tmp, hk'.get sv b1, hsv]; exact hK'
    · exact wp_nilCheck (by rw [eval_tmp]; exact hd'.c 5 (by simp) rfl) hK'
    · exact wp_fieldAddr hS (by rw [eval_tmp]; exact hd'.c 6 (by simp) rfl) hK'
    · exact wp_load hscl (by rw [eval_tmp]; exact hd'.c 7 (by simp) rfl) (hf'.cell hc .nil) hK'
    · rw [wp_move, eval_tmp, hk'.get si b3, hsi]; exact hK'
    · exact wp_indexAddr hTS (by rw [eval_tmp]; exact hd'.c 8 (by simp) rfl) (by rw [eval_tmp]; exact hd'.c 9 (by simp) rfl) (by omega) (by omega) hK'
    · have hx12 : get a' (n + 10) = .pointer (some ⟨sb, so + j * t.size, none⟩) := by
        have := hd'.c (nd' := [8, 9]) (x := .pointer (some ⟨sb, so + (j : Int).toNat * t.size, none⟩)) 10 (by simp) rfl
        rw [this]; simp
      have hwf := hf'.size
      refine wp_calls hf.enters (vs := #[.pointer (some ⟨sb, so + j * t.size, none⟩)]) (by simp [eval_tmp, hx12]) (R := fun v w2 => ∃ cs : List Value, v = .agg cs.toArray ∧ Fr [] w' w2 ∧ RepT w2 (From w'.heap.size w2) cs (g y)) ?_ ?_
      · have hB0 : ∀ b, e.B b → b < w'.heap.size := fun b hb => by have := hm.bs b hb; omega
        refine (hf.call w' sb (so + j * t.size) ce y e.B (hf'.range hce .nil) (hre.kept hf' (by simp) (fun _ h => h)) hB0 (hB0 sb hB)).mono ?_
        rintro e' w2 ⟨cs, rfl, h1, h2⟩
        exact ⟨_, rfl, cs, rfl, h1, h2⟩
      · rintro v w2 ⟨cs, rfl, h1, h2⟩
        exact hK' _ _ ⟨cs, rfl, h2.kept (Fr.refl [] w2) (by simp) (fun b hb => ⟨by have := hb.1; omega, hb.2⟩)⟩ h1
    · have hlv : get a' (n + 4) = lv := hd'.c 4 (by simp) rfl
      exact wp_len hT.sl (by rw [eval_tmp, hlv, hlv0]) hK'
    · have hwf := hf'.size
      refine wp_slice1 hT.sl hzero rfl (by omega) (cs := zT) (by rw [eval_const, hztc]) rfl fun _ => ?_
      have hal := Fr.alloc [] w' (.cells zT.toArray TT)
      exact hK' _ _ ⟨_, rfl, hwf, range_new w' zT.toArray TT (0, 0)⟩ hal
  · intro a' w' hk' hf' hd'
    obtain ⟨cs, hv11, hr11⟩ := hd'.at (d := 11) (by simp) rfl
    obtain ⟨bb, hv13, hbb, hz13⟩ := hd'.at (d := 13) (by simp) rfl
    have hlv : get a' (n + 4) = lv := hd'.c (nd' := [3]) 4 (by simp) rfl
    have g1 : get a' (n + 1) = .slice (some ⟨e.lb, 0, none⟩) e.n e.n := hd'.c (nd' := [0]) 1 (by simp) rfl
    have g12 : get a' (n + 12) = .int .i64 l.length := hd'.c (nd' := [4]) 12 (by simp) rfl
    have hsz := hk'.size
    have hwf := hf'.size
    have hmw := hm.kept hf' (by simp)
    have hlo' := hlo.kept hf' (by simp) (A' := From s1 w') (From.mono hwf)
    have hloc := hlo'
    obtain ⟨flat, ho1, ho2⟩ := hloc
    have hlb : ∀ b, blk lv = some b → b < w.heap.size := fun b hb => (hlo.blk_in hb).2
    rw [wpl_cons]
    refine wp_append (A := From s1 w') (z := zT) hT.sl hzero rfl (by rw [eval_tmp, hlv]) (by rw [eval_tmp, hv13]) ho1 (by omega) (news := zT) rfl hz13 (repT_zero (w := w') (A := fun _ => False)).ones (by omega) (by simp only [maxLen]; omega) ?_
    intro v' w2 hf2 ho' hbk
    have hf2s := hf2.size
    have hsp : ∀ r ∈ spare lv 5, From s1 w' r.b := hlo'.spare_in
    have hsp2 : ∀ r ∈ spare lv 5, r.b < w.heap.size := fun r hr => (hlo.spare_in r hr).2
    have hlo2 : LOwn w2 (From s1 w2) v' (l ++ [.zero]) := by
      refine LOwn.app (A' := From s1 w2) ho2 ho1 hf2 ?_ hbk (fun b hb => ⟨From.mono hf2s b hb, hb.2⟩) (C := fun _ => False) repT_zero (fun _ h => h.elim)
      obtain ⟨ha, hb⟩ := ho'
      refine ⟨ha, hb.imp (fun h => h) ?_⟩
      rintro ⟨g', o', cap', hg', hrest⟩
      refine ⟨g', o', cap', ?_, hrest⟩
      rcases hg' with hg' | hg'
      · exact From.mono hf2s _ hg'
      · exact ⟨by have := hg'.1; omega, hg'.2⟩
    have hr2 : RepT w2 (fun b => From w.heap.size w2 b ∧ blk v' ≠ some b) cs (g y) := by
      refine hr11.kept hf2 (fun r hr hF => by have := hsp2 r hr; have := hF.1; omega) (fun b hb => ⟨From.mono hf2s b hb, fun hbl => ?_⟩)
      rcases hbk with h | h
      · rw [h] at hbl; have := hlb b hbl; have := hb.1; omega
      · rw [h] at hbl; simp at hbl; have := hb.2; omega
    have hm2 := hmw.kept hf2 (fun r hr => (hsp r hr).1)
    rw [wpl_cons]
    have hn15 : n + 14 < a'.tmps.size := by omega
    refine wp_indexAddr hT.sl (by rw [eval_tmp, get_put_ne (by omega), g1]) rfl (by omega) (by omega) ?_
    rw [wpl_cons]
    refine wp_fieldAddr (hT.flat.field (k := 3) (by decide)) (by rw [eval_tmp, get_put_same (by simp only [size_put]; omega)]) ?_
    rw [wpl_cons]
    have hth : w2.there e.lb (k * 5) 5 := there_part hm2.thL (by omega) (by omega)
    refine wp_store hT.scl (b := e.lb) (o := k * 5 + 3) (v := v') (by rw [eval_tmp, get_put_same (by simp only [size_put]; omega)]; simp) (by rw [eval_tmp, get_put_ne (by omega), get_put_ne (by omega), get_put_same hn15]) hlo2.one (there_part hth (by omega) (by omega)) ?_
    obtain ⟨h5, h6⟩ := hm2.setL hk hy hlo2.one
    have h6s := h6.size
    generalize w2.setCell ⟨e.lb, k * 5 + 3, none⟩ v' = w3 at h5 h6 h6s ⊢
    generalize ha3 : ((a'.put (some (n + 14)) v').put (some (n + 15)) (.pointer (some ⟨e.lb, 0 + (k : Int).toNat * 5, none⟩))).put (some (n + 16)) (.pointer (some ⟨e.lb, 0 + (k : Int).toNat * 5 + 3, none⟩)) = a3
    have k3 : Kept (n + 14) a' a3 := by subst ha3; exact ((Kept.put0 (Nat.le_refl _) _).put (by omega) _).put (by omega) _
    have g14 : get a3 (n + 14) = v' := by subst ha3; rw [get_put_ne (by omega), get_put_ne (by omega), get_put_same hn15]
    have hlbs : e.lb < s1 := by have := hm.ls; omega
    have hnlb : ∀ r ∈ [(⟨e.lb, k * 5, k * 5 + 5⟩ : Rng)], ∀ s, s1 ≤ s → ¬ s ≤ r.b := by
      intro r hr s hs; simp at hr; subst hr; simp only; omega
    have hlo3 := hlo2.kept h6 (A' := From s1 w3) (fun r hr hF => hnlb r hr s1 (Nat.le_refl _) hF.1) (From.mono h6s)
    have hr3 : RepT w3 (fun b => From w.heap.size w3 b ∧ blk v' ≠ some b) cs (g y) := hr2.kept h6 (fun r hr hF => hnlb r hr _ hs1 hF.1.1) (fun b hb => ⟨From.mono h6s b hb.1, hb.2⟩)
    rw [wpl_nil]
    refine hK1 (a3.put none undef) w3 ?_
    rw [put_none]
    obtain ⟨g', o', cap', hv', hg', hth', hlo4⟩ := hlo3.setLast hr3 (fun b hb => ⟨⟨by have := hb.1.1; omega, hb.1.2⟩, hb.2⟩)
    have hs3 := k3.size
    refine wp_reg ?_
    rw [wpl_cons]
    refine wp_indexAddr (k1 := .i64) (i := l.length) hT.sl (by rw [eval_tmp, g14, hv']) (by rw [eval_tmp, k3.get (n + 12) (by omega), g12]) (by omega) (by omega) ?_
    rw [wpl_cons]
    have hcl5 := hr3.length
    refine wp_storeFlat hT.flat (cs := cs) (b := g') (o := o' + l.length * 5) (by rw [hcl5]; rfl) (by rw [eval_tmp, get_put_same (by omega)]; simp) (by rw [eval_tmp, get_put_ne (by omega), k3.get (n + 11) (by omega), hv11]) hr3.ones (by rw [hcl5]; exact hth') ?_
    have hf4 := Fr.sets g' cs w3 (o' + l.length * 5)
    rw [hcl5] at hf4
    have hgs : s1 ≤ g' := hg'.1
    have hsz4 := hf4.size
    refine hK _ _ v' ?_ ⟨spare lv 5 ++ [⟨g', o' + l.length * 5, o' + l.length * 5 + 5⟩], ?_, ?_⟩ (h5.kept hf4 (by intro r hr; simp at hr; subst hr; exact hgs)) (hlo4.kept (Fr.refl [] _) (by simp) (From.mono hsz4))
    · exact ((hk'.mono b4).trans (k3.mono (by omega))).trans ((Kept.put0 (by omega) _))
    · intro r hr
      rcases List.mem_append.1 hr with h | h
      · exact (hsp r h).1
      · simp at h; subst h; exact hgs
    · have f1 : Fr (⟨e.lb, k * 5, k * 5 + 5⟩ :: (spare lv 5 ++ [⟨g', o' + l.length * 5, o' + l.length * 5 + 5⟩])) w w2 := (hf'.nil (l := _)).tr (hf2.mono (fun r hr => Rng.in_self (List.mem_cons_of_mem _ (List.mem_append_left _ hr))))
      have f2 : Fr (⟨e.lb, k * 5, k * 5 + 5⟩ :: (spare lv 5 ++ [⟨g', o' + l.length * 5, o' + l.length * 5 + 5⟩])) w w3 := f1.trans h6 (by intro r hr; simp at hr; subst hr; exact Rng.in_self (by simp))
      refine f2.trans hf4 ?_
      intro r hr; simp at hr; subst hr; exact Rng.in_self (by simp)

end Go.Kq
