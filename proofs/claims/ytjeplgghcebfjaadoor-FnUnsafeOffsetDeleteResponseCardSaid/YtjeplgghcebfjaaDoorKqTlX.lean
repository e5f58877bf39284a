/- A list's things appended one by one. -/
import Derived.Test.YtjeplgghcebfjaaDoorKqTlL
namespace Go.Kq
open Go Go.Proofs

/-- A list of trees that one owns: its cells, and what they lead to, which lies elsewhere. -/
def LOwn (w : World) (A : Nat → Prop) (lv : Value) (l : List T) : Prop :=
  ∃ flat, Own w A 5 lv l.length flat ∧ ∀ (i : Nat) (y : T), l[i]? = some y → RepT w (fun b => A b ∧ blk lv ≠ some b) ((flat.drop (i * 5)).take 5) y

theorem LOwn.nil {w : World} {A : Nat → Prop} : LOwn w A (.slice none 0 0) [] := ⟨[], Own.nil, by simp⟩
theorem LOwn.one {w : World} {A : Nat → Prop} {lv : Value} {l : List T} (h : LOwn w A lv l) : lv.oneCell' = true := by
  obtain ⟨_, h, _⟩ := h; exact h.one
theorem LOwn.things {w : World} {A : Nat → Prop} {lv : Value} {l : List T} (hbig : l.length ≤ 4294967296) (h : LOwn w A lv l) : Things w A lv l := by
  obtain ⟨flat, ⟨h1, h2 | ⟨g, o, cap, hg, rfl, hnc, _, hr, _⟩⟩, h3⟩ := h
  · exact .inl ⟨h2.1, List.eq_nil_of_length_eq_zero h2.2⟩
  · refine .inr ⟨g, o, cap, hg, rfl, ⟨hnc, hbig⟩, fun i => (flat.drop (i * 5)).take 5, fun i y hi => range_part hr (i * 5) 5, fun i y hi => (h3 i y hi).kept (Fr.refl [] w) (by simp) (fun b hb => hb.1)⟩
theorem LOwn.kept {w w' : World} {A A' : Nat → Prop} {lv : Value} {l : List T} {r : List Rng} (h : LOwn w A lv l) (hf : Fr r w w') (hl : ∀ x ∈ r, ¬ A x.b) (hA : ∀ b, A b → A' b) : LOwn w' A' lv l := by
  obtain ⟨flat, h1, h2⟩ := h
  exact ⟨flat, h1.kept hf (fun x hx hb => absurd hb (hl x hx)) hA, fun i y hi => (h2 i y hi).kept hf (fun x hx hb => hl x hx hb.1) (fun b hb => ⟨hA b hb.1, hb.2⟩)⟩
theorem flat_part {flat cs : List Value} {n i : Nat} (h : flat.length = n * 5) (hi : i < n) : ((flat ++ cs).drop (i * 5)).take 5 = (flat.drop (i * 5)).take 5 := by
  rw [List.drop_append_of_le_length (by omega), List.take_append_of_le_length (by simp; omega)]
theorem flat_last {flat cs : List Value} {n : Nat} (h : flat.length = n * 5) (hc : cs.length = 5) : ((flat ++ cs).drop (n * 5)).take 5 = cs := by
  rw [← h, List.drop_left, ← hc, List.take_length]
/-- One thing more. -/
theorem LOwn.app {w w' : World} {A A' C : Nat → Prop} {lv lv' : Value} {l : List T} {flat cs : List Value} {y : T} (h : ∀ (i : Nat) (y : T), l[i]? = some y → RepT w (fun b => A b ∧ blk lv ≠ some b) ((flat.drop (i * 5)).take 5) y) (ho : Own w A 5 lv l.length flat)
    (hf : Fr (spare lv 5) w w') (ho' : Own w' A' 5 lv' (l.length + 1) (flat ++ cs)) (hbk : blk lv' = blk lv ∨ blk lv' = some w.heap.size) (hA : ∀ b, A b → A' b ∧ b < w.heap.size) (hy : RepT w C cs y) (hC : ∀ b, C b → A b ∧ blk lv ≠ some b) :
    LOwn w' A' lv' (l ++ [y]) := by
  have hfl := ho.1
  have hm : ∀ b, A b ∧ blk lv ≠ some b → A' b ∧ blk lv' ≠ some b := by
    intro b ⟨h1, h2⟩
    refine ⟨(hA b h1).1, ?_⟩
    rcases hbk with h3 | h3
    · rw [h3]; exact h2
    · rw [h3]; have := (hA b h1).2; simp; omega
  have hn : ∀ r ∈ spare lv 5, ¬ (A r.b ∧ blk lv ≠ some r.b) := by
    intro r hr ⟨_, h2⟩
    unfold spare at hr
    split at hr
    · simp at hr; subst hr; exact h2 rfl
    · cases hr
  refine ⟨flat ++ cs, by rw [List.length_append]; exact ho', fun i z hi => ?_⟩
  by_cases hil : i < l.length
  · rw [List.getElem?_append_left hil] at hi
    rw [flat_part hfl hil]
    exact (h i z hi).kept hf hn hm
  · rw [List.getElem?_append_right (by omega)] at hi
    have hi0 : i = l.length := by
      rcases Nat.lt_or_ge (i - l.length) 1 with h1 | h1
      · omega
      · rw [List.getElem?_eq_none (by simpa using h1)] at hi; simp at hi
    subst hi0
    rw [Nat.sub_self] at hi
    simp at hi
    subst hi
    rw [flat_last hfl hy.length]
    exact hy.kept hf (fun r hr hc => hn r hr (hC _ hc)) (fun b hb => hm b (hC b hb))
/-- The last thing is laid anew. -/
theorem LOwn.setLast {w : World} {A : Nat → Prop} {lv : Value} {l : List T} {y y0 : T} {cs : List Value} {C : Nat → Prop} (h : LOwn w A lv (l ++ [y0])) (hy : RepT w C cs y) (hC : ∀ b, C b → A b ∧ blk lv ≠ some b) :
    ∃ g o cap, lv = .slice (some ⟨g, o, none⟩) (l.length + 1) cap ∧ A g ∧ w.there g (o + l.length * 5) 5 ∧ LOwn (w.setCells g (o + l.length * 5) cs) A lv (l ++ [y]) := by
  obtain ⟨flat, ⟨h1, h2 | ⟨g, o, cap, hg, hv, hnc, hcm, hr, ht⟩⟩, h3⟩ := h
  · simp at h2
  simp only [List.length_append, List.length_cons, List.length_nil, Nat.zero_add] at h1 hv hnc
  have hmul : (l.length + 1) * 5 ≤ cap * 5 := Nat.mul_le_mul_right _ hnc
  have hth : w.there g (o + l.length * 5) 5 := there_part ht (by omega) (by omega)
  have hcl := hy.length
  have hf := Fr.sets g cs w (o + l.length * 5)
  rw [hcl] at hf
  have hbl : blk lv = some g := by rw [hv]; rfl
  have hn : ∀ r ∈ [(⟨g, o + l.length * 5, o + l.length * 5 + 5⟩ : Rng)], ¬ (A r.b ∧ blk lv ≠ some r.b) := by
    intro r hr ⟨_, h2⟩; simp at hr; subst hr; exact h2 hbl
  have hfl : (flat.take (l.length * 5)).length = l.length * 5 := by simp; omega
  refine ⟨g, o, cap, hv, hg, hth, flat.take (l.length * 5) ++ cs, ⟨by simp [hcl]; omega, .inr ⟨g, o, cap, hg, by simpa using hv, by simpa using hnc, hcm, ?_, hf.there ht⟩⟩, fun i z hi => ?_⟩
  · rw [range_append]
    have hp := range_part hr 0 (l.length * 5)
    rw [List.drop_zero, Nat.add_zero] at hp
    refine ⟨hf.range hp (.cons (.inr (.inl (by simp only [hfl]; omega))) .nil), ?_⟩
    rw [hfl]
    exact World.rangeAt_setCells_same _ _ _ _ (by rw [hcl]; exact hth)
  · by_cases hil : i < l.length
    · rw [List.getElem?_append_left hil] at hi
      rw [flat_part hfl hil]
      have := h3 i z (by rw [List.getElem?_append_left hil]; exact hi)
      have he : ((flat.take (l.length * 5)).drop (i * 5)).take 5 = (flat.drop (i * 5)).take 5 := by
        rw [List.drop_take, List.take_take]; congr 1; omega
      rw [he]
      exact this.kept hf hn (fun _ h => h)
    · rw [List.getElem?_append_right (by omega)] at hi
      have hi0 : i = l.length := by
        rcases Nat.lt_or_ge (i - l.length) 1 with h1 | h1
        · omega
        · rw [List.getElem?_eq_none (by simpa using h1)] at hi; simp at hi
      subst hi0
      rw [Nat.sub_self] at hi
      simp at hi
      subst hi
      rw [flat_last hfl hcl]
      exact hy.kept hf (fun r hr hc => hn r hr (hC _ hc)) (fun b hb => hC b hb)

/-! ### which of two ways: the model leaves it open -/
def subE (e : Array Edge) (d : List Nat) : Bool := e.all fun x => !Region.binds .any x || d.contains x.on
theorem need_listed {ops : Array Oper} {listed : Array Bool} {i : Nat} {o : Oper} {d : List Nat} (hi : i ∈ Region.ready .any ops listed) (ho : ops[i]? = some o) (h : needE o.after d = true) : ∀ j ∈ d, listed.getD j false = true := by
  obtain ⟨_, o', h1, h2⟩ := mem_ready.1 hi
  rw [ho] at h1
  obtain rfl := Option.some.inj h1
  intro j hj
  simp only [needE, List.all_eq_true] at h
  obtain ⟨e, he, h3⟩ := Array.any_eq_true'.1 (h j hj)
  simp only [Bool.and_eq_true, beq_iff_eq] at h3
  rw [← h3.2]
  exact h2 e he h3.1
theorem ready_of {ops : Array Oper} {listed : Array Bool} {i : Nat} {o : Oper} {d : List Nat} (hl : listed.getD i true = false) (ho : ops[i]? = some o) (h : subE o.after d = true) (hd : ∀ j ∈ d, listed.getD j false = true) : i ∈ Region.ready .any ops listed := by
  refine mem_ready.2 ⟨hl, o, ho, fun e he hb => ?_⟩
  simp only [subE, Array.all_eq_true_iff_forall_mem] at h
  have := h e he
  simp only [hb, Bool.not_true, Bool.false_or, List.contains_eq_mem, decide_eq_true_eq] at this
  exact hd _ this

theorem wpOp_plain {P : Program} {Q : Exit → Act → World → Prop} {ops : Array Oper} {i : Nat} {o : Oper} {K : Act → World → Prop} {a : Act} {w : World} (ho : ops[i]? = some o) (hg : o.guard = none) (h : OW P o a w K Q) : wpOp P ops Q i K a w := by
  have hw : Region.wanted o (yielded ops a.tmps) = true := by simp [Region.wanted, hg]
  simp only [wpOp, ho, hw, if_true]
  exact .inl h.sem
theorem wpAny_step {P : Program} {Q : Exit → Act → World → Prop} {ops : Array Oper} {fuel : Nat} {listed : Array Bool} {a : Act} {w : World} {j : Nat} (hj : j ∈ Region.ready .any ops listed)
    (h : ∀ i ∈ Region.ready .any ops listed, wpOp P ops Q i (wpAny P .any ops Q fuel (listed.setIfInBounds i true)) a w) : wpAny P .any ops Q (fuel + 1) listed a w :=
  ⟨fun h0 => (by rw [h0] at hj; cases hj), h⟩
theorem ready_un {ops : Array Oper} {listed : Array Bool} {i : Nat} (h : i ∈ Region.ready .any ops listed) : listed.getD i true = false := (mem_ready.1 h).1

theorem r_flag {P : Program} {a : Act} {w : World} {K : Act → World → Prop} {Q : Exit → Act → World → Prop} {id n m : Nat} {TB : TypeId} {t0 t1 t2 t3 : TypeId} {p0 p1 p2 p3 : String} {e0 e1 e2 e3 : Array Edge}
    (hmx : P.follows .mixedOrders = true) (hz : zeroOf P TB (.bool false)) (hs : scal P TB = true)
    (he : (subE e0 [] && needE e1 [0] && subE e1 [0] && needE e2 [0] && subE e2 [0] && needE e3 [0, 1, 2] && subE e3 [0, 1, 2]) = true)
    (hn : n + 1 < a.tmps.size) (hm : m ≤ n)
    (hk : ∀ a' w' b, Kept m a a' → Fr [] w w' → get a' (n + 1) = .bool b → K a' w') :
    (Code.region id ⟨[⟨some n, .alloc TB, t0, p0, e0, none⟩, ⟨none, .store TB (.tmp n) (.const (.bool true)), t1, p1, e1, none⟩, ⟨none, .store TB (.tmp n) (.const (.bool false)), t2, p2, e2, none⟩, ⟨some (n + 1), .load TB (.tmp n), t3, p3, e3, none⟩]⟩ true).wp P (Exit.then K Q) a w := by
  simp only [Bool.and_eq_true] at he
  obtain ⟨⟨⟨⟨⟨⟨s0, n1⟩, s1⟩, n2⟩, s2⟩, n3⟩, s3⟩ := he
  refine wp_region_any hmx ?_
  generalize hops : (⟨[⟨some n, .alloc TB, t0, p0, e0, none⟩, ⟨none, .store TB (.tmp n) (.const (.bool true)), t1, p1, e1, none⟩, ⟨none, .store TB (.tmp n) (.const (.bool false)), t2, p2, e2, none⟩, ⟨some (n + 1), .load TB (.tmp n), t3, p3, e3, none⟩]⟩ : Array Oper) = ops
  have o0 : ops[0]? = some ⟨some n, .alloc TB, t0, p0, e0, none⟩ := by subst hops; rfl
  have o1 : ops[1]? = some ⟨none, .store TB (.tmp n) (.const (.bool true)), t1, p1, e1, none⟩ := by subst hops; rfl
  have o2 : ops[2]? = some ⟨none, .store TB (.tmp n) (.const (.bool false)), t2, p2, e2, none⟩ := by subst hops; rfl
  have o3 : ops[3]? = some ⟨some (n + 1), .load TB (.tmp n), t3, p3, e3, none⟩ := by subst hops; rfl
  have hsz : ops.size = 4 := by subst hops; rfl
  have hlt : ∀ {listed : Array Bool} {i}, i ∈ Region.ready .any ops listed → i = 0 ∨ i = 1 ∨ i = 2 ∨ i = 3 := by
    intro listed i hi
    obtain ⟨_, o, h, _⟩ := mem_ready.1 hi
    have := (Array.getElem?_eq_some_iff.1 h).1
    omega
  have nn1 : ∀ {listed : Array Bool}, 1 ∈ Region.ready .any ops listed → listed.getD 0 false = true := fun h => need_listed h o1 n1 0 (by simp)
  have nn2 : ∀ {listed : Array Bool}, 2 ∈ Region.ready .any ops listed → listed.getD 0 false = true := fun h => need_listed h o2 n2 0 (by simp)
  have nn3 : ∀ {listed : Array Bool}, 3 ∈ Region.ready .any ops listed → listed.getD 1 false = true ∧ listed.getD 2 false = true := fun h => ⟨need_listed h o3 n3 1 (by simp), need_listed h o3 n3 2 (by simp)⟩
  rw [hsz]
  have hd := Fr.drew [] w
  generalize hwd : ({ w with drawn := w.drawn + 1 } : World) = wd
  have hwd0 : Fr [] w wd := by subst hwd; exact hd
  have hsd : wd.heap.size = w.heap.size := by subst hwd; rfl
  -- the end
  have last : ∀ (a' : Act) (w' : World), Kept m a a' → Fr [] w w' → get a' n = .pointer (some ⟨w.heap.size, 0, none⟩) → (∃ b, w'.cell? ⟨w.heap.size, 0, none⟩ = some (.bool b)) →
      wpAny P .any ops (Exit.then K Q) 1 #[true, true, true, false] a' w' := by
    intro a' w' k' f' g' ⟨b, hb⟩
    have hs' := k'.size
    refine wpAny_step (j := 3) (ready_of rfl o3 s3 (by decide)) fun i hi => ?_
    have hu := ready_un hi
    rcases hlt hi with rfl | rfl | rfl | rfl <;> first | (simp at hu; done) | skip
    refine wpOp_plain o3 rfl (wp_load hs (by rw [eval_tmp, g']) hb ?_)
    refine wpAny_done ?_ ?_ 0
    · rw [List.eq_nil_iff_forall_not_mem]
      intro j hj
      have hu := ready_un hj
      rcases hlt hj with rfl | rfl | rfl | rfl <;> simp at hu
    · exact hk _ _ b (k'.put (by omega) _) f' (get_put_same (by omega))
  have fset : ∀ (w' : World) (b : Bool), Fr [] w w' → w'.there w.heap.size 0 1 → Fr [] w (w'.setCell ⟨w.heap.size, 0, none⟩ (.bool b)) := by
    intro w' b f' ht
    refine f'.trans (Fr.set w' w.heap.size 0 (.bool b)) ?_
    intro r hr; simp at hr; subst hr; exact .inl (Nat.le_refl _)
  have mid1 : ∀ (a' : Act) (w' : World), Kept m a a' → Fr [] w w' → get a' n = .pointer (some ⟨w.heap.size, 0, none⟩) → w'.there w.heap.size 0 1 → wpAny P .any ops (Exit.then K Q) 2 #[true, true, false, false] a' w' := by
    intro a' w' k' f' g' ht
    refine wpAny_step (j := 2) (ready_of rfl o2 s2 (by decide)) fun i hi => ?_
    have hu := ready_un hi
    rcases hlt hi with rfl | rfl | rfl | rfl <;> first | (simp at hu; done) | skip
    · exact wpOp_plain o2 rfl (wp_store hs (by rw [eval_tmp, g']) rfl rfl ht (last _ _ k' (fset _ _ f' ht) g' ⟨_, range_set ht⟩))
    · have := (nn3 hi).2; simp at this
  have mid2 : ∀ (a' : Act) (w' : World), Kept m a a' → Fr [] w w' → get a' n = .pointer (some ⟨w.heap.size, 0, none⟩) → w'.there w.heap.size 0 1 → wpAny P .any ops (Exit.then K Q) 2 #[true, false, true, false] a' w' := by
    intro a' w' k' f' g' ht
    refine wpAny_step (j := 1) (ready_of rfl o1 s1 (by decide)) fun i hi => ?_
    have hu := ready_un hi
    rcases hlt hi with rfl | rfl | rfl | rfl <;> first | (simp at hu; done) | skip
    · exact wpOp_plain o1 rfl (wp_store hs (by rw [eval_tmp, g']) rfl rfl ht (last _ _ k' (fset _ _ f' ht) g' ⟨_, range_set ht⟩))
    · have := (nn3 hi).1; simp at this
  refine wpAny_step (j := 0) (ready_of rfl o0 s0 (by simp)) fun i hi => ?_
  rcases hlt hi with rfl | rfl | rfl | rfl
  · refine wpOp_plain o0 rfl (wp_alloc hz ?_)
    have hal := Fr.alloc [] wd (.cells (Value.bool false).cells TB)
    have hth : (wd.alloc (.cells (Value.bool false).cells TB)).there w.heap.size 0 1 := by rw [← hsd]; exact there_new wd #[.bool false] TB
    have g1 : get (a.put (some n) (.pointer (some ⟨wd.heap.size, 0, none⟩))) n = .pointer (some ⟨w.heap.size, 0, none⟩) := by rw [get_put_same (by omega), hsd]
    refine wpAny_step (j := 1) (ready_of rfl o1 s1 (by decide)) fun i hi => ?_
    have hu := ready_un hi
    rcases hlt hi with rfl | rfl | rfl | rfl <;> first | (simp at hu; done) | skip
    · exact wpOp_plain o1 rfl (wp_store hs (by rw [eval_tmp, g1]) rfl rfl hth (mid1 _ _ (Kept.put0 hm _) (fset _ _ (hwd0.tr hal) hth) g1 ((Fr.set _ _ _ _).there hth)))
    · exact wpOp_plain o2 rfl (wp_store hs (by rw [eval_tmp, g1]) rfl rfl hth (mid2 _ _ (Kept.put0 hm _) (fset _ _ (hwd0.tr hal) hth) g1 ((Fr.set _ _ _ _).there hth)))
    · have := (nn3 hi).1; simp at this
  · have := nn1 hi; simp at this
  · have := nn2 hi; simp at this
  · have := (nn3 hi).1; simp at this

end Go.Kq
