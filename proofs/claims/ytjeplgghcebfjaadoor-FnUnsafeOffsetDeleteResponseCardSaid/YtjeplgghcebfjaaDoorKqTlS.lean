/- One thing more of a list that is told: the two forms in which the compiler may append. -/
import Derived.Test.YtjeplgghcebfjaaDoorKqTlX
namespace Go.Kq
open Go Go.Proofs

/-- A function that tells what lies behind an address. -/
structure TellM (P : Program) (f : FuncId) (ty : Ty) (g : V → T) : Prop where
  enters : Enters P f
  call : ∀ w pb po c x B, w.rangeAt pb po c → Rep w B ty c x → (∀ b, B b → b < w.heap.size) → pb < w.heap.size →
    Calls P f #[.pointer (some ⟨pb, po, none⟩)] w fun e w' => ∃ cs : List Value, e = .returned (.agg cs.toArray) ∧ Fr [] w w' ∧ RepT w' (fun b => w.heap.size ≤ b ∧ b < w'.heap.size) cs (g x)

def From (s : Nat) (w : World) (b : Nat) : Prop := s ≤ b ∧ b < w.heap.size
theorem From.mono {s : Nat} {w w' : World} (h : w.heap.size ≤ w'.heap.size) (b : Nat) (hb : From s w b) : From s w' b := ⟨hb.1, Nat.lt_of_lt_of_le hb.2 h⟩

theorem LOwn.spares {w w' : World} {A A' : Nat → Prop} {lv : Value} {l : List T} (h : LOwn w A lv l) (hf : Fr (spare lv 5) w w') (hA : ∀ b, A b → A' b) : LOwn w' A' lv l := by
  obtain ⟨flat, h1, h2⟩ := h
  refine ⟨flat, h1.kept hf ?_ hA, fun i y hi => (h2 i y hi).kept hf ?_ (fun b hb => ⟨hA b hb.1, hb.2⟩)⟩
  · intro r hr _ g o cap hv _
    rw [hv, spare_some] at hr
    simp at hr; subst hr
    exact .inr (by simp)
  · intro r hr ⟨_, hn⟩
    unfold spare at hr
    split at hr
    · simp at hr; subst hr; exact hn rfl
    · cases hr
theorem LOwn.spare_in {w : World} {A : Nat → Prop} {lv : Value} {l : List T} (h : LOwn w A lv l) : ∀ r ∈ spare lv 5, A r.b := by
  obtain ⟨_, h, _⟩ := h; exact h.spare_in
theorem LOwn.blk_in {w : World} {A : Nat → Prop} {lv : Value} {l : List T} (h : LOwn w A lv l) {b : Nat} (hb : blk lv = some b) : A b := by
  obtain ⟨_, ⟨_, h | ⟨g, o, cap, hg, h, _⟩⟩, _⟩ := h
  · rw [h.1] at hb; simp [blk] at hb
  · rw [h] at hb; simp [blk] at hb; subst hb; exact hg

/-- One thing more is told. -/
def AppStep (P : Program) (N sv st si m : Nat) (c : Code) (k o : Nat) (t : Ty) (g : V → T) : Prop :=
  ∀ (e : TEnv) (K : Act → World → Prop) (Q : Exit → Act → World → Prop) (a : Act) (w : World) (ts : List Slot) (s1 : Nat) (b : Bool) (lv : Value) (l : List T) (x : V) (j : Nat) (y : V),
    a.tmps.size = N → get a sv = .pointer (some ⟨e.pb, e.po, none⟩) → get a st = .pointer (some ⟨e.tb, 0, none⟩) → get a si = .int .i64 j →
    TM w e (.slice none 0 0) ts s1 → ts[k]? = some (.raw (lCells b lv)) → LOwn w (From s1 w) lv l → FldAt w e o (.arr t) x → x.items[j]? = some y → k < e.n → l.length < 4294967296 →
    (∀ a' w' lv', Kept m a a' → (∃ r : List Rng, (∀ x ∈ r, s1 ≤ x.b) ∧ Fr (⟨e.lb, k * 5, k * 5 + 5⟩ :: r) w w') → TM w' e (.slice none 0 0) (ts.set k (.raw (lCells b lv'))) s1 → LOwn w' (From s1 w') lv' (l ++ [g y]) → K a' w') →
    c.wp P (Exit.then K Q) a w

/-- The list's slice, stored into its place. -/
theorem TM.setL {w : World} {e : TEnv} {ts : List Slot} {k hi : Nat} {b : Bool} {lv lv' : Value} (h : TM w e (.slice none 0 0) ts hi) (hk : k < e.n) (hy : ts[k]? = some (.raw (lCells b lv))) (h1 : lv'.oneCell' = true) :
    TM (w.setCell ⟨e.lb, k * 5 + 3, none⟩ lv') e (.slice none 0 0) (ts.set k (.raw (lCells b lv'))) hi ∧ Fr [⟨e.lb, k * 5, k * 5 + 5⟩] w (w.setCell ⟨e.lb, k * 5 + 3, none⟩ lv') := by
  have hs := Fr.set w e.lb (k * 5 + 3) lv'
  have hth : w.there e.lb (k * 5) 5 := there_part h.thL (by omega) (by omega)
  obtain ⟨es, h4, rfl, _⟩ := h.els k _ hy
  refine ⟨h.cells (y := .raw (lCells b lv')) (cs := lCells b lv') hk hs (by omega) (by omega) ?_ ⟨rfl, rfl, by simp [lCells, Value.oneCell'] at h1 ⊢; exact h1⟩, hs.mono ?_⟩
  · simp only [lCells, range_cons] at h4 ⊢
    obtain ⟨c0, c1, c2, c3, c4, _⟩ := h4
    exact ⟨hs.cell c0 (.cons (.inr (.inl (by simp only; omega))) .nil), hs.cell c1 (.cons (.inr (.inl (by simp only; omega))) .nil), hs.cell c2 (.cons (.inr (.inl (by simp only; omega))) .nil), range_set (there_part hth (by omega) (by omega)), hs.cell c4 (.cons (.inr (.inr (by simp only; omega))) .nil), range_nil⟩
  · intro r hr; simp at hr; subst hr
    exact .inr ⟨⟨e.lb, k * 5, k * 5 + 5⟩, by simp, rfl, by simp, by simp only; omega⟩

variable {P : Program} {TT TL S TS : TypeId} {N sv st si m n k o kf id id2 : Nat}

/-- 'append(t.L[k].L, tell(&v.F[i]))': the call, then the slice that is appended. -/
theorem app_call2 {t : Ty} {f : FuncId} {g : V → T} {ats : Array TypeId} (hT : TreeTys P TT TL) (hf : TellM P f t g)
    {t0 t1 t2 t3 t4 t5 t6 t7 t8 t9 t10 t11 t12 t13 t14 t15 t16 t17 t18 : TypeId} {p0 p1 p2 p3 p4 p5 p6 p7 p8 p9 p10 p11 p12 p13 p14 p15 p16 p17 p18 : String} {e0 e1 e2 e3 e4 e5 e6 e7 e8 e9 e10 e11 e12 e13 e14 e15 e16 e17 e18 : Array Edge}
    (he : edgeOk 0 [e0, e1, e2, e3, e4, e5, e6, e7, e8, e9, e10, e11, e12, e13, e14, e15, e16, e17, e18] [[], [0], [], [2], [3], [4], [5], [], [7], [8], [9], [], [10, 11], [12], [13], [6, 14], [1], [16], [0, 1, 2, 3, 4, 5, 6, 7, 8, 9, 10, 11, 12, 13, 14, 15, 16, 17]] = true)
    (hS : fieldOf P S kf o = true) (hTS0 : sliceN P TS t.size = true) (hscl : scal P TS = true)
    (hb : (decide (sv < n) && decide (st < n) && decide (si < n) && decide (m ≤ n) && decide (n + 18 ≤ N)) = true) :
    AppStep P N sv st si m (Code.region id ⟨[⟨some n, .fieldAddr TT (.tmp st) 3, t0, p0, e0, none⟩, ⟨some (n + 1), .load TL (.tmp n), t1, p1, e1, none⟩, ⟨some (n + 2), .fieldAddr TT (.tmp st) 3, t2, p2, e2, none⟩, ⟨some (n + 3), .load TL (.tmp (n + 2)), t3, p3, e3, none⟩,
      ⟨some (n + 4), .indexAddr TL (.tmp (n + 3)) (.const (.int .i64 k)), t4, p4, e4, none⟩, ⟨some (n + 5), .fieldAddr TT (.tmp (n + 4)) 3, t5, p5, e5, none⟩, ⟨some (n + 6), .load TL (.tmp (n + 5)), t6, p6, e6, none⟩,
      ⟨some (n + 7), .move (.tmp sv), t7, p7, e7, none⟩, ⟨some (n + 8), .nilCheck (.tmp (n + 7)), t8, p8, e8, none⟩, ⟨some (n + 9), .fieldAddr S (.tmp (n + 8)) kf, t9, p9, e9, none⟩, ⟨some (n + 10), .load TS (.tmp (n + 9)), t10, p10, e10, none⟩,
      ⟨some (n + 11), .move (.tmp si), t11, p11, e11, none⟩, ⟨some (n + 12), .indexAddr TS (.tmp (n + 10)) (.tmp (n + 11)), t12, p12, e12, none⟩, ⟨some (n + 13), .call ⟨.value (.func f), #[.tmp (n + 12)], ats⟩, t13, p13, e13, none⟩,
      ⟨some (n + 14), .buildSlice TL 1 #[(0, .tmp (n + 13))], t14, p14, e14, none⟩, ⟨some (n + 15), .call ⟨.builtin .append, #[.tmp (n + 6), .tmp (n + 14)], #[TL, TL]⟩, t15, p15, e15, none⟩,
      ⟨some (n + 16), .indexAddr TL (.tmp (n + 1)) (.const (.int .i64 k)), t16, p16, e16, none⟩, ⟨some (n + 17), .fieldAddr TT (.tmp (n + 16)) 3, t17, p17, e17, none⟩, ⟨none, .store TL (.tmp (n + 17)) (.tmp (n + 15)), t18, p18, e18, none⟩]⟩ true) k o t g := by
  intro e K Q a w ts s1 b lv l x j y hN hsv hst hsi hm hy hlo hx hj hk hll hK
  obtain ⟨et, es, hTS⟩ := sliceN_is hTS0
  simp only [Bool.and_eq_true, decide_eq_true_eq] at hb
  obtain ⟨⟨⟨⟨b1, b2⟩, b3⟩, b4⟩, b5⟩ := hb
  obtain ⟨c, hc, hrc⟩ := hx.one rfl
  obtain ⟨q, cap, rfl, hq, _, hel⟩ := arr_cell hrc
  have hjl : j < x.items.length := (List.getElem?_eq_some_iff.1 hj).1
  obtain ⟨qa, rfl⟩ : ∃ qa, q = some qa := by
    cases q with
    | some qa => exact ⟨qa, rfl⟩
    | none => cases x <;> simp [V.isNil] at hq; simp [V.items] at hjl
  obtain ⟨sb, so, rfl, hB, hels⟩ := hel _ rfl
  obtain ⟨ce, hce, hcl, hre⟩ := hels j y hj
  have hBs := hm.bs sb hB
  have hs01 : e.s0 ≤ s1 := hm.s0
  have hs1 : s1 ≤ w.heap.size := hm.top
  have hsp : ∀ r ∈ spare lv 5, From s1 w r.b := hlo.spare_in
  have hpb : e.pb < e.s0 := hm.ps
  have hfp : ∀ w', Fr (spare lv 5) w w' → w'.cell? ⟨e.pb, e.po + o, none⟩ = some (.slice (some ⟨sb, so, none⟩) x.items.length cap) := fun w' hf' => hf'.cell hc (fun r hr => .inl (by have := hsp r hr; unfold From at this; omega))
  have hzero := hT.zero
  refine wp_drawE (os := [⟨some n, .fieldAddr TT (.tmp st) 3, t0, p0, e0, none⟩, ⟨some (n + 1), .load TL (.tmp n), t1, p1, e1, none⟩, ⟨some (n + 2), .fieldAddr TT (.tmp st) 3, t2, p2, e2, none⟩, ⟨some (n + 3), .load TL (.tmp (n + 2)), t3, p3, e3, none⟩,
      ⟨some (n + 4), .indexAddr TL (.tmp (n + 3)) (.const (.int .i64 k)), t4, p4, e4, none⟩, ⟨some (n + 5), .fieldAddr TT (.tmp (n + 4)) 3, t5, p5, e5, none⟩, ⟨some (n + 6), .load TL (.tmp (n + 5)), t6, p6, e6, none⟩,
      ⟨some (n + 7), .move (.tmp sv), t7, p7, e7, none⟩, ⟨some (n + 8), .nilCheck (.tmp (n + 7)), t8, p8, e8, none⟩, ⟨some (n + 9), .fieldAddr S (.tmp (n + 8)) kf, t9, p9, e9, none⟩, ⟨some (n + 10), .load TS (.tmp (n + 9)), t10, p10, e10, none⟩,
      ⟨some (n + 11), .move (.tmp si), t11, p11, e11, none⟩, ⟨some (n + 12), .indexAddr TS (.tmp (n + 10)) (.tmp (n + 11)), t12, p12, e12, none⟩, ⟨some (n + 13), .call ⟨.value (.func f), #[.tmp (n + 12)], ats⟩, t13, p13, e13, none⟩,
      ⟨some (n + 14), .buildSlice TL 1 #[(0, .tmp (n + 13))], t14, p14, e14, none⟩, ⟨some (n + 15), .call ⟨.builtin .append, #[.tmp (n + 6), .tmp (n + 14)], #[TL, TL]⟩, t15, p15, e15, none⟩,
      ⟨some (n + 16), .indexAddr TL (.tmp (n + 1)) (.const (.int .i64 k)), t16, p16, e16, none⟩, ⟨some (n + 17), .fieldAddr TT (.tmp (n + 16)) 3, t17, p17, e17, none⟩])
    [spC [] (.pointer (some ⟨e.tb, 0 + 3, none⟩)), spC [0] (.slice (some ⟨e.lb, 0, none⟩) e.n e.n), spC [] (.pointer (some ⟨e.tb, 0 + 3, none⟩)), spC [2] (.slice (some ⟨e.lb, 0, none⟩) e.n e.n),
      spC [3] (.pointer (some ⟨e.lb, 0 + (k : Int).toNat * 5, none⟩)), spC [4] (.pointer (some ⟨e.lb, 0 + (k : Int).toNat * 5 + 3, none⟩)), spC [5] lv,
      spC [] (.pointer (some ⟨e.pb, e.po, none⟩)), spC [7] (.pointer (some ⟨e.pb, e.po, none⟩)), spC [8] (.pointer (some ⟨e.pb, e.po + o, none⟩)), spC [9] (.slice (some ⟨sb, so, none⟩) x.items.length cap),
      spC [] (.int .i64 j), spC [10, 11] (.pointer (some ⟨sb, so + (j : Int).toNat * t.size, none⟩)), spR [12] (fun v w' => ∃ cs : List Value, v = .agg cs.toArray ∧ RepT w' (From w.heap.size w') cs (g y)),
      spR [13] (fun v w' => ∃ (b : Nat) (cs : List Value), v = .slice (some ⟨b, 0, none⟩) 1 1 ∧ w.heap.size ≤ b ∧ w'.rangeAt b 0 cs ∧ RepT w' (From w.heap.size w') cs (g y)),
      spW [6, 14] (fun v w' => LOwn w' (From s1 w') v (l ++ [g y])),
      spC [1] (.pointer (some ⟨e.lb, 0 + (k : Int).toNat * 5, none⟩)), spC [16] (.pointer (some ⟨e.lb, 0 + (k : Int).toNat * 5 + 3, none⟩))] n (spare lv 5) hT.mixed he (by simp [shape]) rfl
    (by simp [spC, spR, spW]) (by simp; omega)
    ⟨lasts_c _ _ _, lasts_c _ _ _, lasts_c _ _ _, lasts_c _ _ _, lasts_c _ _ _, lasts_c _ _ _, lasts_c _ _ _, lasts_c _ _ _, lasts_c _ _ _, lasts_c _ _ _, lasts_c _ _ _, lasts_c _ _ _, lasts_c _ _ _, ?_, ?_, ?_, lasts_c _ _ _, lasts_c _ _ _, trivial⟩ ?_ ?_
  · rintro v w1 w2 hf12 ⟨cs, h1, h2⟩
    exact ⟨cs, h1, h2.kept hf12 (fun r hr hF => by have := hsp r hr; unfold From at this hF; omega) (From.mono hf12.size)⟩
  · rintro v w1 w2 hf12 ⟨b, cs, h1, h2, h3, h4⟩
    exact ⟨b, cs, h1, h2, hf12.range h3 (fun r hr => .inl (by have := hsp r hr; unfold From at this; omega)), h4.kept hf12 (fun r hr hF => by have := hsp r hr; unfold From at this hF; omega) (From.mono hf12.size)⟩
  · intro v w1 w2 hf12 h1
    have hf12 : Fr [] w1 w2 := hf12
    have h1 : LOwn w1 (From s1 w1) v (l ++ [g y]) := h1
    exact h1.kept hf12 (by simp) (From.mono hf12.size)
  · refine ⟨op_c fun a' w' hk' hf' hd' K' hK' => ?_, op_c fun a' w' hk' hf' hd' K' hK' => ?_, op_c fun a' w' hk' hf' hd' K' hK' => ?_, op_c fun a' w' hk' hf' hd' K' hK' => ?_, op_c fun a' w' hk' hf' hd' K' hK' => ?_,
      op_c fun a' w' hk' hf' hd' K' hK' => ?_, op_c fun a' w' hk' hf' hd' K' hK' => ?_, op_c fun a' w' hk' hf' hd' K' hK' => ?_, op_c fun a' w' hk' hf' hd' K' hK' => ?_, op_c fun a' w' hk' hf' hd' K' hK' => ?_,
      op_c fun a' w' hk' hf' hd' K' hK' => ?_, op_c fun a' w' hk' hf' hd' K' hK' => ?_, op_c fun a' w' hk' hf' hd' K' hK' => ?_, op_r fun a' w' hk' hf' hd' K' hK' => ?_, op_r fun a' w' hk' hf' hd' K' hK' => ?_,
      op_w fun a' w' hk' hf' hd' K' hK' => ?_, op_c fun a' w' hk' hf' hd' K' hK' => ?_, op_c fun a' w' hk' hf' hd' K' hK' => ?_, trivial⟩
    · exact wp_fieldAddr (hT.flat.field (by decide)) (by rw [eval_tmp, hk'.get st b2, hst]) hK'
    · exact wp_load hT.scl (by rw [eval_tmp]; exact hd'.c 0 (by simp) rfl) ((hm.kept hf' (fun r hr => (hsp r hr).1)).tree 3 _ rfl) hK'
    · exact wp_fieldAddr (hT.flat.field (by decide)) (by rw [eval_tmp, hk'.get st b2, hst]) hK'
    · exact wp_load hT.scl (by rw [eval_tmp]; exact hd'.c 2 (by simp) rfl) ((hm.kept hf' (fun r hr => (hsp r hr).1)).tree 3 _ rfl) hK'
    · exact wp_indexAddr hT.sl (by rw [eval_tmp]; exact hd'.c 3 (by simp) rfl) rfl (by omega) (by omega) hK'
    · exact wp_fieldAddr (hT.flat.field (by decide)) (by rw [eval_tmp]; exact hd'.c 4 (by simp) rfl) hK'
    · obtain ⟨es, h4, rfl, _⟩ := (hm.kept hf' (fun r hr => (hsp r hr).1)).els k _ hy
      refine wp_load hT.scl (by rw [eval_tmp]; exact hd'.c 5 (by simp) rfl) ?_ hK'
      have := h4 3 lv rfl
      simpa using this
    · rw [wp_move, eval_tmp, hk'.get sv b1, hsv]; exact hK'
    · exact wp_nilCheck (by rw [eval_tmp]; exact hd'.c 7 (by simp) rfl) hK'
    · exact wp_fieldAddr hS (by rw [eval_tmp]; exact hd'.c 8 (by simp) rfl) hK'
    · exact wp_load hscl (by rw [eval_tmp]; exact hd'.c 9 (by simp) rfl) (hfp w' hf') hK'
    · rw [wp_move, eval_tmp, hk'.get si b3, hsi]; exact hK'
    · exact wp_indexAddr hTS (by rw [eval_tmp]; exact hd'.c 10 (by simp) rfl) (by rw [eval_tmp]; exact hd'.c 11 (by simp) rfl) (by omega) (by omega) hK'
    · have hx12 : get a' (n + 12) = .pointer (some ⟨sb, so + j * t.size, none⟩) := by
        have := hd'.c (nd' := [10, 11]) (x := .pointer (some ⟨sb, so + (j : Int).toNat * t.size, none⟩)) 12 (by simp) rfl
        rw [this]; simp
      have hwf := hf'.size
      refine wp_calls hf.enters (vs := #[.pointer (some ⟨sb, so + j * t.size, none⟩)]) (by simp [eval_tmp, hx12]) (R := fun v w2 => ∃ cs : List Value, v = .agg cs.toArray ∧ Fr [] w' w2 ∧ RepT w2 (From w'.heap.size w2) cs (g y)) ?_ ?_
      · have hB0 : ∀ b, e.B b → b < w'.heap.size := fun b hb => by have := hm.bs b hb; omega
        refine (hf.call w' sb (so + j * t.size) ce y e.B (hf'.range hce ?_) (hre.kept hf' ?_ (fun _ h => h)) hB0 (hB0 sb hB)).mono ?_
        · intro r hr; left; have := hsp r hr; unfold From at this; omega
        · intro r hr hBr; have := hsp r hr; unfold From at this; have := hm.bs _ hBr; omega
        · rintro e' w2 ⟨cs, rfl, h1, h2⟩
          exact ⟨_, rfl, cs, rfl, h1, h2⟩
      · rintro v w2 ⟨cs, rfl, h1, h2⟩
        exact hK' _ _ ⟨cs, rfl, h2.kept (Fr.refl [] w2) (by simp) (fun b hb => ⟨by have := hb.1; omega, hb.2⟩)⟩ h1
    · obtain ⟨cs, h1, h2⟩ := hd'.at (d := 13) (by simp) rfl
      have hwf := hf'.size
      refine wp_slice1 hT.sl hzero rfl (by omega) (cs := cs) (by rw [eval_tmp, h1]; rfl) h2.length fun _ => ?_
      have hal := Fr.alloc [] w' (.cells cs.toArray TT)
      exact hK' _ _ ⟨_, cs, rfl, hwf, range_new w' cs.toArray TT (0, 0), h2.kept hal (by simp) (From.mono hal.size)⟩ hal
    · obtain ⟨bb, cs, h1, h2, h3, h4⟩ := hd'.at (d := 14) (by simp) rfl
      have hlv : get a' (n + 6) = lv := hd'.c 6 (by simp) rfl
      have hwf := hf'.size
      obtain ⟨flat, ho1, ho2⟩ := hlo.spares hf' (A' := From s1 w') (From.mono hf'.size)
      have hc4 := h4.length
      refine wp_append (A := From s1 w') (z := zT) hT.sl hzero rfl (by rw [eval_tmp, hlv]) (by rw [eval_tmp, h1]) ho1 (by omega) (news := cs) (by omega) h3 h4.ones (by omega) (by simp only [maxLen]; omega) ?_
      intro v' w2 hf2 ho' hbk
      refine hK' _ _ ?_ hf2
      have hf2s := hf2.size
      refine LOwn.app (A' := From s1 w2) ho2 ho1 hf2 ?_ hbk (fun b hb => ⟨From.mono hf2s b hb, hb.2⟩) h4 ?_
      · obtain ⟨ha, hb⟩ := ho'
        refine ⟨ha, hb.imp (fun h => h) ?_⟩
        rintro ⟨g', o', cap', hg', hrest⟩
        refine ⟨g', o', cap', ?_, hrest⟩
        rcases hg' with hg' | hg'
        · exact From.mono hf2s _ hg'
        · exact ⟨by have := hg'.1; omega, hg'.2⟩
      · intro b hb
        refine ⟨⟨by have := hb.1; omega, hb.2⟩, fun hbl => ?_⟩
        have := (hlo.blk_in hbl).2
        have := hb.1
        omega
    · exact wp_indexAddr hT.sl (by rw [eval_tmp]; exact hd'.c 1 (by simp) rfl) rfl (by omega) (by omega) hK'
    · exact wp_fieldAddr (hT.flat.field (by decide)) (by rw [eval_tmp]; exact hd'.c 16 (by simp) rfl) hK'
  · intro a' w' hk' hf' hd'
    have h17 : get a' (n + 17) = .pointer (some ⟨e.lb, k * 5 + 3, none⟩) := by
      have := hd'.c (nd' := [16]) (x := .pointer (some ⟨e.lb, 0 + (k : Int).toNat * 5 + 3, none⟩)) 17 (by simp) rfl
      rw [this]; simp
    have h15 : LOwn w' (From s1 w') (get a' (n + 15)) (l ++ [g y]) := hd'.at (d := 15) (by simp) rfl
    have hmw := hm.kept hf' (fun r hr => (hsp r hr).1)
    have hth : w'.there e.lb (k * 5) 5 := there_part hmw.thL (by omega) (by omega)
    refine wp_store hT.scl (by rw [eval_tmp, h17]) rfl h15.one (there_part hth (by omega) (by omega)) ?_
    obtain ⟨h5, h6⟩ := hmw.setL hk hy h15.one
    refine hK _ _ _ (hk'.mono b4) ⟨spare lv 5, fun r hr => (hsp r hr).1, ?_⟩ h5 (h15.kept h6 ?_ (From.mono h6.size))
    · refine (hf'.mono (l' := ⟨e.lb, k * 5, k * 5 + 5⟩ :: spare lv 5) (fun r hr => Rng.in_self (List.mem_cons_of_mem _ hr))).trans h6 ?_
      intro r hr; simp at hr; subst hr; exact Rng.in_self (by simp)
    · intro r hr hF; simp at hr; subst hr; have := hF.1; have := hm.ls; simp only at *; omega

end Go.Kq
