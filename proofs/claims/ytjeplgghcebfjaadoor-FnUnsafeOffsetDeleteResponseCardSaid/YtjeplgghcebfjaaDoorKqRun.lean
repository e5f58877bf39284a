/- A whole reading function: its fields, and its end. -/
import Derived.Test.YtjeplgghcebfjaaDoorKqLst
namespace Go.Kq
open Go Go.Proofs

def Run (P : Program) (ge : Nat) (cx : Cx) (c : Code) (o : Nat) (tys : List Ty) (ds : List V) (f : Rd) : Prop :=
  ∀ (e : Env) (pb po : Nat) (Q : Exit → Act → World → Prop) (a : Act) (w : World) (st : RSt),
    Slots cx e pb po a → Mem e pb po ge w st → w.there pb (po + o) (Ty.sizes tys) → (∃ z, w.rangeAt pb (po + o) z ∧ Reps w NoFoot tys z ds) →
    (∀ a' w' xs st', f e.ver e.flex st = some (.l xs, st') → a'.tmps.size = cx.N → a'.defers = [] → get a' cx.tr = (if st'.bad then e.er else .nilIface) → Fr [⟨e.rb, 0, 2⟩, ⟨pb, po + o, po + o + Ty.sizes tys⟩] w w' →
      (∃ z, w'.rangeAt pb (po + o) z ∧ Reps w' (Foot e.sb w.heap.size w'.heap.size) tys z xs) → Q .ret a' w') →
    (f e.ver e.flex st = none → ∀ a' w', a'.tmps.size = cx.N → a'.defers = [] → get a' cx.tr = e.er → Fr [⟨e.rb, 0, 2⟩, ⟨pb, po + o, po + o + Ty.sizes tys⟩] w w' → Q .ret a' w') →
    c.wp P Q a w

theorem then_id {Q : Exit → Act → World → Prop} {c : Code} {P : Program} {a : Act} {w : World} (h : c.wp P (Exit.then (Q .normal) Q) a w) : c.wp P Q a w :=
  wp_mono h fun e _ _ h => by cases e <;> exact h

/-- 'return b.Complete()' -/
theorem run_end {P : Program} {ge : Nat} {cx : Cx} {fc : FuncId} {n o i1 : Nat} {t1 t2 : TypeId} {p1 p2 : String} {e1 e2 : Array Edge} {a1 : Array TypeId}
    (hc : CompleteM P ge fc) (hb : (decide (n < cx.N) && decide (cx.tr < cx.N)) = true) :
    Run P ge cx (.seq (Code.region i1 ⟨[⟨some n, .call ⟨.value (.func fc), #[.tmp cx.tb], a1⟩, t1, p1, e1, none⟩, ⟨some cx.tr, .assign (.tmp n), t2, p2, e2, none⟩]⟩ false) .ret) o [] [] rdSt0 := by
  intro e pb po Q a w st hs hm ht hz hk hq
  simp only [Bool.and_eq_true, decide_eq_true_eq] at hb
  obtain ⟨b1, b2⟩ := hb
  have hN := hs.size
  refine then_id (wp_seq_k fun K1 hK1 => ?_)
  refine r_call (m := 0) (R := fun x w' => x = (if st.bad then e.er else .nilIface) ∧ w' = w) hc.enters hs.b ((hc.call w e.rb e.sb st e.er hm.rw hm.er).mono (by rintro e' w' ⟨h1, h2⟩; exact ⟨_, h1, rfl, h2⟩)) (by omega) (by omega) (by omega) (by omega) ?_
  rintro a2 x w' ⟨rfl, rfl⟩ k2 g2
  refine hK1 a2 w' (wp_ret ?_)
  refine hk a2 w' [] st rfl (by rw [k2.size, hN]) (by rw [k2.defers, hs.defers]) g2 (Fr.refl _ _) ⟨[], range_nil, rfl, rfl⟩

theorem Run.cons {P : Program} {ge : Nat} {cx : Cx} {m : Nat} {c c' : Code} {o o' : Nat} {ty : Ty} {dv : V} {f g : Rd} {ts : List Ty} {ds : List V}
    (h : Fld P ge cx m c o ty dv f) (h' : Run P ge cx c' o' ts ds g) (ho : o' = o + ty.size) (hb : cx.below m = true) (hn : 0 < ty.size) (hg0 : ∀ ver fl s y s', g ver fl s = some (y, s') → ∃ ys, y = .l ys) :
    Run P ge cx (.seq c c') o (ty :: ts) (dv :: ds) (rdCons f g) := by
  intro e pb po Q a w st hs hm0 ht hz hk hq
  subst ho
  have hsz : Ty.sizes (ty :: ts) = ty.size + Ty.sizes ts := by simp [Ty.sizes]
  simp only [hsz] at ht hk hq
  obtain ⟨z, hz1, hz2⟩ := hz
  obtain ⟨c1, c2, x, r, rfl, hxs, h1, h2⟩ := hz2
  simp at hxs
  obtain ⟨rfl, rfl⟩ := hxs
  rw [range_append] at hz1
  have hl1 := h1.length
  have hpb : pb < w.heap.size := there_lt ht (by omega)
  have hrbw : e.rb < w.heap.size := lt_of_cell (range_cons.1 hm0.rw.2.2.choose_spec.1).1
  have first : ∀ w1, Fr [⟨e.rb, 0, 2⟩, ⟨pb, po + o, po + o + ty.size⟩] w w1 → Fr [⟨e.rb, 0, 2⟩, ⟨pb, po + o, po + o + (ty.size + Ty.sizes ts)⟩] w w1 := by
    intro w1 hfr
    refine hfr.mono ?_
    intro r hr
    simp at hr
    rcases hr with rfl | rfl
    · exact .inr ⟨_, by simp, rfl, by simp, by simp⟩
    · exact .inr ⟨⟨pb, po + o, po + o + (ty.size + Ty.sizes ts)⟩, by simp, rfl, by simp, by simp <;> omega⟩
  have both : ∀ w1 w2, Fr [⟨e.rb, 0, 2⟩, ⟨pb, po + o, po + o + ty.size⟩] w w1 → Fr [⟨e.rb, 0, 2⟩, ⟨pb, po + (o + ty.size), po + (o + ty.size) + Ty.sizes ts⟩] w1 w2 → Fr [⟨e.rb, 0, 2⟩, ⟨pb, po + o, po + o + (ty.size + Ty.sizes ts)⟩] w w2 := by
    intro w1 w2 hfr hfr2
    refine (first w1 hfr).trans hfr2 ?_
    intro r hr
    simp at hr
    rcases hr with rfl | rfl
    · exact .inr ⟨_, by simp, rfl, by simp, by simp⟩
    · exact .inr ⟨⟨pb, po + o, po + o + (ty.size + Ty.sizes ts)⟩, by simp, rfl, by simp <;> omega, by simp <;> omega⟩
  refine then_id (wp_seq_k fun K1 hK1 => ?_)
  refine h e pb po K1 (Exit.then (Q .normal) Q) a w st hs hm0 (there_part ht (by omega) (by omega)) ⟨c1, hz1.1, h1⟩ ?_ ?_
  · rintro a1 w1 x st1 hf hka hrw hfr ⟨z1, hz3, hz4⟩
    refine hK1 a1 w1 (wp_mono (show Code.wp P c' Q a1 w1 from ?_) (fun e _ _ h => by cases e <;> exact h))
    have hm1 : Mem e pb po ge w1 st1 := hm0.kept hfr (by simp) hrw
    have hap : Apart [⟨e.rb, 0, 2⟩, ⟨pb, po + o, po + o + ty.size⟩] pb (po + o + ty.size) (po + o + ty.size + c2.length) :=
      .cons (.inl (fun h => hm0.pr h.symm)) (.cons (.inr (.inr (by simp))) .nil)
    refine h' e pb po Q a1 w1 st1 (hs.kept hb hka) hm1 ?_ ⟨c2, ?_, ?_⟩ ?_ ?_
    · have := hfr.there (there_part ht (o' := po + o + ty.size) (n' := Ty.sizes ts) (by omega) (by omega))
      rwa [show po + (o + ty.size) = po + o + ty.size from by omega]
    · have := hfr.range (cs := c2) (b := pb) (o := po + o + ty.size) (by have := hz1.2; rwa [hl1] at this) hap
      rwa [show po + (o + ty.size) = po + o + ty.size from by omega]
    · exact Reps.kept hfr (fun _ _ h => h) (fun _ h => h) h2
    · rintro a2 w2 ys st2 hg hN2 hd2 hr2 hfr2 ⟨z2, hz5, hz6⟩
      refine hk a2 w2 (x :: ys) st2 ?_ hN2 hd2 hr2 (both w1 w2 hfr hfr2) ⟨z1 ++ z2, ?_, z1, z2, x, ys, rfl, rfl, ?_, ?_⟩
      · simp [rdCons, hf, hg, consV]
      · rw [range_append]
        have hl3 := hz4.length
        refine ⟨hfr2.range hz3 (.cons (.inl (fun h => hm0.pr h.symm)) (.cons (.inr (.inl (by simp <;> omega))) .nil)), ?_⟩
        rw [hl3]
        rwa [show po + (o + ty.size) = po + o + ty.size from by omega] at hz5
      · refine Rep.kept hfr2 ?_ (fun b hb => hb.mono (Nat.le_refl _) hfr2.size) hz4
        intro r hr hF
        simp at hr
        rcases hr with rfl | rfl
        · rcases hF with hF | ⟨hF, _⟩
          · exact hm0.rw.1 hF
          · simp at hF; omega
        · rcases hF with hF | ⟨hF, _⟩
          · exact hm0.ps hF
          · simp at hF; omega
      · exact Reps.kept (Fr.refl [] w2) (by simp) (fun b hb => hb.mono hfr.size (Nat.le_refl _)) hz6
    · intro hg a2 w2 hN hd hr hfr2
      exact hq (by simp [rdCons, hf, hg]) a2 w2 hN hd hr (both w1 w2 hfr hfr2)
  · intro hf a1 w1 hN hd hr hfr
    exact hq (by simp [rdCons, hf]) a1 w1 hN hd hr (first w1 hfr)

/-! ### the reader is made -/
/-- The reader's type. -/
def readerTy (P : Program) (T : TypeId) : Prop :=
  zeroOf P T (.agg #[.slice none 0 0, .bool false]) ∧ aggr P T 2 = true ∧ ∃ f0 f1 i0 i1, P.underlying T = some (.struct #[f0, f1]) ∧ f0.offset = 0 ∧ f1.offset = 1 ∧ P.info? f0.type = some i0 ∧ i0.size = 1 ∧ P.info? f1.type = some i1 ∧ i1.size = 1

theorem run_buildReader {P : Program} {T : TypeId} {v : Value} {w : World} (h : readerTy P T) (h1 : v.oneCell' = true) : (Instr.build T #[(0, v)]).run P w = .ok (.agg #[v, .bool false]) w := by
  obtain ⟨⟨i, hi, hz⟩, _, f0, f1, i0, i1, hu, h0, h2, h3, h4, h5, h6⟩ := h
  have hc : v.cells = #[v] := by cases v <;> first | rfl | (simp [Value.oneCell'] at h1)
  have hza : (Value.agg #[.slice none 0 0, .bool false]).cells = #[.slice none 0 0, .bool false] := rfl
  simp [Instr.build, zero_of hi hz, run_underlying hu, sizeOf, typeInfo, h3, h5, h4, h6, h0, h2, Instr.fill, hc, hza]

variable {P : Program} {a : Act} {w : World} {K : Act → World → Prop} {Q : Exit → Act → World → Prop}

theorem wp_build {o : Operand} {d : Option Tmp} {t : TypeId} {p : String} {af : Array Edge} {g : Option (Nat × Bool)} {T : TypeId} {v : Value} (h : readerTy P T) (h1 : v.oneCell' = true) (ho : a.eval o = v) (k : K (a.put d (.agg #[v, .bool false])) w) :
    OW P ⟨d, .build T #[(0, o)], t, p, af, g⟩ a w K Q := by
  refine wp_val (v := .agg #[v, .bool false]) (w' := w) ?_ k
  simp [execOp, ho, run_buildReader h h1]

/-- 'b := kbin.Reader{Src: src}' -/
theorem r_reader {id n v b m : Nat} {T : TypeId} {t1 t2 t3 t4 : TypeId} {p1 p2 p3 p4 : String} {e1 e2 e3 e4 : Array Edge} {x : Value} (hT : readerTy P T) (hv : get a v = x) (h1 : x.oneCell' = true)
    (hn : n + 1 < a.tmps.size) (hbn : b < n) (hm : m ≤ n) (hmb : m ≤ b)
    (hk : ∀ a' w' rb, Kept m a a' → get a' b = .pointer (some ⟨rb, 0, none⟩) → rb = w.heap.size → rb < w'.heap.size → Fr [] w w' → w'.rangeAt rb 0 [x, .bool false] → w'.there rb 0 2 → K a' w') :
    (Code.region id ⟨[⟨some n, .move (.tmp v), t1, p1, e1, none⟩, ⟨some (n + 1), .build T #[(0, .tmp n)], t2, p2, e2, none⟩, ⟨some b, .alloc T, t3, p3, e3, none⟩, ⟨none, .store T (.tmp b) (.tmp (n + 1)), t4, p4, e4, none⟩]⟩ false).wp P (Exit.then K Q) a w := by
  refine wp_reg ?_
  rw [wpl_cons, wp_move, eval_tmp, hv, wpl_cons]
  refine wp_build hT h1 (by rw [eval_tmp, get_put_same (by omega)]) ?_
  rw [wpl_cons]
  refine wp_alloc hT.1 ?_
  rw [wpl_cons]
  have hg : (((a.put (some n) x).put (some (n + 1)) (.agg #[x, .bool false])).put (some b) (.pointer (some ⟨w.heap.size, 0, none⟩))).eval (.tmp b) = .pointer (some ⟨w.heap.size, 0, none⟩) := by
    rw [eval_tmp, get_put_same (by simp only [size_put]; omega)]
  have hg2 : (((a.put (some n) x).put (some (n + 1)) (.agg #[x, .bool false])).put (some b) (.pointer (some ⟨w.heap.size, 0, none⟩))).eval (.tmp (n + 1)) = .agg #[x, .bool false] := by
    rw [eval_tmp, get_put_ne (by omega), get_put_same (by simp only [size_put]; omega)]
  have hth : (w.alloc (.cells (Value.agg #[.slice none 0 0, .bool false]).cells T)).there w.heap.size 0 2 := there_new w #[.slice none 0 0, .bool false] T
  have hag := hT.2.1
  unfold aggr at hag
  simp only [Bool.and_eq_true, beq_iff_eq] at hag
  constructor
  refine wp_store_mid T (.tmp b) (.tmp (n + 1)) rfl w.heap.size 0 #[x, .bool false] hg hg2 hth hag.2 (by rw [Array.all_eq_true_iff_forall_mem]; intro u hu; simp at hu; rcases hu with rfl | rfl <;> first | exact h1 | rfl) ?_
  have f1 := Fr.alloc [] w (.cells (Value.agg #[.slice none 0 0, .bool false]).cells T)
  have f2 := Fr.sets w.heap.size [x, .bool false] (w.alloc (.cells (Value.agg #[.slice none 0 0, .bool false]).cells T)) 0
  refine hk _ _ w.heap.size (((Kept.put0 hm _).put (by omega) _).put hmb _) (get_put_same (by simp only [size_put]; omega)) rfl ?_ (f1.trans f2 ?_) ?_ (f2.there hth)
  · have := f2.size; rw [size_alloc] at this; exact Nat.lt_of_lt_of_le (Nat.lt_succ_self _) this
  · intro r hr; simp at hr; subst hr; exact .inl (Nat.le_refl _)
  · exact World.rangeAt_setCells_same _ _ _ _ hth

end Go.Kq
