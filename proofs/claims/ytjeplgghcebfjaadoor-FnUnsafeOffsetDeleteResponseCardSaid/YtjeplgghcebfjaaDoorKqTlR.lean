/- A function that tells a struct, whole. -/
import Derived.Test.YtjeplgghcebfjaaDoorKqTlP
namespace Go.Kq
open Go Go.Proofs

def slots (l : List T) (n : Nat) : List Slot := l.map .done ++ List.replicate (n - l.length) (.raw zT)
theorem slots_at {l : List T} {n : Nat} (h : l.length < n) : (slots l n)[l.length]? = some (.raw zT) := by
  unfold slots
  rw [List.getElem?_append_right (by simp), List.length_map, Nat.sub_self, List.getElem?_replicate, if_pos (by omega)]
theorem slots_set {l : List T} {n : Nat} {t : T} (h : l.length < n) : (slots l n).set l.length (.done t) = slots (l ++ [t]) n := by
  unfold slots
  rw [List.set_append_right _ _ (by simp)]
  simp only [List.length_map, Nat.sub_self, List.map_append, List.map_cons, List.map_nil, List.append_assoc, List.length_append, List.length_cons, List.length_nil, Nat.zero_add]
  congr 1
  rw [show n - l.length = (n - (l.length + 1)) + 1 from by omega, List.replicate_succ]
  rfl

/-- The cells that lie at a place. -/
def cellsAt (w : World) (b o n : Nat) : List Value := (List.range n).map fun j => (w.cell? ⟨b, o + j, none⟩).getD undef
theorem range_cellsAt {w : World} {b o : Nat} {es : List Value} (h : w.rangeAt b o es) : es = cellsAt w b o es.length := by
  apply List.ext_getElem?
  intro j
  unfold cellsAt
  rw [List.getElem?_map]
  by_cases hj : j < es.length
  · rw [List.getElem?_range hj]
    have := h j es[j] (by simp [hj])
    simp [this, hj]
  · rw [List.getElem?_eq_none (by omega), List.getElem?_eq_none (by simp; omega)]; rfl

def tellAll : List (V → T) → List V → List T
  | g :: gs, x :: xs => g x :: tellAll gs xs
  | _, _ => []

/-- The fields that are still to be told, and the end. -/
def TRun (P : Program) (N sv st tr m : Nat) (c : Code) (k o : Nat) (tys : List Ty) (gs : List (V → T)) : Prop :=
  ∀ (e : TEnv) (Q : Exit → Act → World → Prop) (a : Act) (w : World) (l : List T) (xs : List V) (rb : Nat), e.n ≤ 4294967296 →
    a.tmps.size = N → a.defers = [] → get a sv = .pointer (some ⟨e.pb, e.po, none⟩) → get a st = .pointer (some ⟨e.tb, 0, none⟩) → get a tr = .pointer (some ⟨rb, 0, none⟩) →
    w.there rb 0 5 → rb < e.s0 → rb ≠ e.lb → rb ≠ e.tb → rb ≠ e.pb → ¬ e.B rb →
    TM w e (.slice none 0 0) (slots l e.n) w.heap.size → l.length = k → k + tys.length = e.n → (∃ z, w.rangeAt e.pb (e.po + o) z ∧ Reps w e.B tys z xs) →
    (∀ a' w' cs, a'.defers = [] → get a' tr = .pointer (some ⟨rb, 0, none⟩) → Fr [⟨e.lb, 0, e.n * 5⟩, ⟨rb, 0, 5⟩] w w' → w'.rangeAt rb 0 cs → RepT w' (fun b => b = e.lb ∨ e.A w' b) cs (.mk 0 [] false (l ++ tellAll gs xs) []) → Q .ret a' w') →
    c.wp P Q a w

theorem frame_place {e : TEnv} {rb k : Nat} {w w1 w2 : World} (hk : k < e.n) (h : Fr [⟨e.lb, k * 5, k * 5 + 5⟩] w w1) (h2 : Fr [⟨e.lb, 0, e.n * 5⟩, ⟨rb, 0, 5⟩] w1 w2) : Fr [⟨e.lb, 0, e.n * 5⟩, ⟨rb, 0, 5⟩] w w2 := by
  refine (h.mono ?_).tr h2
  intro r hr; simp at hr; subst hr
  exact .inr ⟨⟨e.lb, 0, e.n * 5⟩, by simp, rfl, by simp, by simp only; omega⟩

theorem TRun.cons {P : Program} {N sv st tr m : Nat} {c c' : Code} {k o o' : Nat} {ty : Ty} {tys : List Ty} {g : V → T} {gs : List (V → T)} (h : Tl P N sv st m c k o ty g) (h' : TRun P N sv st tr m c' (k + 1) o' tys gs) (ho : o' = o + ty.size)
    (hb : (decide (sv < m) && decide (st < m) && decide (tr < m)) = true) :
    TRun P N sv st tr m (.seq c c') k o (ty :: tys) (g :: gs) := by
  intro e Q a w l xs rb hen hN hd hsv hst htr hth hrs hrl hrt hrp hrB hm hl hn ⟨z, hz1, hz2⟩ hK
  subst ho
  simp only [Bool.and_eq_true, decide_eq_true_eq] at hb
  obtain ⟨⟨b1, b2⟩, b3⟩ := hb
  obtain ⟨c1, c2, x, r, rfl, rfl, hr1, hr2⟩ := hz2
  rw [range_append] at hz1
  have hlen := hr1.length
  simp only [List.length_cons] at hn
  have hkn : k < e.n := by omega
  subst hl
  refine then_id (wp_seq_k fun K1 hK1 => ?_)
  refine h e K1 _ a w _ x _ hN hd hsv hst hm (slots_at hkn) trivial ⟨c1, hz1.1, hr1⟩ hkn fun a1 w1 k1 f1 m1 => hK1 a1 w1 (then_up ?_)
  rw [slots_set hkn] at m1
  have hnB : ∀ r ∈ [(⟨e.lb, l.length * 5, l.length * 5 + 5⟩ : Rng)], ¬ e.B r.b := by
    intro r hr hB; simp at hr; subst hr; exact (hm.bs _ hB).2.1 rfl
  refine h' e Q a1 w1 _ r rb hen (k1.size.trans hN) (k1.defers.trans hd) ((k1.get _ b1).trans hsv) ((k1.get _ b2).trans hst) ((k1.get _ b3).trans htr) (f1.there hth) hrs hrl hrt hrp hrB m1 (by simp) (by omega) ⟨c2, ?_, Reps.kept f1 hnB (fun _ h => h) hr2⟩ ?_
  · have := hz1.2
    rw [hlen, show e.po + o + ty.size = e.po + (o + ty.size) from by omega] at this
    exact f1.range this (.cons (.inl fun h => hm.pl h.symm) .nil)
  · intro a2 w2 cs hd2 htr2 f2 hc hr
    refine hK a2 w2 cs hd2 htr2 (frame_place hkn f1 f2) hc ?_
    rw [List.append_assoc] at hr
    exact hr

theorem TRun.cons2 {P : Program} {N sv st tr m : Nat} {c1 c2 c' : Code} {k o o' : Nat} {t : Ty} {tys : List Ty} {g : V → T} {gs : List (V → T)}
    (h1 : TlG P N sv st m c1 k o (.arr t) (fun x => .raw (lCells x.isNil (.slice none 0 0))) (fun _ y => y = .raw zT))
    (h2 : TlG P N sv st m c2 k o (.arr t) (fun x => .done (.mk 0 [] x.isNil (x.items.map g) [])) (fun x y => y = .raw (lCells x.isNil (.slice none 0 0))))
    (h' : TRun P N sv st tr m c' (k + 1) o' tys gs) (ho : o' = o + 1)
    (hb : (decide (sv < m) && decide (st < m) && decide (tr < m)) = true) :
    TRun P N sv st tr m (.seq c1 (.seq c2 c')) k o (.arr t :: tys) ((fun x => .mk 0 [] x.isNil (x.items.map g) []) :: gs) := by
  intro e Q a w l xs rb hen hN hd hsv hst htr hth hrs hrl hrt hrp hrB hm hl hn ⟨z, hz1, hz2⟩ hK
  subst ho
  simp only [Bool.and_eq_true, decide_eq_true_eq] at hb
  obtain ⟨⟨b1, b2⟩, b3⟩ := hb
  obtain ⟨d1, d2, x, r, rfl, rfl, hr1, hr2⟩ := hz2
  rw [range_append] at hz1
  have hlen := hr1.length
  simp only [List.length_cons] at hn
  have hkn : k < e.n := by omega
  subst hl
  refine then_id (wp_seq_k fun K1 hK1 => ?_)
  have hnB : ∀ r ∈ [(⟨e.lb, l.length * 5, l.length * 5 + 5⟩ : Rng)], ¬ e.B r.b := by
    intro r hr hB; simp at hr; subst hr; exact (hm.bs _ hB).2.1 rfl
  have hnl : ∀ r ∈ [(⟨e.lb, l.length * 5, l.length * 5 + 5⟩ : Rng)], r.b ≠ e.pb ∧ ¬ e.B r.b := by
    intro r hr; refine ⟨?_, hnB r hr⟩; simp at hr; subst hr; exact fun h => hm.pl h.symm
  have hx : FldAt w e o (.arr t) x := ⟨d1, hz1.1, hr1⟩
  have hksl : l.length < (slots l e.n).length := by rw [hm.len]; exact hkn
  refine h1 e K1 _ a w _ x _ hN hd hsv hst hm (slots_at hkn) rfl hx hkn fun a1 w1 k1 f1 m1 => hK1 a1 w1 (then_up ?_)
  refine then_id (wp_seq_k fun K2 hK2 => ?_)
  refine h2 e K2 _ a1 w1 _ x _ (k1.size.trans hN) (k1.defers.trans hd) ((k1.get _ b1).trans hsv) ((k1.get _ b2).trans hst) m1 (List.getElem?_set_self hksl) rfl (hx.kept f1 hnl) hkn fun a2 w2 k2 f2 m2 => hK2 a2 w2 (then_up ?_)
  rw [set_set, slots_set hkn] at m2
  have f12 : Fr [⟨e.lb, l.length * 5, l.length * 5 + 5⟩] w w2 := f1.tr f2
  have kk := k1.trans k2
  refine h' e Q a2 w2 _ r rb hen (kk.size.trans hN) (kk.defers.trans hd) ((kk.get _ b1).trans hsv) ((kk.get _ b2).trans hst) ((kk.get _ b3).trans htr) (f12.there hth) hrs hrl hrt hrp hrB m2 (by simp) (by omega) ⟨d2, ?_, Reps.kept f12 hnB (fun _ h => h) hr2⟩ ?_
  · have := hz1.2
    rw [hlen, show e.po + o + (Ty.arr t).size = e.po + (o + 1) from by simp [Ty.size]; omega] at this
    exact f12.range this (.cons (.inl fun h => hm.pl h.symm) .nil)
  · intro a3 w3 cs hd2 htr2 f3 hc hr
    refine hK a3 w3 cs hd2 htr2 (frame_place hkn f12 f3) hc ?_
    rw [List.append_assoc] at hr
    exact hr

/-- 'return t' -/
theorem TRun.nil {P : Program} {TT TL : TypeId} {N sv st tr m n k o i : Nat} {t0 t1 : TypeId} {p0 p1 : String} {e0 e1 : Array Edge} (hT : TreeTys P TT TL) (hb : (decide (tr < n) && decide (st < n) && decide (n < N)) = true) :
    TRun P N sv st tr m (.seq (Code.region i ⟨[⟨some n, .load TT (.tmp st), t0, p0, e0, none⟩, ⟨none, .store TT (.tmp tr) (.tmp n), t1, p1, e1, none⟩]⟩ false) .ret) k o [] [] := by
  intro e Q a w l xs rb hen hN hd hsv hst htr hth hrs hrl hrt hrp hrB hm hl hn ⟨z, hz1, hz2⟩ hK
  simp only [Bool.and_eq_true, decide_eq_true_eq] at hb
  obtain ⟨⟨b1, b2⟩, b3⟩ := hb
  obtain ⟨_, rfl⟩ := hz2
  simp only [List.length_nil, Nat.add_zero] at hn
  refine then_id (wp_seq_k fun K1 hK1 => ?_)
  refine wp_reg ?_
  rw [wpl_cons]
  refine wp_loadFlat hT.flat (cs := [.int .i64 0, .slice none 0 0, .bool false, .slice (some ⟨e.lb, 0, none⟩) e.n e.n, .slice none 0 0]) rfl (by rw [eval_tmp, hst]) hm.tree ?_
  rw [wpl_cons]
  refine wp_storeFlat hT.flat (cs := [.int .i64 0, .slice none 0 0, .bool false, .slice (some ⟨e.lb, 0, none⟩) e.n e.n, .slice none 0 0]) (b := rb) (o := 0) rfl (by rw [eval_tmp, get_put_ne (by omega), htr]) (by rw [eval_tmp, get_put_same (by omega)]) (by simp [Value.oneCell']) hth ?_
  rw [wpl_nil, put_none]
  refine hK1 _ _ (wp_ret ?_)
  have hs := Fr.sets rb [.int .i64 0, .slice none 0 0, .bool false, .slice (some ⟨e.lb, 0, none⟩) e.n e.n, .slice none 0 0] w 0
  have hsz := hs.size
  refine hK _ _ _ ((defers_put _ _ _).trans hd) (by rw [get_put_ne (by omega), htr]) (hs.mono ?_) (World.rangeAt_setCells_same _ _ _ _ hth) ?_
  · intro r hr; simp at hr; subst hr
    exact .inr ⟨⟨rb, 0, 5⟩, by simp, rfl, by simp, by simp⟩
  · have hll : l.length = e.n := by omega
    have hslots : slots l e.n = l.map .done := by simp [slots, hll]
    have hrs' : rb < e.s0 := hrs
    have hA : ∀ r ∈ [(⟨rb, 0, 0 + [(.int .i64 0 : Value), .slice none 0 0, .bool false, .slice (some ⟨e.lb, 0, none⟩) e.n e.n, .slice none 0 0].length⟩ : Rng)], ¬ (e.s0 ≤ r.b ∧ r.b < w.heap.size) := by
      intro r hr hF; simp at hr; subst hr; simp only at hF; omega
    rw [repT_iff]
    refine ⟨_, _, _, rfl, by omega, .nil, ?_, .inl ⟨rfl, rfl⟩⟩
    have hels : ∀ i y, l[i]? = some y → ∃ es, w.rangeAt e.lb (i * 5) es ∧ RepT w (fun b => e.s0 ≤ b ∧ b < w.heap.size) es y := by
      intro i y hy
      obtain ⟨es, h1, h2⟩ := hm.els i (.done y) (by rw [hslots, List.getElem?_map, hy]; rfl)
      exact ⟨es, h1, h2⟩
    have hch : ∃ es : Nat → List Value, ∀ i y, l[i]? = some y → w.rangeAt e.lb (i * 5) (es i) ∧ RepT w (fun b => e.s0 ≤ b ∧ b < w.heap.size) (es i) y := by
      refine ⟨fun i => cellsAt w e.lb (i * 5) 5, fun i y hy => ?_⟩
      obtain ⟨es, h1, h2⟩ := hels i y hy
      have := range_cellsAt h1
      rw [h2.length] at this
      show w.rangeAt e.lb (i * 5) (cellsAt w e.lb (i * 5) 5) ∧ RepT w _ (cellsAt w e.lb (i * 5) 5) y
      rw [← this]
      exact ⟨h1, h2⟩
    obtain ⟨es, hes⟩ := hch
    refine .inr ⟨e.lb, 0, e.n, .inl rfl, by simp [tellAll, hll], ⟨by simp [tellAll, hll], by simp [tellAll, hll, hen]⟩, es, fun i y hy => ?_, fun i y hy => ?_⟩
    · rw [Nat.zero_add]
      exact hs.range (hes i y (by simpa [tellAll] using hy)).1 (.cons (.inl hrl) .nil)
    · exact (hes i y (by simpa [tellAll] using hy)).2.kept hs hA (fun b hb => .inr ⟨hb.1, Nat.lt_of_lt_of_le hb.2 hsz⟩)

theorem results_cell {P : Program} {fn : Func} {t : Nat} {T : TypeId} {z : List Value} {a : Act} {w : World} {b o : Nat} {cs : List Value} (h : fn.results = #[.cell t T]) (hT : Flat P T z) (hl : cs.length = z.length) (ha : get a t = .pointer (some ⟨b, o, none⟩)) (hc : w.rangeAt b o cs) :
    (results fn a.tmps).run P w = .ok (.agg cs.toArray) w := by
  obtain ⟨_, hs, fs, hu, _⟩ := hT
  have hr := run_loadVar_mid (P := P) w b o T cs _ hc hu rfl (by rw [hs, hl])
  have ha' : a.tmps[t]?.getD undef = .pointer (some ⟨b, o, none⟩) := by rw [← Array.getD_eq_getD_getElem?]; exact ha
  simp only [results, h]
  simp [ha', asAddr, hr]

theorem zeroCells_made (n : Nat) : (madeCells zT.toArray (n * 5)).toList = zeros zT n := by
  simp [madeCells, zeros, zT]

/-- 't := Tree{L: make([]Tree, k)}' -/
theorem r_newTree {P : Program} {TT TL : TypeId} {a : Act} {w : World} {K : Act → World → Prop} {Q : Exit → Act → World → Prop} {i1 n st m k : Nat} (hT : TreeTys P TT TL)
    {t1 t2 t3 t4 : TypeId} {p1 p2 p3 p4 : String} {e1 e2 e3 e4 : Array Edge} (hn : n + 1 < a.tmps.size) (hstn : st < n) (hm : m ≤ st) (hk2 : k ≤ 4294967296)
    (hk : ∀ a' w' lb tb, Kept m a a' → get a' st = .pointer (some ⟨tb, 0, none⟩) → lb = w.heap.size → tb = w.heap.size + 1 → w.heap.size + 2 ≤ w'.heap.size → Fr [] w w' → w'.rangeAt lb 0 (zeros zT k) → w'.there lb 0 (k * 5) →
      w'.rangeAt tb 0 [.int .i64 0, .slice none 0 0, .bool false, .slice (some ⟨lb, 0, none⟩) k k, .slice none 0 0] → w'.there tb 0 5 → K a' w') :
    (Code.region i1 ⟨[⟨some n, .makeSlice TL (.const (.int .i64 k)) (.const (.int .i64 k)), t1, p1, e1, none⟩, ⟨some (n + 1), .build TT #[(3, .tmp n)], t2, p2, e2, none⟩, ⟨some st, .alloc TT, t3, p3, e3, none⟩, ⟨none, .store TT (.tmp st) (.tmp (n + 1)), t4, p4, e4, none⟩]⟩ false).wp P (Exit.then K Q) a w := by
  have key : ∀ (w2 w3 : World) (ob : Obj), w2 = w.alloc (.cells (madeCells zT.toArray (k * 5)) TT) → w3 = w2.alloc (.cells (Value.agg zT.toArray).cells TT) → ∀ (a4 : Act) (cs : List Value), Kept m a a4 → cs = [.int .i64 0, .slice none 0 0, .bool false, .slice (some ⟨w.heap.size, 0, none⟩) k k, .slice none 0 0] → get a4 st = .pointer (some ⟨w2.heap.size, 0, none⟩) →
      w3.there w2.heap.size 0 5 ∧ K a4 (w3.setCells w2.heap.size 0 cs) := by
    intro w2 w3 _ hw2 hw3 a4 cs k4 hcs g4
    have f2 := Fr.alloc [] w (.cells (madeCells zT.toArray (k * 5)) TT)
    have rg2 := range_new w (madeCells zT.toArray (k * 5)) TT (0, 0)
    have th2 := there_new w (madeCells zT.toArray (k * 5)) TT
    have hs : (madeCells zT.toArray (k * 5)).size = k * 5 := by simp [madeCells]
    have sz2 := size_alloc w (.cells (madeCells zT.toArray (k * 5)) TT)
    rw [hs] at th2
    rw [zeroCells_made] at rg2
    rw [← hw2] at f2 rg2 th2 sz2
    have f3 := Fr.alloc [] w2 (.cells (Value.agg zT.toArray).cells TT)
    have th3 := there_new w2 zT.toArray TT
    have sz3 := size_alloc w2 (.cells (Value.agg zT.toArray).cells TT)
    have th3 : w3.there w2.heap.size 0 5 := by rw [hw3]; exact th3
    rw [← hw3] at f3 sz3
    refine ⟨th3, ?_⟩
    have hcl : cs.length = 5 := by rw [hcs]; rfl
    have f4 := Fr.sets w2.heap.size cs w3 0
    have rg4 := World.rangeAt_setCells_same (w := w3) w2.heap.size 0 cs (by rw [hcl]; exact th3)
    have sz4 := f4.size
    have hnl : ∀ r ∈ [(⟨w2.heap.size, 0, 0 + cs.length⟩ : Rng)], r.b ≠ w.heap.size := by intro r hr; simp at hr; subst hr; simp only; omega
    have f34 : Fr [⟨w2.heap.size, 0, 0 + cs.length⟩] w2 (w3.setCells w2.heap.size 0 cs) := (f3.nil (l := _)).tr f4
    have f4n : Fr [] w (w3.setCells w2.heap.size 0 cs) := by
      refine f2.trans f34 ?_
      intro r hr; simp at hr; subst hr; left; simp only; omega
    refine hk a4 _ w.heap.size w2.heap.size k4 g4 rfl sz2 (by omega) f4n (f34.range rg2 (fun r hr => .inl (hnl r hr))) (f34.there th2) ?_ (f4.there th3)
    rw [← hcs]; exact rg4
  refine wp_reg ?_
  rw [wpl_cons]
  refine wp_make hT.sl hT.zero (by omega) (by omega) ?_
  rw [wpl_cons]
  refine wp_build1 hT.flat (by decide) (v := .slice (some ⟨w.heap.size, 0, none⟩) k k) (by rw [eval_tmp, get_put_same (by omega)]) rfl ?_
  rw [wpl_cons]
  refine wp_alloc hT.flat.zero ?_
  rw [wpl_cons]
  have h1 := key _ _ (.cells #[] TT) rfl rfl
    ((((a.put (some n) (.slice (some ⟨w.heap.size, 0, none⟩) k k)).put (some (n + 1)) (.agg (zT.set 3 (.slice (some ⟨w.heap.size, 0, none⟩) k k)).toArray)).put (some st) (.pointer (some ⟨(w.alloc (.cells (madeCells zT.toArray (k * 5)) TT)).heap.size, 0, none⟩))).put none undef)
    (zT.set 3 (.slice (some ⟨w.heap.size, 0, none⟩) k k)) (((Kept.put0 (by omega) _).put (by omega) _).put hm _) rfl (get_put_same (by simp only [size_put]; omega))
  refine wp_storeFlat hT.flat (cs := zT.set 3 (.slice (some ⟨w.heap.size, 0, none⟩) k k)) (b := (w.alloc (.cells (madeCells zT.toArray (k * 5)) TT)).heap.size) (o := 0) rfl (by rw [eval_tmp, get_put_same (by simp only [size_put]; omega)]) (by rw [eval_tmp, get_put_ne (by omega), get_put_same (by simp only [size_put]; omega)]) (by simp [zT, Value.oneCell']) h1.1 ?_
  exact h1.2

/-- The whole function. -/
theorem tell_root {P : Program} {TT TL : TypeId} {f : FuncId} {fn : Func} {N st tr n m o0 : Nat} {i0 i1 : Nat} {c : Code} {pre tys : List Ty} {gs : List (V → T)} (hT : TreeTys P TT TL)
    {t0 t1 t2 t3 t4 : TypeId} {p0 p1 p2 p3 p4 : String} {e0 e1 e2 e3 e4 : Array Edge} {k : Nat}
    (hf : P.funcs[f]? = some fn) (hname : (fn.name == "runtime.NumGoroutine") = false) (hres : fn.results = #[.cell tr TT]) (hN : fn.ntmps = N)
    (hbody : fn.body = some (.seq (Code.region i0 ⟨[⟨some tr, .alloc TT, t0, p0, e0, none⟩]⟩ false)
      (.seq (Code.region i1 ⟨[⟨some n, .makeSlice TL (.const (.int .i64 k)) (.const (.int .i64 k)), t1, p1, e1, none⟩, ⟨some (n + 1), .build TT #[(3, .tmp n)], t2, p2, e2, none⟩, ⟨some st, .alloc TT, t3, p3, e3, none⟩, ⟨none, .store TT (.tmp st) (.tmp (n + 1)), t4, p4, e4, none⟩]⟩ false) c)))
    (h : TRun P N 0 st tr m c 0 o0 tys gs) (hk : tys.length = k) (ho : o0 = Ty.sizes pre) (hk2 : k ≤ 4294967296)
    (hb : (decide (0 < tr) && decide (tr < st) && decide (st < n) && decide (n + 1 < N)) = true) :
    TellM P f (.st (pre ++ tys)) (fun x => .mk 0 [] false (tellAll gs (x.items.drop pre.length)) []) := by
  simp only [Bool.and_eq_true, decide_eq_true_eq] at hb
  obtain ⟨⟨⟨b1, b2⟩, b3⟩, b4⟩ := hb
  refine ⟨enters_of hf hname hbody, ?_⟩
  intro w pb po cz x B hcz hrz hB hpb
  refine calls_of_wp hf hbody ?_
  generalize ha0 : ({ tmps := #[Value.pointer (some ⟨pb, po, none⟩)] ++ Array.replicate (fn.ntmps - #[Value.pointer (some ⟨pb, po, none⟩)].size) undef, defers := [] } : Act) = a0
  have hsz : a0.tmps.size = N := by subst ha0; simp [hN]; omega
  have hd0 : a0.defers = [] := by subst ha0; rfl
  have q0 : get a0 0 = .pointer (some ⟨pb, po, none⟩) := by subst ha0; exact get_args rfl
  clear ha0
  refine then_id (wp_seq_k fun K1 hK1 => ?_)
  refine wp_reg ?_
  rw [wpl_cons]
  refine wp_alloc hT.flat.zero ?_
  rw [wpl_nil]
  have f1 := Fr.alloc [] w (.cells (Value.agg zT.toArray).cells TT)
  have th1 : (w.alloc (.cells (Value.agg zT.toArray).cells TT)).there w.heap.size 0 5 := there_new w zT.toArray TT
  have sz1 := size_alloc w (.cells (Value.agg zT.toArray).cells TT)
  generalize hw1 : w.alloc (.cells (Value.agg zT.toArray).cells TT) = w1 at f1 th1 sz1 ⊢
  refine hK1 _ w1 (then_up ?_)
  refine then_id (wp_seq_k fun K2 hK2 => ?_)
  have hsz1 : (a0.put (some tr) (.pointer (some ⟨w.heap.size, 0, none⟩))).tmps.size = N := by simp only [size_put]; exact hsz
  have g1 : get (a0.put (some tr) (.pointer (some ⟨w.heap.size, 0, none⟩))) tr = .pointer (some ⟨w.heap.size, 0, none⟩) := get_put_same (by omega)
  have k1 : Kept tr a0 (a0.put (some tr) (.pointer (some ⟨w.heap.size, 0, none⟩))) := Kept.put0 (Nat.le_refl _) _
  generalize a0.put (some tr) (.pointer (some ⟨w.heap.size, 0, none⟩)) = a1 at hsz1 g1 k1 ⊢
  refine r_newTree (m := st) hT (by omega) b3 (Nat.le_refl _) hk2 fun a4 w4 lb tb k14 gst hlb htb hsz4 f24 rg2 th2 rg4 th4 => hK2 a4 w4 (then_up ?_)
  have k4 : Kept tr a0 a4 := k1.trans (k14.mono (by omega))
  have gtr := (k14.get tr b2).trans g1
  have f4n : Fr [] w w4 := f1.tr f24
  have hle4 := f4n.size
  -- the struct and its fields
  obtain ⟨xs, rfl, hrs⟩ := hrz
  have split : ∀ {w : World} {B : Nat → Prop} (pre tys : List Ty) (cz : List Value) (xs : List V), Reps w B (pre ++ tys) cz xs → ∃ c1 c2, cz = c1 ++ c2 ∧ c1.length = Ty.sizes pre ∧ Reps w B tys c2 (xs.drop pre.length) := by
    intro w B pre
    induction pre with
    | nil => intro tys cz xs h; exact ⟨[], cz, rfl, rfl, by simpa using h⟩
    | cons t pre ih =>
      intro tys cz xs h
      obtain ⟨c1, c2, y, r, rfl, rfl, h1, h2⟩ := h
      obtain ⟨d1, d2, rfl, h3, h4⟩ := ih tys c2 r h2
      exact ⟨c1 ++ d1, d2, by simp, by simp [h3, h1.length, Ty.sizes], by simpa using h4⟩
  obtain ⟨c1, c2, rfl, hcl, hrs2⟩ := split pre tys cz xs hrs
  rw [range_append] at hcz
  have hz5 : zT.length = 5 := rfl
  refine h ⟨pb, po, tb, lb, k, w4.heap.size, B⟩ _ a4 w4 [] (xs.drop pre.length) w.heap.size hk2 (by rw [k4.size, hsz]) (by rw [k4.defers, hd0]) ((k4.get 0 (by omega)).trans q0) gst gtr (f24.there th1) (by simp only; omega) (by simp only; omega) (by simp only; omega) (by simp only; omega) (fun h => by have := hB _ h; omega)
    ⟨rg4, th4, th2, by simp [slots], by simp only; omega, by simp only; omega, by simp only; omega, fun b hb => by have := hB b hb; simp only; exact ⟨by omega, by omega, by omega⟩, by simp only; omega, by simp only; omega, by simp only; omega, Nat.le_refl _, Nat.le_refl _, ?_⟩
    rfl (by simp only; omega) ⟨c2, ?_, Reps.kept f4n (by simp) (fun _ h => h) hrs2⟩ ?_
  · intro i y hy
    simp only [slots, List.map_nil, List.nil_append, List.length_nil, Nat.sub_zero] at hy
    rw [List.getElem?_replicate] at hy
    split at hy
    · rename_i hik
      simp at hy; subst hy
      have := zeros_part rg2 i hik
      rw [hz5] at this
      exact ⟨zT, this, rfl, rfl, by simp [zT, Value.oneCell']⟩
    · simp at hy
  · simp only
    have := hcz.2
    rw [hcl, ← ho] at this
    exact f4n.range this .nil
  · intro a5 w5 cs hd5 htr5 f5 hc5 hr5
    have hl5 := hr5.length
    refine ⟨hd5, _, results_cell hres hT.flat (by rw [hl5]; rfl) htr5 hc5, cs, rfl, ?_, ?_⟩
    · refine f4n.trans f5 ?_
      intro r hr; simp at hr
      rcases hr with rfl | rfl <;> left <;> simp only <;> omega
    · have hle5 := f5.size
      refine hr5.kept (Fr.refl [] w5) (by simp) ?_
      intro b hb
      rcases hb with rfl | hb
      · omega
      · exact ⟨by have := hb.1; simp only at this; omega, hb.2⟩

end Go.Kq
