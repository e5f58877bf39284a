/- What a message is told as: a tree, field by field. -/
import Derived.Test.YtjeplgghcebfjaaDoorKqApp
namespace Go.Kq
open Go Go.Proofs

theorem Flat.field {P : Program} {t : TypeId} {z : List Value} (h : Flat P t z) {k : Nat} (hk : k < z.length) : fieldOf P t k k = true := by
  obtain ⟨_, _, fs, hu, hs, hf⟩ := h
  have hk' : k < fs.size := by omega
  have hfk : fs[k]? = some fs[k] := by simp [hk']
  obtain ⟨h1, i, h2, h3⟩ := hf k _ hfk
  simp only [fieldOf, hu, hfk, h1, h2, h3]
  simp

/-- The types of trees. -/
structure TreeTys (P : Program) (TT TL : TypeId) : Prop where
  flat : Flat P TT zT
  sl : sliceOf P TL TT 5 88 = true
  scl : scal P TL = true
  mixed : P.follows .mixedOrders = true
  zero : zeroIs P TT zT

/-- Where a struct and the tree that tells it lie. -/
structure TEnv where
  pb : Nat
  po : Nat
  tb : Nat
  lb : Nat
  n : Nat
  s0 : Nat
  B : Nat → Prop

def TEnv.A (e : TEnv) (w : World) (b : Nat) : Prop := e.s0 ≤ b ∧ b < w.heap.size

/-- What a place of the list holds: cells as they are, or a tree that is told. -/
inductive Slot where
  | raw (cs : List Value)
  | done (t : T)
def SlotAt (w : World) (A : Nat → Prop) (cs : List Value) : Slot → Prop
  | .raw c => cs = c ∧ c.length = 5 ∧ ∀ u ∈ c, u.oneCell' = true
  | .done t => RepT w A cs t
theorem SlotAt.length {w : World} {A : Nat → Prop} {cs : List Value} {y : Slot} (h : SlotAt w A cs y) : cs.length = 5 := by
  cases y with
  | raw c => obtain ⟨rfl, h, _⟩ := h; exact h
  | done t => exact RepT.length h
theorem SlotAt.ones {w : World} {A : Nat → Prop} {cs : List Value} {y : Slot} (h : SlotAt w A cs y) : ∀ u ∈ cs, u.oneCell' = true := by
  cases y with
  | raw c => obtain ⟨rfl, _, h⟩ := h; exact h
  | done t => exact RepT.ones h
theorem SlotAt.kept {w w' : World} {A A' : Nat → Prop} {l : List Rng} {cs : List Value} {y : Slot} (h : SlotAt w A cs y) (hf : Fr l w w') (hl : ∀ r ∈ l, ¬ A r.b) (hA : ∀ b, A b → A' b) : SlotAt w' A' cs y := by
  cases y with
  | raw c => exact h
  | done t => exact RepT.kept h hf hl hA

structure TM (w : World) (e : TEnv) (uv : Value) (ts : List Slot) (hi : Nat) : Prop where
  tree : w.rangeAt e.tb 0 [.int .i64 0, .slice none 0 0, .bool false, .slice (some ⟨e.lb, 0, none⟩) e.n e.n, uv]
  thT : w.there e.tb 0 5
  thL : w.there e.lb 0 (e.n * 5)
  len : ts.length = e.n
  ls : e.lb < e.s0
  tbs : e.tb < e.s0
  ps : e.pb < e.s0
  bs : ∀ b, e.B b → b < e.s0 ∧ b ≠ e.lb ∧ b ≠ e.tb
  ne : e.lb ≠ e.tb
  pl : e.pb ≠ e.lb
  pt : e.pb ≠ e.tb
  s0 : e.s0 ≤ hi
  top : hi ≤ w.heap.size
  els : ∀ i y, ts[i]? = some y → ∃ es, w.rangeAt e.lb (i * 5) es ∧ SlotAt w (fun b => e.s0 ≤ b ∧ b < hi) es y

/-- A field of the struct. -/
def FldAt (w : World) (e : TEnv) (o : Nat) (ty : Ty) (x : V) : Prop := ∃ c, w.rangeAt e.pb (e.po + o) c ∧ Rep w e.B ty c x

theorem TM.kept {w w' : World} {e : TEnv} {uv : Value} {ts : List Slot} {hi : Nat} {l : List Rng} (h : TM w e uv ts hi) (hf : Fr l w w') (hl : ∀ r ∈ l, hi ≤ r.b) : TM w' e uv ts hi := by
  obtain ⟨h1, h2, h3, h4, h5, h6, h7, h8, h9, h10, h11, h12, h12', h13⟩ := h
  refine ⟨hf.range h1 (fun r hr => .inl (by have := hl r hr; omega)), hf.there h2, hf.there h3, h4, h5, h6, h7, h8, h9, h10, h11, h12, Nat.le_trans h12' hf.size, fun i y hy => ?_⟩
  obtain ⟨es, h14, h15⟩ := h13 i y hy
  exact ⟨es, hf.range h14 (fun r hr => .inl (by have := hl r hr; omega)), h15.kept hf (fun r hr ha => by have := hl r hr; have := ha.2; omega) (fun b hb => hb)⟩
theorem TM.up {w : World} {e : TEnv} {uv : Value} {ts : List Slot} {hi hi' : Nat} (h : TM w e uv ts hi) (h1 : hi ≤ hi') (h2 : hi' ≤ w.heap.size) : TM w e uv ts hi' := by
  obtain ⟨g1, g2, g3, g4, g5, g6, g7, g8, g9, g10, g11, g12, g12', g13⟩ := h
  refine ⟨g1, g2, g3, g4, g5, g6, g7, g8, g9, g10, g11, by omega, h2, fun i y hy => ?_⟩
  obtain ⟨es, h14, h15⟩ := g13 i y hy
  exact ⟨es, h14, h15.kept (Fr.refl [] w) (by simp) (fun b hb => ⟨hb.1, by omega⟩)⟩
theorem TM.kept0 {w w' : World} {e : TEnv} {uv : Value} {ts : List Slot} (h : TM w e uv ts w.heap.size) (hf : Fr [] w w') : TM w' e uv ts w'.heap.size :=
  (h.kept hf (by simp)).up hf.size (Nat.le_refl _)

theorem FldAt.kept {w w' : World} {e : TEnv} {o : Nat} {ty : Ty} {x : V} {l : List Rng} (h : FldAt w e o ty x) (hf : Fr l w w') (hl : ∀ r ∈ l, r.b ≠ e.pb ∧ ¬ e.B r.b) : FldAt w' e o ty x := by
  obtain ⟨c, h1, h2⟩ := h
  exact ⟨c, hf.range h1 (fun r hr => .inl (hl r hr).1), h2.kept hf (fun r hr => (hl r hr).2) (fun _ h => h)⟩

/-- Cells are laid into a place. -/
theorem TM.cells {w w' : World} {e : TEnv} {uv : Value} {ts : List Slot} {k hi lo up : Nat} {cs : List Value} {y : Slot} (h : TM w e uv ts hi) (hk : k < e.n) (hs : Fr [⟨e.lb, lo, up⟩] w w') (hlo : k * 5 ≤ lo) (hup : up ≤ k * 5 + 5)
    (hc : w'.rangeAt e.lb (k * 5) cs) (hr : SlotAt w' (fun b => e.s0 ≤ b ∧ b < hi) cs y) : TM w' e uv (ts.set k y) hi := by
  have hsz := hs.size
  have hnA : ∀ r ∈ [(⟨e.lb, lo, up⟩ : Rng)], ¬ (e.s0 ≤ r.b ∧ r.b < hi) := by
    intro r hr hA; simp at hr; subst hr; have := h.ls; exact absurd hA.1 (by simp only; omega)
  refine ⟨hs.range h.tree (.cons (.inl h.ne) .nil), hs.there h.thT, hs.there h.thL, by rw [List.length_set]; exact h.len, h.ls, h.tbs, h.ps, h.bs, h.ne, h.pl, h.pt, h.s0, Nat.le_trans h.top hsz, ?_⟩
  intro i y' hy
  by_cases hik : k = i
  · subst hik
    rw [List.getElem?_set_self (by have := h.len; omega)] at hy
    obtain rfl := Option.some.inj hy
    exact ⟨cs, hc, hr⟩
  · rw [List.getElem?_set_ne hik] at hy
    obtain ⟨es, h2, h3⟩ := h.els i y' hy
    have hel := h3.length
    refine ⟨es, hs.range h2 (.cons (.inr ?_) .nil), h3.kept hs hnA (fun _ h => h)⟩
    rcases Nat.lt_or_gt_of_ne hik with h | h
    · right; simp only; omega
    · left; simp only; omega
/-- A tree is laid into its place. -/
theorem TM.set {w w1 : World} {e : TEnv} {uv : Value} {ts : List Slot} {k : Nat} {cs : List Value} {y : Slot} (h : TM w e uv ts w.heap.size) (hk : k < e.n) (hf : Fr [] w w1) (hr : SlotAt w1 (e.A w1) cs y) :
    TM (w1.setCells e.lb (k * 5) cs) e uv (ts.set k y) (w1.setCells e.lb (k * 5) cs).heap.size ∧ Fr [⟨e.lb, k * 5, k * 5 + 5⟩] w (w1.setCells e.lb (k * 5) cs) := by
  have h1 := h.kept0 hf
  have hlen := hr.length
  have hth : w1.there e.lb (k * 5) cs.length := there_part h1.thL (by omega) (by omega)
  have hs := Fr.sets e.lb cs w1 (k * 5)
  rw [hlen] at hs
  have hnA : ∀ r ∈ [(⟨e.lb, k * 5, k * 5 + 5⟩ : Rng)], ¬ (e.A w1 r.b) := by
    intro r hr hA; simp at hr; subst hr; have := h.ls; exact absurd hA.1 (by simp only; omega)
  exact ⟨(h1.cells hk hs (Nat.le_refl _) (Nat.le_refl _) (World.rangeAt_setCells_same _ _ _ _ hth) (hr.kept hs hnA (fun _ h => h))).up hs.size (Nat.le_refl _), (hf.nil (l := [⟨e.lb, k * 5, k * 5 + 5⟩])).tr hs⟩

/-- A statement that tells a field. -/
def TlG (P : Program) (N sv st m : Nat) (c : Code) (k o : Nat) (ty : Ty) (f : V → Slot) (was : V → Slot → Prop) : Prop :=
  ∀ (e : TEnv) (K : Act → World → Prop) (Q : Exit → Act → World → Prop) (a : Act) (w : World) (ts : List Slot) (x : V) (y : Slot),
    a.tmps.size = N → a.defers = [] → get a sv = .pointer (some ⟨e.pb, e.po, none⟩) → get a st = .pointer (some ⟨e.tb, 0, none⟩) →
    TM w e (.slice none 0 0) ts w.heap.size → ts[k]? = some y → was x y → FldAt w e o ty x → k < e.n →
    (∀ a' w', Kept m a a' → Fr [⟨e.lb, k * 5, k * 5 + 5⟩] w w' → TM w' e (.slice none 0 0) (ts.set k (f x)) w'.heap.size → K a' w') →
    c.wp P (Exit.then K Q) a w
def Tl (P : Program) (N sv st m : Nat) (c : Code) (k o : Nat) (ty : Ty) (f : V → T) : Prop := TlG P N sv st m c k o ty (fun x => .done (f x)) fun _ _ => True

theorem opsOk_append {P : Program} {Q : Exit → Act → World → Prop} {l0 : List Rng} {n : Nat} {a0 : Act} {w0 : World} {sps : List Sp} : ∀ {os os' : List Oper} {ss ss' : List Sp} {i : Nat}, os.length = ss.length →
    opsOk P Q l0 n a0 w0 sps i os ss → opsOk P Q l0 n a0 w0 sps (i + os.length) os' ss' → opsOk P Q l0 n a0 w0 sps i (os ++ os') (ss ++ ss')
  | [], os', [], ss', i, _, _, h => h
  | [], _, _ :: _, _, _, h, _, _ => by simp at h
  | _ :: _, _, [], _, _, h, _, _ => by simp at h
  | o :: os, os', s :: ss, ss', i, hl, h, h' => by
    refine ⟨h.1, opsOk_append (by simpa using hl) h.2 ?_⟩
    rwa [List.length_cons, show i + (os.length + 1) = i + 1 + os.length from by omega] at h'

theorem lastsAll_append {l0 : List Rng} : ∀ {ss ss' : List Sp}, lastsAll l0 ss → lastsAll l0 ss' → lastsAll l0 (ss ++ ss')
  | [], _, _, h => h
  | _ :: _, _, h, h' => ⟨h.1, lastsAll_append h.2 h'⟩
theorem shape_append : ∀ {os os' : List Oper} {d : Nat}, shape d os = true → shape (d + os.length) os' = true → shape d (os ++ os') = true
  | [], _, _, _, h => h
  | o :: os, os', d, h, h' => by
    simp only [shape, Bool.and_eq_true] at h
    simp only [List.cons_append, shape, Bool.and_eq_true]
    exact ⟨h.1, shape_append h.2 (by rwa [List.length_cons, show d + (os.length + 1) = d + 1 + os.length from by omega] at h')⟩

/-- The words on 't.L[k] = ..', ahead of the value. -/
def headSp (e : TEnv) (o : Nat) : List Sp :=
  [spC [] (.pointer (some ⟨e.tb, 0 + 3, none⟩)), spC [0] (.slice (some ⟨e.lb, 0, none⟩) e.n e.n), spC [] (.pointer (some ⟨e.pb, e.po, none⟩)), spC [2] (.pointer (some ⟨e.pb, e.po, none⟩)), spC [3] (.pointer (some ⟨e.pb, e.po + o, none⟩))]

/-- 't.L[k] = <a tree made of v.F>' -/
theorem tl_draw {P : Program} {TT TL S : TypeId} {N sv st m n k o kf r id : Nat} {ty : Ty} {f : V → T} {mid : List Oper} (hT : TreeTys P TT TL)
    {t0 t1 t2 t3 t4 t5 t6 : TypeId} {p0 p1 p2 p3 p4 p5 p6 : String} {e0 e1 e2 e3 e4 e5 e6 : Array Edge} {i6 : Nat} (nds : List (List Nat))
    {es : List (Array Edge)} {nn : List (List Nat)} (he0 : edgeOk 0 es nn = true) (hes : [e0, e1, e2, e3, e4] ++ mid.map (·.after) ++ [e5] ++ [e6] = es) (hnn : [[], [0], [], [2], [3]] ++ nds ++ [[1]] ++ [List.range i6] = nn)
    (hi6 : i6 = 5 + mid.length + 1) (hr : r = n + 5 + nds.length - 1) (hnp : nds ≠ [])
    (hs : shape (n + 5) mid = true) (hnl : nds.length = mid.length) (hS : fieldOf P S kf o = true) (hb : (decide (sv < n) && decide (st < n) && decide (m ≤ n) && decide (n + mid.length + 6 ≤ N)) = true)
    (hmid : ∀ (e : TEnv) (Q : Exit → Act → World → Prop) (a : Act) (w : World) (x : V), a.tmps.size = N → FldAt w e o ty x → e.s0 ≤ w.heap.size → ∃ msp : List Sp, msp.map (·.need) = nds ∧ (msp.filter (·.wr)).length = 0 ∧ lastsAll [] msp ∧
      (∀ tl, opsOk P Q [] n a w (headSp e o ++ msp ++ tl) 5 mid msp) ∧ ∃ s, msp.getLast? = some s ∧ ∀ v w', s.R v w' → Fr [] w w' → ∃ cs : List Value, v = .agg cs.toArray ∧ RepT w' (e.A w') cs (f x)) :
    Tl P N sv st m (Code.region id ⟨([⟨some n, .fieldAddr TT (.tmp st) 3, t0, p0, e0, none⟩, ⟨some (n + 1), .load TL (.tmp n), t1, p1, e1, none⟩, ⟨some (n + 2), .move (.tmp sv), t2, p2, e2, none⟩, ⟨some (n + 3), .nilCheck (.tmp (n + 2)), t3, p3, e3, none⟩,
      ⟨some (n + 4), .fieldAddr S (.tmp (n + 3)) kf, t4, p4, e4, none⟩] ++ mid ++ [⟨some (n + 5 + mid.length), .indexAddr TL (.tmp (n + 1)) (.const (.int .i64 k)), t5, p5, e5, none⟩]) ++
      [⟨none, .store TT (.tmp (n + 5 + mid.length)) (.tmp r), t6, p6, e6, none⟩]⟩ true) k o ty f := by
  intro e K Q a w ts x _ hN hd hsv hst hm _ _ hx hk hK
  subst hes
  subst hnn
  have he := he0
  simp only [Bool.and_eq_true, decide_eq_true_eq] at hb
  obtain ⟨⟨⟨b1, b2⟩, b3⟩, b4⟩ := hb
  obtain ⟨msp, hm1, hm2, hm3, hm4, s, hm5, hm6⟩ := hmid e (Exit.then K Q) a w x hN hx hm.s0
  have hml : msp.length = mid.length := by rw [← hnl, ← hm1, List.length_map]
  have hml0 : 0 < mid.length := by rw [← hnl]; exact List.length_pos_iff.2 hnp
  let ixs : Sp := spC [1] (.pointer (some ⟨e.lb, 0 + (k : Int).toNat * 5, none⟩))
  refine wp_drawE (headSp e o ++ msp ++ [ixs]) n [] hT.mixed ?_ ?_ rfl ?_ ?_ ?_ ?_ ?_
  · have h1 : (headSp e o ++ msp ++ [ixs]).map (·.need) = [[], [0], [], [2], [3]] ++ nds ++ [[1]] := by simp [headSp, spC, ixs, hm1]
    have h2 : ([(⟨some n, .fieldAddr TT (.tmp st) 3, t0, p0, e0, none⟩ : Oper), ⟨some (n + 1), .load TL (.tmp n), t1, p1, e1, none⟩, ⟨some (n + 2), .move (.tmp sv), t2, p2, e2, none⟩, ⟨some (n + 3), .nilCheck (.tmp (n + 2)), t3, p3, e3, none⟩,
      ⟨some (n + 4), .fieldAddr S (.tmp (n + 3)) kf, t4, p4, e4, none⟩] ++ mid ++ [(⟨some (n + 5 + mid.length), .indexAddr TL (.tmp (n + 1)) (.const (.int .i64 k)), t5, p5, e5, none⟩ : Oper)]).length = i6 := by simp [hi6]; omega
    rw [h1, h2]
    simpa using he
  · exact shape_append (shape_append (by simp [shape]) (by simpa using hs)) (by simp only [shape]; simp; show @Eq Nat _ _; omega)
  · have hm2' : msp.filter (·.wr) = [] := List.eq_nil_of_length_eq_zero hm2
    rw [List.filter_append, List.filter_append, hm2']
    simp [headSp, ixs, spC]
  · simp; omega
  · exact lastsAll_append (lastsAll_append ⟨lasts_c _ _ _, lasts_c _ _ _, lasts_c _ _ _, lasts_c _ _ _, lasts_c _ _ _, trivial⟩ hm3) ⟨lasts_c _ _ _, trivial⟩
  · refine opsOk_append (by simp [headSp, hml]) (opsOk_append (by simp [headSp]) ?_ ?_) ?_
    · refine ⟨op_c fun a' w' hk' hf' hd' K' hK' => ?_, op_c fun a' w' hk' hf' hd' K' hK' => ?_, op_c fun a' w' hk' hf' hd' K' hK' => ?_, op_c fun a' w' hk' hf' hd' K' hK' => ?_, op_c fun a' w' hk' hf' hd' K' hK' => ?_, trivial⟩
      · exact wp_fieldAddr (hT.flat.field (by decide)) (by rw [eval_tmp, hk'.get st b2, hst]) hK'
      · exact wp_load hT.scl (by rw [eval_tmp]; exact hd'.c 0 (by simp) rfl) ((hf'.range hm.tree .nil) 3 _ rfl) hK'
      · rw [wp_move, eval_tmp, hk'.get sv b1, hsv]; exact hK'
      · exact wp_nilCheck (by rw [eval_tmp]; exact hd'.c 2 (by simp) rfl) hK'
      · exact wp_fieldAddr hS (by rw [eval_tmp]; exact hd'.c 3 (by simp) rfl) hK'
    · exact hm4 [ixs]
    · refine ⟨?_, trivial⟩
      have hi : 0 + ([(⟨some n, .fieldAddr TT (.tmp st) 3, t0, p0, e0, none⟩ : Oper), ⟨some (n + 1), .load TL (.tmp n), t1, p1, e1, none⟩, ⟨some (n + 2), .move (.tmp sv), t2, p2, e2, none⟩, ⟨some (n + 3), .nilCheck (.tmp (n + 2)), t3, p3, e3, none⟩,
        ⟨some (n + 4), .fieldAddr S (.tmp (n + 3)) kf, t4, p4, e4, none⟩] ++ mid).length = 5 + mid.length := by simp; omega
      rw [hi]
      refine op_c fun a' w' hk' hf' hd' K' hK' => ?_
      rw [show n + (5 + mid.length) = n + 5 + mid.length from by omega] at hK'
      exact wp_indexAddr hT.sl (by rw [eval_tmp]; exact hd'.c 1 (by simp) rfl) rfl (by omega) (by omega) hK'
  · intro a' w' hk' hf' hd'
    have h1 : get a' (n + 5 + mid.length) = .pointer (some ⟨e.lb, k * 5, none⟩) := by
      have := hd'.c (5 + mid.length) (nd' := [1]) (x := .pointer (some ⟨e.lb, 0 + (k : Int).toNat * 5, none⟩)) (by simp [headSp, hml]; omega) (by
        rw [List.getElem?_append_right (by simp [headSp, hml]; omega)]; simp [headSp, hml, ixs, show 5 + mid.length - (mid.length + 5) = 0 from by omega])
      rw [show n + 5 + mid.length = n + (5 + mid.length) from by omega, this]; simp
    have h2 : s.R (get a' r) w' := by
      have := hd'.at (d := 5 + mid.length - 1) (u := s) (by simp [headSp, hml]; omega) (by
        rw [List.getElem?_append_left (by simp [headSp, hml]; omega), List.getElem?_append_right (by simp [headSp]; omega)]
        rw [List.getLast?_eq_getElem?] at hm5
        rw [← hm5]; congr 1; simp [headSp, hml]; omega)
      rw [show n + (5 + mid.length - 1) = r from by omega] at this; exact this
    obtain ⟨cs, h3, h4⟩ := hm6 _ _ h2 hf'
    have hmw := hm.kept0 hf'
    obtain ⟨h5, h6⟩ := hm.set (y := .done (f x)) hk hf' h4
    have hcl := h4.length
    refine wp_storeFlat hT.flat (cs := cs) (by rw [hcl]; rfl) (by rw [eval_tmp, h1]) (by rw [eval_tmp, h3]) h4.ones (there_part hmw.thL (by omega) (by omega)) ?_
    exact hK _ _ (hk'.mono b3) h6 h5

end Go.Kq
