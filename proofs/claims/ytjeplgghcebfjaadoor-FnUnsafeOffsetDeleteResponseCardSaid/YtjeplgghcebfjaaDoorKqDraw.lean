/- Regions that draw an order: whichever order it is. -/
import Derived.Test.YtjeplgghcebfjaaDoorKqRg
import Derived.Orders
namespace Go.Kq
open Go Go.Proofs

/-- What is said of an operation: which ones it needs, whether it writes, what its value is. -/
structure Sp where
  need : List Nat
  wr : Bool
  R : Value → World → Prop

/-! ### what comes ahead of what -/
/-- All that comes ahead of an operation, by its own edges and by those of what comes ahead of it. -/
def ancE (acc : List (List Nat)) (e : Array Edge) : List Nat := e.toList.flatMap fun x => if Region.binds .any x then x.on :: acc.getD x.on [] else []
def ancAll : List (List Nat) → List (Array Edge) → List (List Nat)
  | acc, [] => acc
  | acc, e :: es => ancAll (acc ++ [ancE acc e]) es
def backE (i : Nat) (e : Array Edge) : Bool := e.all fun x => decide (x.on < i)
def needE (e : Array Edge) (d : List Nat) : Bool := d.all fun j => e.any fun x => Region.binds .any x && x.on == j
def edgeIn (A : List (List Nat)) : Nat → List (Array Edge) → List (List Nat) → Bool
  | _, [], [] => true
  | i, e :: es, d :: ds => backE i e && d.all (fun x => decide (x < i) && (A.getD i []).contains x) && edgeIn A (i + 1) es ds
  | _, _, _ => false
/-- Edges lead back, and to what is needed. -/
def edgeOk (i : Nat) (es : List (Array Edge)) (nds : List (List Nat)) : Bool := edgeIn (ancAll [] es) i es nds

theorem anc_pre : ∀ (es : List (Array Edge)) (acc : List (List Nat)) (j : Nat), j < acc.length → (ancAll acc es).getD j [] = acc.getD j []
  | [], _, _, _ => rfl
  | e :: es, acc, j, h => by
    rw [ancAll, anc_pre es _ j (by simp; omega)]
    simp [List.getD_eq_getElem?_getD, List.getElem?_append_left h]
theorem anc_mem : ∀ (es : List (Array Edge)) (acc : List (List Nat)) (i : Nat) (e : Array Edge), es[i]? = some e → ∀ a ∈ (ancAll acc es).getD (acc.length + i) [],
    ∃ x ∈ e, Region.binds .any x = true ∧ (a = x.on ∨ a ∈ (ancAll acc es).getD x.on [])
  | [], _, i, e, h, _, _ => by simp at h
  | e0 :: es, acc, 0, e, h, a, ha => by
    simp at h
    subst h
    rw [ancAll, Nat.add_zero, anc_pre es _ acc.length (by simp)] at ha
    simp only [List.getD_eq_getElem?_getD, List.getElem?_concat_length, Option.getD_some, ancE, List.mem_flatMap] at ha
    obtain ⟨x, hx, ha⟩ := ha
    refine ⟨x, by simpa using hx, ?_⟩
    split at ha
    · rename_i hb
      refine ⟨hb, ?_⟩
      rcases List.mem_cons.1 ha with h | h
      · exact .inl h
      · right
        have hlt : x.on < acc.length := by
          rcases Nat.lt_or_ge x.on acc.length with h1 | h1
          · exact h1
          · rw [List.getElem?_eq_none h1] at h; simp at h
        rw [anc_pre (e0 :: es) acc x.on hlt, List.getD_eq_getElem?_getD]; exact h
    · simp at ha
  | e0 :: es, acc, i + 1, e, h, a, ha => by
    rw [ancAll] at ha ⊢
    have := anc_mem es (acc ++ [ancE acc e0]) i e (by simpa using h) a (by rw [List.length_append]; simpa [Nat.add_assoc, Nat.add_comm 1 i] using ha)
    exact this

/-- What is known of the edges. -/
structure Edges (A : List (List Nat)) (ops : Array Oper) (nds : List (List Nat)) : Prop where
  anc : ∀ (i : Nat) (o : Oper), ops[i]? = some o → ∀ a ∈ A.getD i [], ∃ x ∈ o.after, Region.binds .any x = true ∧ (a = x.on ∨ a ∈ A.getD x.on [])
  back : ∀ (i : Nat) (o : Oper), ops[i]? = some o → ∀ x ∈ o.after, x.on < i
  need : ∀ (i : Nat) (nd : List Nat), nds[i]? = some nd → ∀ d ∈ nd, d < i ∧ d ∈ A.getD i []
  len : nds.length = ops.size

theorem edgeIn_spec {A : List (List Nat)} : ∀ {es : List (Array Edge)} {nds : List (List Nat)} {i : Nat}, edgeIn A i es nds = true → nds.length = es.length ∧ (∀ j e, es[j]? = some e → ∀ x ∈ e, x.on < i + j) ∧
    ∀ j nd, nds[j]? = some nd → ∀ d ∈ nd, d < i + j ∧ d ∈ A.getD (i + j) []
  | [], [], _, _ => ⟨rfl, by simp, by simp⟩
  | [], _ :: _, _, h => by simp [edgeIn] at h
  | _ :: _, [], _, h => by simp [edgeIn] at h
  | e :: es, d :: ds, i, h => by
    simp only [edgeIn, Bool.and_eq_true, backE, Array.all_eq_true_iff_forall_mem, decide_eq_true_eq, List.all_eq_true, List.contains_eq_mem] at h
    obtain ⟨⟨h1, h2⟩, h3⟩ := h
    obtain ⟨h4, h5, h6⟩ := edgeIn_spec h3
    refine ⟨by simp [h4], ?_, ?_⟩
    · intro j e' hj
      cases j with
      | zero => simp at hj; subst hj; exact h1
      | succ j => intro x hx; have := h5 j e' (by simpa using hj) x hx; omega
    · intro j nd hj
      cases j with
      | zero => simp at hj; subst hj; exact h2
      | succ j => intro x hx; have := h6 j nd (by simpa using hj) x hx; rwa [show i + 1 + j = i + (j + 1) from by omega] at this
theorem edges_of {ops : Array Oper} {nds : List (List Nat)} (h : edgeOk 0 (ops.toList.map (·.after)) nds = true) : Edges (ancAll [] (ops.toList.map (·.after))) ops nds := by
  obtain ⟨h1, h2, h3⟩ := edgeIn_spec h
  refine ⟨fun i o hi a ha => ?_, fun i o hi x hx => ?_, fun i nd hi d hd => ?_, by simpa using h1⟩
  · have := anc_mem (ops.toList.map (·.after)) [] i o.after (by simp [hi]) a (by simpa using ha)
    exact this
  · have := h2 i o.after (by simp [hi]) x hx
    omega
  · have := h3 i nd hi d hd
    rwa [Nat.zero_add] at this

/-- What is done has all done that comes ahead of it. -/
def Good (A : List (List Nat)) (listed : Array Bool) : Prop := ∀ j, listed.getD j false = true → ∀ a ∈ A.getD j [], listed.getD a false = true
theorem Good.ready {A : List (List Nat)} {ops : Array Oper} {nds : List (List Nat)} {listed : Array Bool} (hE : Edges A ops nds) (h : Good A listed) {i : Nat} (hi : i ∈ Region.ready .any ops listed) : ∀ a ∈ A.getD i [], listed.getD a false = true := by
  obtain ⟨_, o, h1, h2⟩ := mem_ready.1 hi
  intro a ha
  obtain ⟨x, hx, hb, h3⟩ := hE.anc i o h1 a ha
  have hon := h2 x hx hb
  rcases h3 with rfl | h3
  · exact hon
  · exact h _ hon a h3
theorem Good.set {A : List (List Nat)} {listed : Array Bool} {i : Nat} (h : Good A listed) (hi : ∀ a ∈ A.getD i [], listed.getD a false = true) : Good A (listed.setIfInBounds i true) := by
  intro j hj a ha
  by_cases hij : i = j
  · subst hij; exact getD_set_true (hi a ha)
  · rw [getD_set_ne false hij] at hj
    exact getD_set_true (h j hj a ha)

/-- Each value goes into its slot. -/
def shape : Nat → List Oper → Bool
  | _, [] => true
  | d, o :: os => (o.dst == some d) && shape (d + 1) os
theorem shape_at : ∀ {os : List Oper} {d : Nat}, shape d os = true → ∀ {j : Nat} {o : Oper}, os[j]? = some o → o.dst = some (d + j)
  | [], d, h, j, o, hj => by simp at hj
  | x :: os, d, h, j, o, hj => by
    simp only [shape, Bool.and_eq_true, beq_iff_eq] at h
    obtain ⟨h2, h3⟩ := h
    cases j with
    | zero => simp at hj; subst hj; exact h2
    | succ j =>
      rw [shape_at h3 (j := j) (o := o) (by simpa using hj)]; congr 1; omega
def plainO (o : Oper) : Bool := o.guard.isNone
theorem plainO_at {os : List Oper} (h : os.all plainO = true) {j : Nat} {o : Oper} (hj : os[j]? = some o) : o.guard = none := by
  have := List.all_eq_true.1 h o (List.mem_of_getElem? hj)
  simpa [plainO] using this
/-- What is needed by operations each of which waits for all ahead. -/
def allAhead : Nat → Nat → List (List Nat)
  | _, 0 => []
  | k, n + 1 => List.range k :: allAhead (k + 1) n
theorem length_allAhead : ∀ (n k : Nat), (allAhead k n).length = n
  | 0, _ => rfl
  | n + 1, k => by simp [allAhead, length_allAhead n]
theorem allAhead_at : ∀ {n k j : Nat}, j < n → (allAhead k n)[j]? = some (List.range (k + j))
  | 0, _, _, h => by omega
  | n + 1, k, 0, _ => rfl
  | n + 1, k, j + 1, h => by
    rw [allAhead, List.getElem?_cons_succ, allAhead_at (by omega)]; congr 2; omega

/-- What an operation does: nothing, where its guard is not met. -/
def GWp (P : Program) (Q : Exit → Act → World → Prop) (n i : Nat) (o : Oper) (a : Act) (w : World) (K : Act → World → Prop) : Prop :=
  match o.guard with
  | none => OW P o a w K Q
  | some (j, want) => ∃ b, j < i ∧ get a (n + j) = .bool b ∧ (b = want → OW P o a w K Q) ∧ (b ≠ want → K (a.put (some (n + i)) undef) w)
/-- What one operation must do, whichever ones are done. -/
def OpOk (P : Program) (Q : Exit → Act → World → Prop) (l0 : List Rng) (n : Nat) (a0 : Act) (w0 : World) (sps : List Sp) (i : Nat) (o : Oper) (s : Sp) : Prop :=
  ∀ a w, Kept n a0 a → Fr l0 w0 w → (∀ d ∈ s.need, ∃ u, sps[d]? = some u ∧ u.R (get a (n + d)) w) →
    GWp P Q n i o a w (fun a' w' => ∃ v, a' = a.put (some (n + i)) v ∧ s.R v w' ∧ Fr (if s.wr then l0 else []) w w')
def opsOk (P : Program) (Q : Exit → Act → World → Prop) (l0 : List Rng) (n : Nat) (a0 : Act) (w0 : World) (sps : List Sp) : Nat → List Oper → List Sp → Prop
  | _, [], _ => True
  | _, _, [] => True
  | i, o :: os, s :: ss => OpOk P Q l0 n a0 w0 sps i o s ∧ opsOk P Q l0 n a0 w0 sps (i + 1) os ss
theorem opsOk_at {P : Program} {Q : Exit → Act → World → Prop} {l0 : List Rng} {n : Nat} {a0 : Act} {w0 : World} {sps : List Sp} : ∀ {os : List Oper} {ss : List Sp} {i : Nat}, opsOk P Q l0 n a0 w0 sps i os ss →
    ∀ {j : Nat} {o : Oper} {s : Sp}, os[j]? = some o → ss[j]? = some s → OpOk P Q l0 n a0 w0 sps (i + j) o s
  | [], ss, i, h, j, o, s, hj, hs => by simp at hj
  | _ :: _, [], i, h, j, o, s, hj, hs => by simp at hs
  | x :: os, y :: ss, i, h, j, o, s, hj, hs => by
    cases j with
    | zero => simp at hj hs; subst hj; subst hs; exact h.1
    | succ j =>
      have := opsOk_at h.2 (j := j) (o := o) (s := s) (by simpa using hj) (by simpa using hs)
      rwa [show i + 1 + j = i + (j + 1) from by omega] at this

def Full (l0 : List Rng) (n : Nat) (a0 : Act) (w0 : World) (sps : List Sp) (a : Act) (w : World) : Prop :=
  Kept n a0 a ∧ Fr l0 w0 w ∧ ∀ (i : Nat) (s : Sp), sps[i]? = some s → s.R (get a (n + i)) w

theorem one_uniq {sps : List Sp} (hone : (sps.filter (·.wr)).length ≤ 1) : ∀ (i j : Nat) (s t : Sp), sps[i]? = some s → sps[j]? = some t → s.wr = true → t.wr = true → i = j := by
  induction sps with
  | nil => intro i j s t hi; simp at hi
  | cons x xs ih =>
    intro i j s t hi hj hs ht
    have key : ∀ u ∈ xs, u.wr = true → x.wr = true → False := by
      intro u hu hw hx
      have : u ∈ xs.filter (·.wr) := List.mem_filter.2 ⟨hu, hw⟩
      have := List.length_pos_of_mem this
      rw [List.filter_cons, if_pos hx, List.length_cons] at hone
      omega
    cases i with
    | zero =>
      cases j with
      | zero => rfl
      | succ j =>
        simp at hi hj
        subst hi
        exact (key t (List.mem_of_getElem? hj) ht hs).elim
    | succ i =>
      cases j with
      | zero =>
        simp at hi hj
        subst hj
        exact (key s (List.mem_of_getElem? hi) hs ht).elim
      | succ j =>
        congr 1
        refine ih ?_ i j s t (by simpa using hi) (by simpa using hj) hs ht
        refine Nat.le_trans ?_ hone
        rw [List.filter_cons]; split <;> simp

theorem count_set_false {l : List Bool} {i : Nat} (h : l[i]? = some false) : (l.set i true).count false + 1 = l.count false := by
  induction l generalizing i with
  | nil => simp at h
  | cons x l ih =>
    cases i with
    | zero => simp at h; subst h; simp
    | succ i => simp at h; have := ih h; simp [List.count_cons]; omega

variable {P : Program} {Q : Exit → Act → World → Prop}

theorem getD_both {listed : Array Bool} {i : Nat} (h : i < listed.size) : listed.getD i true = listed.getD i false := by
  simp [Array.getD_eq_getD_getElem?, h]

theorem seq_core {os rest : List Oper} {ops : Array Oper} (hops : ops.toList = os ++ rest) {A : List (List Nat)} {ns : List (List Nat)} (hE : Edges A ops (ns ++ allAhead os.length rest.length)) (hg : rest.all plainO = true) :
    ∀ (r : List Oper) (j fuel : Nat) (listed : Array Bool) (a : Act) (w : World), rest.drop j = r → j ≤ rest.length → r.length ≤ fuel → listed.size = ops.size → Good A listed → (∀ i, i < os.length + j → listed.getD i true = true) →
      (∀ i, os.length + j ≤ i → i < ops.size → listed.getD i true = false) → wpl P Q r a w → wpAny P .any ops Q fuel listed a w := by
  have hsize : ops.size = os.length + rest.length := by rw [← Array.length_toList, hops, List.length_append]
  have hget : ∀ i : Nat, ops[i]? = (os ++ rest)[i]? := fun i => by rw [← hops]; simp
  have hnl : ns.length = os.length := by have := hE.len; rw [List.length_append, length_allAhead] at this; omega
  have hwait : ∀ j, j < rest.length → ∀ d, d < os.length + j → d ∈ A.getD (os.length + j) [] := by
    intro j hj d hd
    refine (hE.need (os.length + j) (List.range (os.length + j)) ?_ d (List.mem_range.2 hd)).2
    rw [List.getElem?_append_right (by omega), hnl, Nat.add_sub_cancel_left, allAhead_at hj]
  intro r
  induction r with
  | nil =>
    intro j fuel listed a w hr hj hf hs hgd hl hn h
    have hjl : rest.length ≤ j := by rwa [List.drop_eq_nil_iff] at hr
    refine wpAny_done ?_ h fuel
    rw [List.eq_nil_iff_forall_not_mem]
    intro i hi
    obtain ⟨h2, o, h3, _⟩ := mem_ready.1 hi
    have := (Array.getElem?_eq_some_iff.1 h3).1
    rw [hl i (by omega)] at h2; cases h2
  | cons o r ih =>
    intro j fuel listed a w hr hj hf hs hgd hl hn h
    have hjl : j < rest.length := by
      rcases Nat.lt_or_ge j rest.length with h | h
      · exact h
      · rw [List.drop_of_length_le h] at hr; cases hr
    have hoj : rest[j]? = some o := by
      have : (rest.drop j)[0]? = some o := by rw [hr]; rfl
      rw [List.getElem?_drop] at this
      simpa using this
    have hro : ops[os.length + j]? = some o := by rw [hget, List.getElem?_append_right (by omega)]; simpa using hoj
    have hgu := plainO_at hg hoj
    have hdrop : rest.drop (j + 1) = r := by
      have : (rest.drop j).drop 1 = r := by rw [hr]; rfl
      rwa [List.drop_drop] at this
    cases fuel with
    | zero => simp at hf
    | succ fuel =>
      have hmem : os.length + j ∈ Region.ready .any ops listed := by
        rw [mem_ready]
        refine ⟨hn _ (Nat.le_refl _) (by omega), o, hro, fun e he _ => ?_⟩
        have hlt := hE.back _ o hro e he
        have := hl e.on hlt
        rwa [getD_both (by omega)] at this
      refine ⟨fun h0 => (by rw [h0] at hmem; cases hmem), fun i hi => ?_⟩
      have hij : i = os.length + j := by
        obtain ⟨h2, o', h3, _⟩ := mem_ready.1 hi
        have hil := (Array.getElem?_eq_some_iff.1 h3).1
        rcases Nat.lt_trichotomy i (os.length + j) with h4 | h4 | h4
        · rw [hl i h4] at h2; cases h2
        · exact h4
        · exfalso
          have := hgd.ready hE hi (os.length + j) (by have := hwait (i - os.length) (by omega) (os.length + j) (by omega); rwa [show os.length + (i - os.length) = i from by omega] at this)
          have hno := hn (os.length + j) (Nat.le_refl _) (by omega)
          rw [getD_both (by omega), this] at hno; cases hno
      subst hij
      have hwd : Region.wanted o (yielded ops a.tmps) = true := by simp [Region.wanted, hgu]
      simp only [wpOp, hro, hwd, if_true]
      left
      refine Oper.upon_mono (fun a' w' h' => ?_) _ (show OW P o a w (wpl P Q r) Q from h).sem
      refine ih (j + 1) fuel _ a' w' hdrop (by omega) (by simp at hf; omega) (by simpa using hs) (hgd.set (hgd.ready hE hi)) ?_ ?_ h'
      · intro i hi
        by_cases he : os.length + j = i
        · subst he
          have hle : os.length + j < listed.size := by omega
          simp [Array.getD_eq_getD_getElem?, hle]
        · rw [getD_set_ne true he]; exact hl i (by omega)
      · intro i hi hi2
        rw [getD_set_ne true (by omega)]; exact hn i (by omega) hi2

theorem any_core {os rest : List Oper} {ops : Array Oper} (hops : ops.toList = os ++ rest) {sps : List Sp} {n : Nat} {l0 : List Rng} {a0 : Act} {w0 : World} {A : List (List Nat)}
    (hE : Edges A ops (sps.map (·.need) ++ allAhead os.length rest.length)) (hsh : shape n os = true) (hg : rest.all plainO = true)
    (hstab : ∀ s ∈ sps, ∀ v w w', Fr (if s.wr then [] else l0) w w' → s.R v w → s.R v w') (hone : (sps.filter (·.wr)).length ≤ 1)
    (hok : opsOk P Q l0 n a0 w0 sps 0 os sps) (hsz : n + os.length ≤ a0.tmps.size)
    (hlast : ∀ a w, Full l0 n a0 w0 sps a w → wpl P Q rest a w) :
    ∀ (fuel : Nat) (listed : Array Bool) (a : Act) (w : World), listed.size = ops.size → Good A listed → (listed.toList.take os.length).count false + rest.length = fuel → (∀ i, os.length ≤ i → i < ops.size → listed.getD i true = false) →
      Kept n a0 a → Fr l0 w0 w → (∀ i s, sps[i]? = some s → listed.getD i false = true → s.R (get a (n + i)) w) → wpAny P .any ops Q fuel listed a w := by
  have hsize : ops.size = os.length + rest.length := by rw [← Array.length_toList, hops, List.length_append]
  have hlen : os.length = sps.length := by have := hE.len; rw [List.length_append, length_allAhead, List.length_map] at this; omega
  have hget : ∀ i : Nat, ops[i]? = (os ++ rest)[i]? := fun i => by rw [← hops]; simp
  have huniq := one_uniq hone
  have hnl : (sps.map (·.need)).length = os.length := by rw [List.length_map, hlen]
  have fin : ∀ (fuel : Nat) (listed : Array Bool) (a : Act) (w : World), listed.size = ops.size → Good A listed → rest.length ≤ fuel → (∀ i, os.length ≤ i → i < ops.size → listed.getD i true = false) → (∀ i, i < os.length → listed.getD i true = true) →
      Kept n a0 a → Fr l0 w0 w → (∀ i s, sps[i]? = some s → listed.getD i false = true → s.R (get a (n + i)) w) → wpAny P .any ops Q fuel listed a w := by
    intro fuel listed a w hs hgd hf hr hl hk hfr hR
    refine seq_core hops hE hg rest 0 fuel listed a w (by simp) (Nat.zero_le _) hf hs hgd (fun i hi => hl i (by omega)) (fun i hi => hr i (by omega)) (hlast a w ⟨hk, hfr, fun i s hi => hR i s hi ?_⟩)
    have hi' : i < os.length := by rw [hlen]; exact (List.getElem?_eq_some_iff.1 hi).1
    rw [← getD_both (by omega)]; exact hl i hi'
  have tr : ∀ listed : Array Bool, listed.size = ops.size → (listed.toList.take os.length).count false = 0 → ∀ i, i < os.length → listed.getD i true = true := by
    intro listed hs hc i hi
    have hle : i < listed.size := by omega
    have : listed[i] ≠ false := by
      intro h
      have hm : false ∈ listed.toList.take os.length := by
        rw [List.mem_take_iff_getElem]
        exact ⟨i, by simp; omega, by simpa using h⟩
      have := List.count_pos_iff.2 hm
      omega
    simp [Array.getD_eq_getD_getElem?, hle] at this ⊢
    exact this
  intro fuel
  induction fuel with
  | zero =>
    intro listed a w hs hgd hc hr hk hf hR
    exact fin 0 listed a w hs hgd (by omega) hr (tr listed hs (by omega)) hk hf hR
  | succ fuel ih =>
    intro listed a w hs hgd hc hr hk hf hR
    by_cases hcc : (listed.toList.take os.length).count false = 0
    · exact fin _ listed a w hs hgd (by omega) hr (tr listed hs hcc) hk hf hR
    · have hun : ∃ j, j < os.length ∧ listed.getD j true = false := by
        have : false ∈ listed.toList.take os.length := List.count_pos_iff.1 (by omega)
        rw [List.mem_take_iff_getElem] at this
        obtain ⟨j, hj, he⟩ := this
        have hjl : j < listed.size := by simp at hj; omega
        refine ⟨j, by simp at hj; omega, ?_⟩
        simp at he
        simp [Array.getD_eq_getD_getElem?, hjl, he]
      refine ⟨fun h0 => ?_, fun i hi => ?_⟩
      · exfalso
        have hready : ∀ i, i < ops.size → listed.getD i true = true := by
          intro i
          induction i using Nat.strongRecOn with
          | ind i ih2 =>
            intro hi
            rcases hli : listed.getD i true with _ | _
            · exfalso
              have : i ∈ Region.ready .any ops listed := by
                rw [mem_ready]
                refine ⟨hli, ops[i], by simp [hi], fun e he _ => ?_⟩
                have hlt := hE.back i ops[i] (by simp [hi]) e he
                have := ih2 e.on hlt (by omega)
                rwa [getD_both (by omega)] at this
              rw [h0] at this
              cases this
            · rfl
        obtain ⟨j, h1, h2⟩ := hun
        have := hready j (by omega)
        rw [h2] at this; cases this
      · obtain ⟨hli, o, ho, hafter⟩ := mem_ready.1 hi
        have hiops : i < ops.size := (Array.getElem?_eq_some_iff.1 ho).1
        have hilt : i < listed.size := by omega
        have hio : i < os.length := by
          rcases Nat.lt_or_ge i os.length with h | h
          · exact h
          · exfalso
            obtain ⟨j, h1, h2⟩ := hun
            have hin : j ∈ A.getD i [] := by
              refine (hE.need i (List.range i) ?_ j (List.mem_range.2 (by omega))).2
              rw [List.getElem?_append_right (by omega), hnl, allAhead_at (by omega)]; congr 2; omega
            have := hgd.ready hE hi j hin
            rw [getD_both (by omega), this] at h2; cases h2
        have hls : (listed.toList.take os.length)[i]? = some false := by
          rw [List.getElem?_take, if_pos hio]
          simp [Array.getD_eq_getD_getElem?, hilt] at hli
          simp [hilt, hli]
        have hcount : ((listed.setIfInBounds i true).toList.take os.length).count false + rest.length = fuel := by
          have := count_set_false hls
          rw [Array.toList_setIfInBounds, List.take_set]
          omega
        have hoi : os[i]? = some o := by rw [hget, List.getElem?_append_left hio] at ho; exact ho
        have hd := shape_at hsh hoi
        have hsl : i < sps.length := by omega
        have hsi : sps[i]? = some sps[i] := by simp [hsl]
        generalize sps[i] = s at hsi
        have hop := opsOk_at hok hoi hsi
        rw [Nat.zero_add] at hop
        have hgo := hop a w hk hf (fun d hdn => by
          obtain ⟨h1, h2⟩ := hE.need i s.need (by rw [List.getElem?_append_left (by omega), List.getElem?_map, hsi]; rfl) d hdn
          have hds : d < sps.length := by omega
          exact ⟨sps[d], by simp [hds], hR d _ (by simp [hds]) (hgd.ready hE hi d h2)⟩)
        suffices hsuf : ∀ a' w', (∃ v, a' = a.put (some (n + i)) v ∧ s.R v w' ∧ Fr (if s.wr then l0 else []) w w') → wpAny P .any ops Q fuel (listed.setIfInBounds i true) a' w' by
          simp only [wpOp, ho]
          unfold GWp at hgo
          cases hgg : o.guard with
          | none =>
            simp only [hgg] at hgo
            have hw : Region.wanted o (yielded ops a.tmps) = true := by simp [Region.wanted, hgg]
            simp only [hw, if_true]
            exact .inl (Oper.upon_mono hsuf _ hgo.sem)
          | some g =>
            obtain ⟨j, want⟩ := g
            simp only [hgg] at hgo
            obtain ⟨b, hji, hgb, hy, hno⟩ := hgo
            have hyl : yielded ops a.tmps j = some b := by
              have hjo : os[j]? = some os[j] := by simp [show j < os.length from by omega]
              have hjd := shape_at hsh hjo
              have hjops : ops[j]? = some os[j] := by rw [hget, List.getElem?_append_left (by omega)]; exact hjo
              have htl : a.tmps[n + j]? = some (.bool b) := by
                have hlt : n + j < a.tmps.size := by have := hk.size; omega
                have := hgb
                unfold get at this
                rw [Array.getD_eq_getD_getElem?] at this
                simp [hlt] at this ⊢
                exact this
              simp [yielded, hjops, hjd, htl]
            have hw : Region.wanted o (yielded ops a.tmps) = (b == want) := by simp only [Region.wanted, hgg, hyl]; cases b <;> cases want <;> rfl
            rw [hw]
            by_cases hbw : b = want
            · simp only [hbw, beq_self_eq_true, if_true]
              exact .inl (Oper.upon_mono hsuf _ (hy hbw).sem)
            · have : (b == want) = false := by cases b <;> cases want <;> first | rfl | exact absurd rfl hbw
              rw [this]
              simp only [Bool.false_eq_true, if_false]
              rw [hd]
              exact hsuf _ _ (hno hbw)
        rintro a' w' ⟨v, rfl, hv, hfv⟩
        have hff : Fr l0 w w' := by
          cases hwr : s.wr with
          | true => simpa [hwr] using hfv
          | false => rw [hwr] at hfv; exact Fr.nil hfv
        have hia : n + i < a.tmps.size := by have := hk.size; omega
        refine ih _ _ _ (by simpa using hs) (hgd.set (hgd.ready hE hi)) hcount ?_ (hk.put (by omega) _) (hf.tr hff) ?_
        · intro j h1 h2
          rw [getD_set_ne true (by omega)]
          exact hr j h1 h2
        · intro j t hj hlj
          by_cases hij : i = j
          · subst hij
            rw [hsi] at hj
            obtain rfl := Option.some.inj hj
            rw [get_put_same hia]; exact hv
          · rw [getD_set_ne false hij] at hlj
            rw [get_put_ne (by omega)]
            refine hstab t (List.mem_of_getElem? hj) _ w w' ?_ (hR j t hj hlj)
            cases htw : t.wr with
            | false => simpa using hff
            | true =>
              cases hsw : s.wr with
              | true => exact absurd (huniq i j s t hsi hj hsw htw) hij
              | false => rw [hsw] at hfv; simpa using hfv

/-- A value that is known ahead. -/
def spC (nd : List Nat) (x : Value) : Sp := ⟨nd, false, fun v _ => v = x⟩
/-- A value of which something is known that lasts. -/
def spR (nd : List Nat) (R : Value → World → Prop) : Sp := ⟨nd, false, R⟩
def spW (nd : List Nat) (R : Value → World → Prop) : Sp := ⟨nd, true, R⟩

/-- What is known of an operation's value. -/
def Had (sps : List Sp) (n : Nat) (nd : List Nat) (a : Act) (w : World) : Prop := ∀ d ∈ nd, ∃ u, sps[d]? = some u ∧ u.R (get a (n + d)) w
theorem Had.at {sps : List Sp} {n : Nat} {nd : List Nat} {a : Act} {w : World} (h : Had sps n nd a w) {d : Nat} {u : Sp} (hd : d ∈ nd) (hu : sps[d]? = some u) : u.R (get a (n + d)) w := by
  obtain ⟨u', h1, h2⟩ := h d hd
  rw [hu] at h1
  obtain rfl := Option.some.inj h1
  exact h2
theorem Had.c {sps : List Sp} {n : Nat} {nd nd' : List Nat} {a : Act} {w : World} {x : Value} (h : Had sps n nd a w) (d : Nat) (hd : d ∈ nd) (hu : sps[d]? = some (spC nd' x)) : get a (n + d) = x := h.at hd hu

/-- An operation whose value is known ahead. -/
theorem op_c {l0 : List Rng} {n : Nat} {a0 : Act} {w0 : World} {sps : List Sp} {i : Nat} {o : Oper} {nd : List Nat} {x : Value}
    (h : ∀ a w, Kept n a0 a → Fr l0 w0 w → Had sps n nd a w → ∀ K : Act → World → Prop, K (a.put (some (n + i)) x) w → OW P o a w K Q) (hg : o.guard = none := by rfl) : OpOk P Q l0 n a0 w0 sps i o (spC nd x) :=
  fun a w hk hf hd => by unfold GWp; rw [hg]; exact h a w hk hf hd _ ⟨x, rfl, rfl, Fr.refl _ _⟩
theorem op_r {l0 : List Rng} {n : Nat} {a0 : Act} {w0 : World} {sps : List Sp} {i : Nat} {o : Oper} {nd : List Nat} {R : Value → World → Prop}
    (h : ∀ a w, Kept n a0 a → Fr l0 w0 w → Had sps n nd a w → ∀ K : Act → World → Prop, (∀ x w', R x w' → Fr [] w w' → K (a.put (some (n + i)) x) w') → OW P o a w K Q) (hg : o.guard = none := by rfl) : OpOk P Q l0 n a0 w0 sps i o (spR nd R) :=
  fun a w hk hf hd => by unfold GWp; rw [hg]; exact h a w hk hf hd _ fun x _ hx hf' => ⟨x, rfl, hx, hf'⟩
theorem op_w {l0 : List Rng} {n : Nat} {a0 : Act} {w0 : World} {sps : List Sp} {i : Nat} {o : Oper} {nd : List Nat} {R : Value → World → Prop}
    (h : ∀ a w, Kept n a0 a → Fr l0 w0 w → Had sps n nd a w → ∀ K : Act → World → Prop, (∀ x w', R x w' → Fr l0 w w' → K (a.put (some (n + i)) x) w') → OW P o a w K Q) (hg : o.guard = none := by rfl) : OpOk P Q l0 n a0 w0 sps i o (spW nd R) :=
  fun a w hk hf hd => by unfold GWp; rw [hg]; exact h a w hk hf hd _ fun x _ hx hf' => ⟨x, rfl, hx, hf'⟩

/-- An operation behind a guard that is met. -/
theorem op_gy {l0 : List Rng} {n : Nat} {a0 : Act} {w0 : World} {sps : List Sp} {i j : Nat} {o : Oper} {s : Sp} {want : Bool} (hg : o.guard = some (j, want)) (hj : j < i) (hjn : ∀ a w, Had sps n s.need a w → get a (n + j) = .bool want)
    (h : OpOk P Q l0 n a0 w0 sps i { o with guard := none } s) : OpOk P Q l0 n a0 w0 sps i o s :=
  fun a w hk hf hd => by
    have := h a w hk hf hd
    unfold GWp at this ⊢
    rw [hg]
    exact ⟨want, hj, hjn a w hd, fun _ => ⟨(show OW P { o with guard := none } a w _ Q from this).sem⟩, fun hne => absurd rfl hne⟩
/-- An operation behind a guard that is not met. -/
theorem op_gn {l0 : List Rng} {n : Nat} {a0 : Act} {w0 : World} {sps : List Sp} {i j : Nat} {o : Oper} {nd : List Nat} {want : Bool} (hg : o.guard = some (j, want)) (hj : j < i) (hjn : ∀ a w, Had sps n nd a w → get a (n + j) = .bool !want) :
    OpOk P Q l0 n a0 w0 sps i o (spC nd undef) :=
  fun a w hk hf hd => by
    unfold GWp
    rw [hg]
    exact ⟨!want, hj, hjn a w hd, fun h => by cases want <;> simp at h, fun _ => ⟨undef, rfl, rfl, Fr.refl _ _⟩⟩

/-- What lasts. -/
def Lasts (l : List Rng) (R : Value → World → Prop) : Prop := ∀ v w w', Fr l w w' → R v w → R v w'
def lastsAll (l0 : List Rng) : List Sp → Prop
  | [] => True
  | s :: ss => Lasts (if s.wr then [] else l0) s.R ∧ lastsAll l0 ss
theorem lastsAll_at {l0 : List Rng} : ∀ {ss : List Sp}, lastsAll l0 ss → ∀ s ∈ ss, ∀ v w w', Fr (if s.wr then [] else l0) w w' → s.R v w → s.R v w'
  | [], _, s, hs => by cases hs
  | x :: ss, h, s, hs => by
    rcases List.mem_cons.1 hs with rfl | hs
    · exact h.1
    · exact lastsAll_at h.2 s hs
theorem lasts_c (l : List Rng) (nd : List Nat) (x : Value) : Lasts (if (spC nd x).wr then [] else l) (spC nd x).R := fun _ _ _ _ h => h

/-- A region that draws: the first operations in any order, the others behind these, one by one. -/
theorem wp_drawR {id : Nat} {os rest : List Oper} {a0 : Act} {w0 : World} (sps : List Sp) (n : Nat) (l0 : List Rng) (hm : P.follows .mixedOrders = true)
    (he : edgeOk 0 ((os ++ rest).map (·.after)) (sps.map (·.need) ++ allAhead os.length rest.length) = true) (hs : shape n os = true) (hg : rest.all plainO = true)
    (hone : (sps.filter (·.wr)).length ≤ 1) (hsz : n + os.length ≤ a0.tmps.size)
    (hstab : lastsAll l0 sps)
    (hok : opsOk P Q l0 n a0 w0 sps 0 os sps)
    (hlast : ∀ a w, Kept n a0 a → Fr l0 w0 w → Had sps n (List.range sps.length) a w → wpl P Q rest a w) :
    (Code.region id ⟨os ++ rest⟩ true).wp P Q a0 w0 := by
  refine wp_region_any hm ?_
  have hf : Fr l0 w0 { w0 with drawn := w0.drawn + 1 } := Fr.drew l0 w0
  have hrep : ∀ i, (Array.replicate (os.length + rest.length) false).getD i true = false ∨ os.length + rest.length ≤ i := by
    intro i
    rcases Nat.lt_or_ge i (os.length + rest.length) with h | h
    · left; rw [Array.getD_eq_getD_getElem?, Array.getElem?_replicate]; simp [h]
    · exact .inr h
  have hrep2 : ∀ i, (Array.replicate (os.length + rest.length) false).getD i false = true → False := by
    intro i h
    rw [Array.getD_eq_getD_getElem?, Array.getElem?_replicate] at h
    split at h <;> simp at h
  have hE := edges_of (ops := ⟨os ++ rest⟩) he
  refine any_core (os := os) (rest := rest) (ops := ⟨os ++ rest⟩) (a0 := a0) (w0 := w0) rfl hE hs hg (lastsAll_at hstab) hone hok hsz (fun a w h => hlast a w h.1 h.2.1 fun d hd => ?_) _ _ a0 _ (by simp) ?_ (by simp) ?_ (Kept.refl _ _) hf ?_
  · have hd' := List.mem_range.1 hd
    exact ⟨sps[d], by simp [hd'], h.2.2 d _ (by simp [hd'])⟩
  · intro j hj
    simp only [List.size_toArray, List.length_append] at hj
    exact (hrep2 j hj).elim
  · intro i h1 h2
    simp only [List.size_toArray, List.length_append] at h2 ⊢
    rcases hrep i with h | h
    · exact h
    · omega
  · intro i s hi h
    simp only [List.size_toArray, List.length_append] at h
    exact (hrep2 i h).elim
theorem wp_drawE {id : Nat} {os : List Oper} {o : Oper} {a0 : Act} {w0 : World} (sps : List Sp) (n : Nat) (l0 : List Rng) (hm : P.follows .mixedOrders = true)
    (he : edgeOk 0 ((os ++ [o]).map (·.after)) (sps.map (·.need) ++ [List.range os.length]) = true) (hs : shape n os = true) (hg : o.guard = none)
    (hone : (sps.filter (·.wr)).length ≤ 1) (hsz : n + os.length ≤ a0.tmps.size)
    (hstab : lastsAll l0 sps)
    (hok : opsOk P Q l0 n a0 w0 sps 0 os sps)
    (hlast : ∀ a w, Kept n a0 a → Fr l0 w0 w → Had sps n (List.range sps.length) a w → OW P o a w (Q .normal) Q) :
    (Code.region id ⟨os ++ [o]⟩ true).wp P Q a0 w0 :=
  wp_drawR (rest := [o]) sps n l0 hm he hs (by simp [plainO, hg]) hone hsz hstab hok fun a w h1 h2 h3 => hlast a w h1 h2 h3
theorem wp_drawE0 {id : Nat} {os : List Oper} {a0 : Act} {w0 : World} (sps : List Sp) (n : Nat) (l0 : List Rng) (hm : P.follows .mixedOrders = true)
    (he : edgeOk 0 (os.map (·.after)) (sps.map (·.need)) = true) (hs : shape n os = true)
    (hone : (sps.filter (·.wr)).length ≤ 1) (hsz : n + os.length ≤ a0.tmps.size)
    (hstab : lastsAll l0 sps)
    (hok : opsOk P Q l0 n a0 w0 sps 0 os sps)
    (hlast : ∀ a w, Kept n a0 a → Fr l0 w0 w → Had sps n (List.range sps.length) a w → Q .normal a w) :
    (Code.region id ⟨os⟩ true).wp P Q a0 w0 := by
  have := wp_drawR (id := id) (os := os) (rest := []) sps n l0 hm (by simpa [allAhead] using he) hs rfl hone hsz hstab hok hlast
  simpa using this

/-! ### no order drawn, but guards -/
def needLt : Nat → List Sp → Bool
  | _, [] => true
  | i, s :: ss => s.need.all (fun d => decide (d < i)) && needLt (i + 1) ss
theorem needLt_at : ∀ {ss : List Sp} {i : Nat}, needLt i ss = true → ∀ {j : Nat} {s : Sp}, ss[j]? = some s → ∀ d ∈ s.need, d < i + j
  | [], _, _, j, s, hj => by simp at hj
  | x :: ss, i, h, j, s, hj => by
    simp only [needLt, Bool.and_eq_true, List.all_eq_true, decide_eq_true_eq] at h
    cases j with
    | zero => simp at hj; subst hj; exact h.1
    | succ j => intro d hd; have := needLt_at h.2 (j := j) (s := s) (by simpa using hj) d hd; omega

theorem seqG_core {os : List Oper} {ops : Array Oper} (hops : ops.toList = os) {sps : List Sp} {n : Nat} {l0 : List Rng} {a0 : Act} {w0 : World} (hlen : os.length = sps.length) (hnd : needLt 0 sps = true) (hsh : shape n os = true)
    (hstab : ∀ s ∈ sps, ∀ v w w', Fr (if s.wr then [] else l0) w w' → s.R v w → s.R v w') (hone : (sps.filter (·.wr)).length ≤ 1)
    (hok : opsOk P Q l0 n a0 w0 sps 0 os sps) (hsz : n + os.length ≤ a0.tmps.size) (hlast : ∀ a w, Full l0 n a0 w0 sps a w → Q .normal a w) :
    ∀ (k i : Nat) (a : Act) (w : World), i + k = os.length → Kept n a0 a → Fr l0 w0 w → (∀ j s, j < i → sps[j]? = some s → s.R (get a (n + j)) w) → wpOps P ops Q (List.range' i k) a w := by
  have huniq := one_uniq hone
  have hget : ∀ i : Nat, ops[i]? = os[i]? := fun i => by rw [← hops]; simp
  intro k
  induction k with
  | zero =>
    intro i a w hi hk hf hR
    exact hlast a w ⟨hk, hf, fun j s hj => hR j s (by have := (List.getElem?_eq_some_iff.1 hj).1; omega) hj⟩
  | succ k ih =>
    intro i a w hi hk hf hR
    have hio : i < os.length := by omega
    have hoi : os[i]? = some os[i] := by simp [hio]
    generalize os[i] = o at hoi
    have ho : ops[i]? = some o := by rw [hget, hoi]
    have hd := shape_at hsh hoi
    have hsi : sps[i]? = some sps[i] := by simp [show i < sps.length from by omega]
    generalize sps[i] = s at hsi
    have hop := opsOk_at hok hoi hsi
    rw [Nat.zero_add] at hop
    have hgo := hop a w hk hf (fun d hdn => by
      have h1 := needLt_at hnd hsi d hdn
      have hds : d < sps.length := by omega
      exact ⟨sps[d], by simp [hds], hR d _ (by omega) (by simp [hds])⟩)
    rw [List.range'_succ, wpOps_cons]
    suffices hsuf : ∀ a' w', (∃ v, a' = a.put (some (n + i)) v ∧ s.R v w' ∧ Fr (if s.wr then l0 else []) w w') → wpOps P ops Q (List.range' (i + 1) k) a' w' by
      simp only [wpOp, ho]
      unfold GWp at hgo
      cases hgg : o.guard with
      | none =>
        simp only [hgg] at hgo
        have hw : Region.wanted o (yielded ops a.tmps) = true := by simp [Region.wanted, hgg]
        simp only [hw, if_true]
        exact .inl (Oper.upon_mono hsuf _ hgo.sem)
      | some g =>
        obtain ⟨j, want⟩ := g
        simp only [hgg] at hgo
        obtain ⟨b, hji, hgb, hy, hno⟩ := hgo
        have hyl : yielded ops a.tmps j = some b := by
          have hjo : os[j]? = some os[j] := by simp [show j < os.length from by omega]
          have hjd := shape_at hsh hjo
          have hjops : ops[j]? = some os[j] := by rw [hget]; exact hjo
          have htl : a.tmps[n + j]? = some (.bool b) := by
            have hlt : n + j < a.tmps.size := by have := hk.size; omega
            have := hgb
            unfold get at this
            rw [Array.getD_eq_getD_getElem?] at this
            simp [hlt] at this ⊢
            exact this
          simp [yielded, hjops, hjd, htl]
        have hw : Region.wanted o (yielded ops a.tmps) = (b == want) := by simp only [Region.wanted, hgg, hyl]; cases b <;> cases want <;> rfl
        rw [hw]
        by_cases hbw : b = want
        · simp only [hbw, beq_self_eq_true, if_true]
          exact .inl (Oper.upon_mono hsuf _ (hy hbw).sem)
        · have : (b == want) = false := by cases b <;> cases want <;> first | rfl | exact absurd rfl hbw
          rw [this]
          simp only [Bool.false_eq_true, if_false]
          rw [hd]
          exact hsuf _ _ (hno hbw)
    rintro a' w' ⟨v, rfl, hv, hfv⟩
    have hff : Fr l0 w w' := by
      cases hwr : s.wr with
      | true => simpa [hwr] using hfv
      | false => rw [hwr] at hfv; exact Fr.nil hfv
    have hia : n + i < a.tmps.size := by have := hk.size; omega
    refine ih (i + 1) _ _ (by omega) (hk.put (by omega) _) (hf.tr hff) ?_
    intro j t hji hj
    by_cases hij : i = j
    · subst hij
      rw [hsi] at hj
      obtain rfl := Option.some.inj hj
      rw [get_put_same hia]; exact hv
    · rw [get_put_ne (by omega)]
      refine hstab t (List.mem_of_getElem? hj) _ w w' ?_ (hR j t (by omega) hj)
      cases htw : t.wr with
      | false => simpa using hff
      | true =>
        cases hsw : s.wr with
        | true => exact absurd (huniq i j s t hsi hj hsw htw) hij
        | false => rw [hsw] at hfv; simpa using hfv

/-- A region that draws no order, word by word. -/
theorem wp_seqG {id : Nat} {os : List Oper} {a0 : Act} {w0 : World} (sps : List Sp) (n : Nat) (l0 : List Rng) (hlen : os.length = sps.length) (hnd : needLt 0 sps = true) (hs : shape n os = true)
    (hone : (sps.filter (·.wr)).length ≤ 1) (hsz : n + os.length ≤ a0.tmps.size) (hstab : lastsAll l0 sps) (hok : opsOk P Q l0 n a0 w0 sps 0 os sps)
    (hlast : ∀ a w, Kept n a0 a → Fr l0 w0 w → Had sps n (List.range sps.length) a w → Q .normal a w) :
    (Code.region id ⟨os⟩ false).wp P Q a0 w0 := by
  refine wp_region ?_
  have := seqG_core (P := P) (Q := Q) (os := os) (ops := ⟨os⟩) rfl hlen hnd hs (lastsAll_at hstab) hone hok hsz (fun a w h => hlast a w h.1 h.2.1 fun d hd => by
    have hd' := List.mem_range.1 hd
    exact ⟨sps[d], by simp [hd'], h.2.2 d _ (by simp [hd'])⟩) os.length 0 a0 w0 (by omega) (Kept.refl _ _) (Fr.refl _ _) (fun j s hj => by omega)
  simpa [List.range_eq_range'] using this

end Go.Kq
