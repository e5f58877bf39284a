/- Regions that draw an order: whichever order it is. -/
import Derived.Test.YtekhigcoccepjaaDoorKqP02
import Derived.Orders
import Derived.ArgAppend
import Derived.Lib.ConvBytes
import Derived.Great.BuildSlice
set_option linter.unusedVariables false
set_option linter.unusedSimpArgs false
namespace Go.Kq
open Go Go.Proofs

/-- What is said of an operation: which ones it needs, whether it writes, what its value is. -/
structure Sp where
  need : List Nat
  wr : Bool
  R : Value → World → Prop

/-! ### what comes ahead of what -/
/-- All that comes ahead of an operation, by its own edges and by those of what comes ahead of it. -/
def ancE (acc : List (List Nat)) (e : Array Edge) : List Nat := e.toList.flatMap fun x => if Region.binds .any x then x.on :: acc.getD x.on [] else []
def ancAll : List (List Nat) → List (Array Edge) → List (List Nat)
  | acc, [] => acc
  | acc, e :: es => ancAll (acc ++ [ancE acc e]) es
def backE (i : Nat) (e : Array Edge) : Bool := e.all fun x => decide (x.on < i)
def needE (e : Array Edge) (d : List Nat) : Bool := d.all fun j => e.any fun x => Region.binds .any x && x.on == j
def edgeIn (A : List (List Nat)) : Nat → List (Array Edge) → List (List Nat) → Bool
  | _, [], [] => true
  | i, e :: es, d :: ds => backE i e && d.all (fun x => decide (x < i) && (A.getD i []).contains x) && edgeIn A (i + 1) es ds
  | _, _, _ => false
/-- Edges lead back, and to what is needed. -/
def edgeOk (i : Nat) (es : List (Array Edge)) (nds : List (List Nat)) : Bool := edgeIn (ancAll [] es) i es nds

theorem anc_pre : ∀ (es : List (Array Edge)) (acc : List (List Nat)) (j : Nat), j < acc.length → (ancAll acc es).getD j [] = acc.getD j []
  | [], _, _, _ => rfl
  | e :: es, acc, j, h => by
    rw [ancAll, anc_pre es _ j (by simp; omega)]
    simp [List.getD_eq_getElem?_getD, List.getElem?_append_left h]
theorem anc_mem : ∀ (es : List (Array Edge)) (acc : List (List Nat)) (i : Nat) (e : Array Edge), es[i]? = some e → ∀ a ∈ (ancAll acc es).getD (acc.length + i) [],
    ∃ x ∈ e, Region.binds .any x = true ∧ (a = x.on ∨ a ∈ (ancAll acc es).getD x.on [])
  | [], _, i, e, h, _, _ => by simp at h
  | e0 :: es, acc, 0, e, h, a, ha => by
    simp at h
    subst h
    rw [ancAll, Nat.add_zero, anc_pre es _ acc.length (by simp)] at ha
    simp only [List.getD_eq_getElem?_getD, List.getElem?_concat_length, Option.getD_some, ancE, List.mem_flatMap] at ha
    obtain ⟨x, hx, ha⟩ := ha
    refine ⟨x, by simpa using hx, ?_⟩
    split at ha
    · rename_i hb
      refine ⟨hb, ?_⟩
      rcases List.mem_cons.1 ha with h | h
      · exact .inl h
      · right
        have hlt : x.on < acc.length := by
          rcases Nat.lt_or_ge x.on acc.length with h1 | h1
          · exact h1
          · rw [List.getElem?_eq_none h1] at h; simp at h
        rw [anc_pre (e0 :: es) acc x.on hlt, List.getD_eq_getElem?_getD]; exact h
    · simp at ha
  | e0 :: es, acc, i + 1, e, h, a, ha => by
    rw [ancAll] at ha ⊢
    have := anc_mem es (acc ++ [ancE acc e0]) i e (by simpa using h) a (by rw [List.length_append]; simpa [Nat.add_assoc, Nat.add_comm 1 i] using ha)
    exact this

/-- What is known of the edges. -/
structure Edges (A : List (List Nat)) (ops : Array Oper) (nds : List (List Nat)) : Prop where
  anc : ∀ (i : Nat) (o : Oper), ops[i]? = some o → ∀ a ∈ A.getD i [], ∃ x ∈ o.after, Region.binds .any x = true ∧ (a = x.on ∨ a ∈ A.getD x.on [])
  back : ∀ (i : Nat) (o : Oper), ops[i]? = some o → ∀ x ∈ o.after, x.on < i
  need : ∀ (i : Nat) (nd : List Nat), nds[i]? = some nd → ∀ d ∈ nd, d < i ∧ d ∈ A.getD i []
  len : nds.length = ops.size

theorem edgeIn_spec {A : List (List Nat)} : ∀ {es : List (Array Edge)} {nds : List (List Nat)} {i : Nat}, edgeIn A i es nds = true → nds.length = es.length ∧ (∀ j e, es[j]? = some e → ∀ x ∈ e, x.on < i + j) ∧
    ∀ j nd, nds[j]? = some nd → ∀ d ∈ nd, d < i + j ∧ d ∈ A.getD (i + j) []
  | [], [], _, _ => ⟨rfl, by simp, by simp⟩
  | [], _ :: _, _, h => by simp [edgeIn] at h
  | _ :: _, [], _, h => by simp [edgeIn] at h
  | e :: es, d :: ds, i, h => by
    simp only [edgeIn, Bool.and_eq_true, backE, Array.all_eq_true_iff_forall_mem, decide_eq_true_eq, List.all_eq_true, List.contains_eq_mem] at h
    obtain ⟨⟨h1, h2⟩, h3⟩ := h
    obtain ⟨h4, h5, h6⟩ := edgeIn_spec h3
    refine ⟨by simp [h4], ?_, ?_⟩
    · intro j e' hj
      cases j with
      | zero => simp at hj; subst hj; exact h1
      | succ j => intro x hx; have := h5 j e' (by simpa using hj) x hx; omega
    · intro j nd hj
      cases j with
      | zero => simp at hj; subst hj; exact h2
      | succ j => intro x hx; have := h6 j nd (by simpa using hj) x hx; rwa [show i + 1 + j = i + (j + 1) from by omega] at this
theorem edges_of {ops : Array Oper} {nds : List (List Nat)} (h : edgeOk 0 (ops.toList.map (·.after)) nds = true) : Edges (ancAll [] (ops.toList.map (·.after))) ops nds := by
  obtain ⟨h1, h2, h3⟩ := edgeIn_spec h
  refine ⟨fun i o hi a ha => ?_, fun i o hi x hx => ?_, fun i nd hi d hd => ?_, by simpa using h1⟩
  · have := anc_mem (ops.toList.map (·.after)) [] i o.after (by simp [hi]) a (by simpa using ha)
    exact this
  · have := h2 i o.after (by simp [hi]) x hx
    omega
  · have := h3 i nd hi d hd
    rwa [Nat.zero_add] at this

/-- What is done has all done that comes ahead of it. -/
def Good (A : List (List Nat)) (listed : Array Bool) : Prop := ∀ j, listed.getD j false = true → ∀ a ∈ A.getD j [], listed.getD a false = true
theorem Good.ready {A : List (List Nat)} {ops : Array Oper} {nds : List (List Nat)} {listed : Array Bool} (hE : Edges A ops nds) (h : Good A listed) {i : Nat} (hi : i ∈ Region.ready .any ops listed) : ∀ a ∈ A.getD i [], listed.getD a false = true := by
  obtain ⟨_, o, h1, h2⟩ := mem_ready.1 hi
  intro a ha
  obtain ⟨x, hx, hb, h3⟩ := hE.anc i o h1 a ha
  have hon := h2 x hx hb
  rcases h3 with rfl | h3
  · exact hon
  · exact h _ hon a h3
theorem Good.set {A : List (List Nat)} {listed : Array Bool} {i : Nat} (h : Good A listed) (hi : ∀ a ∈ A.getD i [], listed.getD a false = true) : Good A (listed.setIfInBounds i true) := by
  intro j hj a ha
  by_cases hij : i = j
  · subst hij; exact getD_set_true (hi a ha)
  · rw [getD_set_ne false hij] at hj
    exact getD_set_true (h j hj a ha)

/-- Each value goes into its slot. -/
def shape : Nat → List Oper → Bool
  | _, [] => true
  | d, o :: os => (o.dst == some d) && shape (d + 1) os
theorem shape_at : ∀ {os : List Oper} {d : Nat}, shape d os = true → ∀ {j : Nat} {o : Oper}, os[j]? = some o → o.dst = some (d + j)
  | [], d, h, j, o, hj => by simp at hj
  | x :: os, d, h, j, o, hj => by
    simp only [shape, Bool.and_eq_true, beq_iff_eq] at h
    obtain ⟨h2, h3⟩ := h
    cases j with
    | zero => simp at hj; subst hj; exact h2
    | succ j =>
      rw [shape_at h3 (j := j) (o := o) (by simpa using hj)]; congr 1; omega
def plainO (o : Oper) : Bool := o.guard.isNone
theorem plainO_at {os : List Oper} (h : os.all plainO = true) {j : Nat} {o : Oper} (hj : os[j]? = some o) : o.guard = none := by
  have := List.all_eq_true.1 h o (List.mem_of_getElem? hj)
  simpa [plainO] using this
/-- What is needed by operations each of which waits for all ahead. -/
def allAhead : Nat → Nat → List (List Nat)
  | _, 0 => []
  | k, n + 1 => List.range k :: allAhead (k + 1) n
theorem length_allAhead : ∀ (n k : Nat), (allAhead k n).length = n
  | 0, _ => rfl
  | n + 1, k => by simp [allAhead, length_allAhead n]
theorem allAhead_at : ∀ {n k j : Nat}, j < n → (allAhead k n)[j]? = some (List.range (k + j))
  | 0, _, _, h => by omega
  | n + 1, k, 0, _ => rfl
  | n + 1, k, j + 1, h => by
    rw [allAhead, List.getElem?_cons_succ, allAhead_at (by omega)]; congr 2; omega

/-- What an operation does: nothing, where its guard is not met. -/
def GWp (P : Program) (Q : Exit → Act → World → Prop) (n i : Nat) (o : Oper) (a : Act) (w : World) (K : Act → World → Prop) : Prop :=
  match o.guard with
  | none => OW P o a w K Q
  | some (j, want) => ∃ b, j < i ∧ get a (n + j) = .bool b ∧ (b = want → OW P o a w K Q) ∧ (b ≠ want → K (a.put (some (n + i)) undef) w)
/-- What one operation must do, whichever ones are done. -/
def OpOk (P : Program) (Q : Exit → Act → World → Prop) (l0 : List Rng) (n : Nat) (a0 : Act) (w0 : World) (sps : List Sp) (i : Nat) (o : Oper) (s : Sp) : Prop :=
  ∀ a w, Kept n a0 a → Fr l0 w0 w → (s.wr = true → Fr [] w0 w) → (∀ d ∈ s.need, ∃ u, sps[d]? = some u ∧ u.R (get a (n + d)) w) →
    GWp P Q n i o a w (fun a' w' => ∃ v, a' = a.put (some (n + i)) v ∧ s.R v w' ∧ Fr (if s.wr then l0 else []) w w')
def opsOk (P : Program) (Q : Exit → Act → World → Prop) (l0 : List Rng) (n : Nat) (a0 : Act) (w0 : World) (sps : List Sp) : Nat → List Oper → List Sp → Prop
  | _, [], _ => True
  | _, _, [] => True
  | i, o :: os, s :: ss => OpOk P Q l0 n a0 w0 sps i o s ∧ opsOk P Q l0 n a0 w0 sps (i + 1) os ss
theorem opsOk_at {P : Program} {Q : Exit → Act → World → Prop} {l0 : List Rng} {n : Nat} {a0 : Act} {w0 : World} {sps : List Sp} : ∀ {os : List Oper} {ss : List Sp} {i : Nat}, opsOk P Q l0 n a0 w0 sps i os ss →
    ∀ {j : Nat} {o : Oper} {s : Sp}, os[j]? = some o → ss[j]? = some s → OpOk P Q l0 n a0 w0 sps (i + j) o s
  | [], ss, i, h, j, o, s, hj, hs => by simp at hj
  | _ :: _, [], i, h, j, o, s, hj, hs => by simp at hs
  | x :: os, y :: ss, i, h, j, o, s, hj, hs => by
    cases j with
    | zero => simp at hj hs; subst hj; subst hs; exact h.1
    | succ j =>
      have := opsOk_at h.2 (j := j) (o := o) (s := s) (by simpa using hj) (by simpa using hs)
      rwa [show i + 1 + j = i + (j + 1) from by omega] at this

def Full (l0 : List Rng) (n : Nat) (a0 : Act) (w0 : World) (sps : List Sp) (a : Act) (w : World) : Prop :=
  Kept n a0 a ∧ Fr l0 w0 w ∧ ∀ (i : Nat) (s : Sp), sps[i]? = some s → s.R (get a (n + i)) w

theorem one_uniq {sps : List Sp} (hone : (sps.filter (·.wr)).length ≤ 1) : ∀ (i j : Nat) (s t : Sp), sps[i]? = some s → sps[j]? = some t → s.wr = true → t.wr = true → i = j := by
  induction sps with
  | nil => intro i j s t hi; simp at hi
  | cons x xs ih =>
    intro i j s t hi hj hs ht
    have key : ∀ u ∈ xs, u.wr = true → x.wr = true → False := by
      intro u hu hw hx
      have : u ∈ xs.filter (·.wr) := List.mem_filter.2 ⟨hu, hw⟩
      have := List.length_pos_of_mem this
      rw [List.filter_cons, if_pos hx, List.length_cons] at hone
      omega
    cases i with
    | zero =>
      cases j with
      | zero => rfl
      | succ j =>
        simp at hi hj
        subst hi
        exact (key t (List.mem_of_getElem? hj) ht hs).elim
    | succ i =>
      cases j with
      | zero =>
        simp at hi hj
        subst hj
        exact (key s (List.mem_of_getElem? hi) hs ht).elim
      | succ j =>
        congr 1
        refine ih ?_ i j s t (by simpa using hi) (by simpa using hj) hs ht
        refine Nat.le_trans ?_ hone
        rw [List.filter_cons]; split <;> simp

theorem count_set_false {l : List Bool} {i : Nat} (h : l[i]? = some false) : (l.set i true).count false + 1 = l.count false := by
  induction l generalizing i with
  | nil => simp at h
  | cons x l ih =>
    cases i with
    | zero => simp at h; subst h; simp
    | succ i => simp at h; have := ih h; simp [List.count_cons]; omega

variable {P : Program} {Q : Exit → Act → World → Prop}

theorem getD_both {listed : Array Bool} {i : Nat} (h : i < listed.size) : listed.getD i true = listed.getD i false := by
  simp [Array.getD_eq_getD_getElem?, h]

theorem seq_core {os rest : List Oper} {ops : Array Oper} (hops : ops.toList = os ++ rest) {A : List (List Nat)} {ns : List (List Nat)} (hE : Edges A ops (ns ++ allAhead os.length rest.length)) (hg : rest.all plainO = true) :
    ∀ (r : List Oper) (j fuel : Nat) (listed : Array Bool) (a : Act) (w : World), rest.drop j = r → j ≤ rest.length → r.length ≤ fuel → listed.size = ops.size → Good A listed → (∀ i, i < os.length + j → listed.getD i true = true) →
      (∀ i, os.length + j ≤ i → i < ops.size → listed.getD i true = false) → wpl P Q r a w → wpAny P .any ops Q fuel listed a w := by
  have hsize : ops.size = os.length + rest.length := by rw [← Array.length_toList, hops, List.length_append]
  have hget : ∀ i : Nat, ops[i]? = (os ++ rest)[i]? := fun i => by rw [← hops]; simp
  have hnl : ns.length = os.length := by have := hE.len; rw [List.length_append, length_allAhead] at this; omega
  have hwait : ∀ j, j < rest.length → ∀ d, d < os.length + j → d ∈ A.getD (os.length + j) [] := by
    intro j hj d hd
    refine (hE.need (os.length + j) (List.range (os.length + j)) ?_ d (List.mem_range.2 hd)).2
    rw [List.getElem?_append_right (by omega), hnl, Nat.add_sub_cancel_left, allAhead_at hj]
  intro r
  induction r with
  | nil =>
    intro j fuel listed a w hr hj hf hs hgd hl hn h
    have hjl : rest.length ≤ j := by rwa [List.drop_eq_nil_iff] at hr
    refine wpAny_done ?_ h fuel
    rw [List.eq_nil_iff_forall_not_mem]
    intro i hi
    obtain ⟨h2, o, h3, _⟩ := mem_ready.1 hi
    have := (Array.getElem?_eq_some_iff.1 h3).1
    rw [hl i (by omega)] at h2; cases h2
  | cons o r ih =>
    intro j fuel listed a w hr hj hf hs hgd hl hn h
    have hjl : j < rest.length := by
      rcases Nat.lt_or_ge j rest.length with h | h
      · exact h
      · rw [List.drop_of_length_le h] at hr; cases hr
    have hoj : rest[j]? = some o := by
      have : (rest.drop j)[0]? = some o := by rw [hr]; rfl
      rw [List.getElem?_drop] at this
      simpa using this
    have hro : ops[os.length + j]? = some o := by rw [hget, List.getElem?_append_right (by omega)]; simpa using hoj
    have hgu := plainO_at hg hoj
    have hdrop : rest.drop (j + 1) = r := by
      have : (rest.drop j).drop 1 = r := by rw [hr]; rfl
      rwa [List.drop_drop] at this
    cases fuel with
    | zero => simp at hf
    | succ fuel =>
      have hmem : os.length + j ∈ Region.ready .any ops listed := by
        rw [mem_ready]
        refine ⟨hn _ (Nat.le_refl _) (by omega), o, hro, fun e he _ => ?_⟩
        have hlt := hE.back _ o hro e he
        have := hl e.on hlt
        rwa [getD_both (by omega)] at this
      refine ⟨fun h0 => (by rw [h0] at hmem; cases hmem), fun i hi => ?_⟩
      have hij : i = os.length + j := by
        obtain ⟨h2, o', h3, _⟩ := mem_ready.1 hi
        have hil := (Array.getElem?_eq_some_iff.1 h3).1
        rcases Nat.lt_trichotomy i (os.length + j) with h4 | h4 | h4
        · rw [hl i h4] at h2; cases h2
        · exact h4
        · exfalso
          have := hgd.ready hE hi (os.length + j) (by have := hwait (i - os.length) (by omega) (os.length + j) (by omega); rwa [show os.length + (i - os.length) = i from by omega] at this)
          have hno := hn (os.length + j) (Nat.le_refl _) (by omega)
          rw [getD_both (by omega), this] at hno; cases hno
      subst hij
      have hwd : Region.wanted o (yielded ops a.tmps) = true := by simp [Region.wanted, hgu]
      simp only [wpOp, hro, hwd, if_true]
      left
      refine Oper.upon_mono (fun a' w' h' => ?_) _ (show OW P o a w (wpl P Q r) Q from h).sem
      refine ih (j + 1) fuel _ a' w' hdrop (by omega) (by simp at hf; omega) (by simpa using hs) (hgd.set (hgd.ready hE hi)) ?_ ?_ h'
      · intro i hi
        by_cases he : os.length + j = i
        · subst he
          have hle : os.length + j < listed.size := by omega
          simp [Array.getD_eq_getD_getElem?, hle]
        · rw [getD_set_ne true he]; exact hl i (by omega)
      · intro i hi hi2
        rw [getD_set_ne true (by omega)]; exact hn i (by omega) hi2

theorem any_core {os rest : List Oper} {ops : Array Oper} (hops : ops.toList = os ++ rest) {sps : List Sp} {n : Nat} {l0 : List Rng} {a0 : Act} {w0 : World} {A : List (List Nat)}
    (hE : Edges A ops (sps.map (·.need) ++ allAhead os.length rest.length)) (hsh : shape n os = true) (hg : rest.all plainO = true)
    (hstab : ∀ s ∈ sps, ∀ v w w', Fr (if s.wr then [] else l0) w w' → s.R v w → s.R v w') (hone : (sps.filter (·.wr)).length ≤ 1)
    (hok : opsOk P Q l0 n a0 w0 sps 0 os sps) (hsz : n + os.length ≤ a0.tmps.size)
    (hlast : ∀ a w, Full l0 n a0 w0 sps a w → wpl P Q rest a w) :
    ∀ (fuel : Nat) (listed : Array Bool) (a : Act) (w : World), listed.size = ops.size → Good A listed → (listed.toList.take os.length).count false + rest.length = fuel → (∀ i, os.length ≤ i → i < ops.size → listed.getD i true = false) →
      Kept n a0 a → Fr l0 w0 w → (∀ i s, sps[i]? = some s → s.wr = true → listed.getD i false = false → Fr [] w0 w) → (∀ i s, sps[i]? = some s → listed.getD i false = true → s.R (get a (n + i)) w) → wpAny P .any ops Q fuel listed a w := by
  have hsize : ops.size = os.length + rest.length := by rw [← Array.length_toList, hops, List.length_append]
  have hlen : os.length = sps.length := by have := hE.len; rw [List.length_append, length_allAhead, List.length_map] at this; omega
  have hget : ∀ i : Nat, ops[i]? = (os ++ rest)[i]? := fun i => by rw [← hops]; simp
  have huniq := one_uniq hone
  have hnl : (sps.map (·.need)).length = os.length := by rw [List.length_map, hlen]
  have fin : ∀ (fuel : Nat) (listed : Array Bool) (a : Act) (w : World), listed.size = ops.size → Good A listed → rest.length ≤ fuel → (∀ i, os.length ≤ i → i < ops.size → listed.getD i true = false) → (∀ i, i < os.length → listed.getD i true = true) →
      Kept n a0 a → Fr l0 w0 w → (∀ i s, sps[i]? = some s → listed.getD i false = true → s.R (get a (n + i)) w) → wpAny P .any ops Q fuel listed a w := by
    intro fuel listed a w hs hgd hf hr hl hk hfr hR
    refine seq_core hops hE hg rest 0 fuel listed a w (by simp) (Nat.zero_le _) hf hs hgd (fun i hi => hl i (by omega)) (fun i hi => hr i (by omega)) (hlast a w ⟨hk, hfr, fun i s hi => hR i s hi ?_⟩)
    have hi' : i < os.length := by rw [hlen]; exact (List.getElem?_eq_some_iff.1 hi).1
    rw [← getD_both (by omega)]; exact hl i hi'
  have tr : ∀ listed : Array Bool, listed.size = ops.size → (listed.toList.take os.length).count false = 0 → ∀ i, i < os.length → listed.getD i true = true := by
    intro listed hs hc i hi
    have hle : i < listed.size := by omega
    have : listed[i] ≠ false := by
      intro h
      have hm : false ∈ listed.toList.take os.length := by
        rw [List.mem_take_iff_getElem]
        exact ⟨i, by simp; omega, by simpa using h⟩
      have := List.count_pos_iff.2 hm
      omega
    simp [Array.getD_eq_getD_getElem?, hle] at this ⊢
    exact this
  intro fuel
  induction fuel with
  | zero =>
    intro listed a w hs hgd hc hr hk hf hW hR
    exact fin 0 listed a w hs hgd (by omega) hr (tr listed hs (by omega)) hk hf hR
  | succ fuel ih =>
    intro listed a w hs hgd hc hr hk hf hW hR
    by_cases hcc : (listed.toList.take os.length).count false = 0
    · exact fin _ listed a w hs hgd (by omega) hr (tr listed hs hcc) hk hf hR
    · have hun : ∃ j, j < os.length ∧ listed.getD j true = false := by
        have : false ∈ listed.toList.take os.length := List.count_pos_iff.1 (by omega)
        rw [List.mem_take_iff_getElem] at this
        obtain ⟨j, hj, he⟩ := this
        have hjl : j < listed.size := by simp at hj; omega
        refine ⟨j, by simp at hj; omega, ?_⟩
        simp at he
        simp [Array.getD_eq_getD_getElem?, hjl, he]
      refine ⟨fun h0 => ?_, fun i hi => ?_⟩
      · exfalso
        have hready : ∀ i, i < ops.size → listed.getD i true = true := by
          intro i
          induction i using Nat.strongRecOn with
          | ind i ih2 =>
            intro hi
            rcases hli : listed.getD i true with _ | _
            · exfalso
              have : i ∈ Region.ready .any ops listed := by
                rw [mem_ready]
                refine ⟨hli, ops[i], by simp [hi], fun e he _ => ?_⟩
                have hlt := hE.back i ops[i] (by simp [hi]) e he
                have := ih2 e.on hlt (by omega)
                rwa [getD_both (by omega)] at this
              rw [h0] at this
              cases this
            · rfl
        obtain ⟨j, h1, h2⟩ := hun
        have := hready j (by omega)
        rw [h2] at this; cases this
      · obtain ⟨hli, o, ho, hafter⟩ := mem_ready.1 hi
        have hiops : i < ops.size := (Array.getElem?_eq_some_iff.1 ho).1
        have hilt : i < listed.size := by omega
        have hio : i < os.length := by
          rcases Nat.lt_or_ge i os.length with h | h
          · exact h
          · exfalso
            obtain ⟨j, h1, h2⟩ := hun
            have hin : j ∈ A.getD i [] := by
              refine (hE.need i (List.range i) ?_ j (List.mem_range.2 (by omega))).2
              rw [List.getElem?_append_right (by omega), hnl, allAhead_at (by omega)]; congr 2; omega
            have := hgd.ready hE hi j hin
            rw [getD_both (by omega), this] at h2; cases h2
        have hls : (listed.toList.take os.length)[i]? = some false := by
          rw [List.getElem?_take, if_pos hio]
          simp [Array.getD_eq_getD_getElem?, hilt] at hli
          simp [hilt, hli]
        have hcount : ((listed.setIfInBounds i true).toList.take os.length).count false + rest.length = fuel := by
          have := count_set_false hls
          rw [Array.toList_setIfInBounds, List.take_set]
          omega
        have hoi : os[i]? = some o := by rw [hget, List.getElem?_append_left hio] at ho; exact ho
        have hd := shape_at hsh hoi
        have hsl : i < sps.length := by omega
        have hsi : sps[i]? = some sps[i] := by simp [hsl]
        generalize sps[i] = s at hsi
        have hop := opsOk_at hok hoi hsi
        rw [Nat.zero_add] at hop
        have hgo := hop a w hk hf (fun hsw => hW i s hsi hsw (by rw [← getD_both (by omega)]; exact hli)) (fun d hdn => by
          obtain ⟨h1, h2⟩ := hE.need i s.need (by rw [List.getElem?_append_left (by omega), List.getElem?_map, hsi]; rfl) d hdn
          have hds : d < sps.length := by omega
          exact ⟨sps[d], by simp [hds], hR d _ (by simp [hds]) (hgd.ready hE hi d h2)⟩)
        suffices hsuf : ∀ a' w', (∃ v, a' = a.put (some (n + i)) v ∧ s.R v w' ∧ Fr (if s.wr then l0 else []) w w') → wpAny P .any ops Q fuel (listed.setIfInBounds i true) a' w' by
          simp only [wpOp, ho]
          unfold GWp at hgo
          cases hgg : o.guard with
          | none =>
            simp only [hgg] at hgo
            have hw : Region.wanted o (yielded ops a.tmps) = true := by simp [Region.wanted, hgg]
            simp only [hw, if_true]
            exact .inl (Oper.upon_mono hsuf _ hgo.sem)
          | some g =>
            obtain ⟨j, want⟩ := g
            simp only [hgg] at hgo
            obtain ⟨b, hji, hgb, hy, hno⟩ := hgo
            have hyl : yielded ops a.tmps j = some b := by
              have hjo : os[j]? = some os[j] := by simp [show j < os.length from by omega]
              have hjd := shape_at hsh hjo
              have hjops : ops[j]? = some os[j] := by rw [hget, List.getElem?_append_left (by omega)]; exact hjo
              have htl : a.tmps[n + j]? = some (.bool b) := by
                have hlt : n + j < a.tmps.size := by have := hk.size; omega
                have := hgb
                unfold get at this
                rw [Array.getD_eq_getD_getElem?] at this
                simp [hlt] at this ⊢
                exact this
              simp [yielded, hjops, hjd, htl]
            have hw : Region.wanted o (yielded ops a.tmps) = (b == want) := by simp only [Region.wanted, hgg, hyl]; cases b <;> cases want <;> rfl
            rw [hw]
            by_cases hbw : b = want
            · simp only [hbw, beq_self_eq_true, if_true]
              exact .inl (Oper.upon_mono hsuf _ (hy hbw).sem)
            · have : (b == want) = false := by cases b <;> cases want <;> first | rfl | exact absurd rfl hbw
              rw [this]
              simp only [Bool.false_eq_true, if_false]
              rw [hd]
              exact hsuf _ _ (hno hbw)
        rintro a' w' ⟨v, rfl, hv, hfv⟩
        have hff : Fr l0 w w' := by
          cases hwr : s.wr with
          | true => simpa [hwr] using hfv
          | false => rw [hwr] at hfv; exact Fr.nil hfv
        have hia : n + i < a.tmps.size := by have := hk.size; omega
        refine ih _ _ _ (by simpa using hs) (hgd.set (hgd.ready hE hi)) hcount ?_ (hk.put (by omega) _) (hf.tr hff) ?_ ?_
        · intro j h1 h2
          rw [getD_set_ne true (by omega)]
          exact hr j h1 h2
        · intro j t hj htw hlj
          by_cases hij : i = j
          · subst hij
            rw [show (listed.setIfInBounds i true).getD i false = true from by simp [Array.getD_eq_getD_getElem?, hilt]] at hlj
            cases hlj
          · rw [getD_set_ne false hij] at hlj
            cases hsw : s.wr with
            | true => exact absurd (huniq i j s t hsi hj hsw htw) hij
            | false => rw [hsw] at hfv; exact (hW j t hj htw hlj).tr (by simpa using hfv)
        · intro j t hj hlj
          by_cases hij : i = j
          · subst hij
            rw [hsi] at hj
            obtain rfl := Option.some.inj hj
            rw [get_put_same hia]; exact hv
          · rw [getD_set_ne false hij] at hlj
            rw [get_put_ne (by omega)]
            refine hstab t (List.mem_of_getElem? hj) _ w w' ?_ (hR j t hj hlj)
            cases htw : t.wr with
            | false => simpa using hff
            | true =>
              cases hsw : s.wr with
              | true => exact absurd (huniq i j s t hsi hj hsw htw) hij
              | false => rw [hsw] at hfv; simpa using hfv

/-- A value that is known ahead. -/
def spC (nd : List Nat) (x : Value) : Sp := ⟨nd, false, fun v _ => v = x⟩
/-- A value of which something is known that lasts. -/
def spR (nd : List Nat) (R : Value → World → Prop) : Sp := ⟨nd, false, R⟩
def spW (nd : List Nat) (R : Value → World → Prop) : Sp := ⟨nd, true, R⟩

/-- What is known of an operation's value. -/
def Had (sps : List Sp) (n : Nat) (nd : List Nat) (a : Act) (w : World) : Prop := ∀ d ∈ nd, ∃ u, sps[d]? = some u ∧ u.R (get a (n + d)) w
theorem Had.at {sps : List Sp} {n : Nat} {nd : List Nat} {a : Act} {w : World} (h : Had sps n nd a w) {d : Nat} {u : Sp} (hd : d ∈ nd) (hu : sps[d]? = some u) : u.R (get a (n + d)) w := by
  obtain ⟨u', h1, h2⟩ := h d hd
  rw [hu] at h1
  obtain rfl := Option.some.inj h1
  exact h2
theorem Had.c {sps : List Sp} {n : Nat} {nd nd' : List Nat} {a : Act} {w : World} {x : Value} (h : Had sps n nd a w) (d : Nat) (hd : d ∈ nd) (hu : sps[d]? = some (spC nd' x)) : get a (n + d) = x := h.at hd hu

/-- An operation whose value is known ahead. -/
theorem op_c {l0 : List Rng} {n : Nat} {a0 : Act} {w0 : World} {sps : List Sp} {i : Nat} {o : Oper} {nd : List Nat} {x : Value}
    (h : ∀ a w, Kept n a0 a → Fr l0 w0 w → Had sps n nd a w → ∀ K : Act → World → Prop, K (a.put (some (n + i)) x) w → OW P o a w K Q) (hg : o.guard = none := by rfl) : OpOk P Q l0 n a0 w0 sps i o (spC nd x) :=
  fun a w hk hf _ hd => by unfold GWp; rw [hg]; exact h a w hk hf hd _ ⟨x, rfl, rfl, Fr.refl _ _⟩
theorem op_r {l0 : List Rng} {n : Nat} {a0 : Act} {w0 : World} {sps : List Sp} {i : Nat} {o : Oper} {nd : List Nat} {R : Value → World → Prop}
    (h : ∀ a w, Kept n a0 a → Fr l0 w0 w → Had sps n nd a w → ∀ K : Act → World → Prop, (∀ x w', R x w' → Fr [] w w' → K (a.put (some (n + i)) x) w') → OW P o a w K Q) (hg : o.guard = none := by rfl) : OpOk P Q l0 n a0 w0 sps i o (spR nd R) :=
  fun a w hk hf _ hd => by unfold GWp; rw [hg]; exact h a w hk hf hd _ fun x _ hx hf' => ⟨x, rfl, hx, hf'⟩
theorem op_w {l0 : List Rng} {n : Nat} {a0 : Act} {w0 : World} {sps : List Sp} {i : Nat} {o : Oper} {nd : List Nat} {R : Value → World → Prop}
    (h : ∀ a w, Kept n a0 a → Fr l0 w0 w → Had sps n nd a w → ∀ K : Act → World → Prop, (∀ x w', R x w' → Fr l0 w w' → K (a.put (some (n + i)) x) w') → OW P o a w K Q) (hg : o.guard = none := by rfl) : OpOk P Q l0 n a0 w0 sps i o (spW nd R) :=
  fun a w hk hf _ hd => by unfold GWp; rw [hg]; exact h a w hk hf hd _ fun x _ hx hf' => ⟨x, rfl, hx, hf'⟩

theorem op_w0 {l0 : List Rng} {n : Nat} {a0 : Act} {w0 : World} {sps : List Sp} {i : Nat} {o : Oper} {nd : List Nat} {R : Value → World → Prop}
    (h : ∀ a w, Kept n a0 a → Fr [] w0 w → Had sps n nd a w → ∀ K : Act → World → Prop, (∀ x w', R x w' → Fr l0 w w' → K (a.put (some (n + i)) x) w') → OW P o a w K Q) (hg : o.guard = none := by rfl) : OpOk P Q l0 n a0 w0 sps i o (spW nd R) :=
  fun a w hk _ hw hd => by unfold GWp; rw [hg]; exact h a w hk (hw rfl) hd _ fun x _ hx hf' => ⟨x, rfl, hx, hf'⟩

/-- An operation behind a guard that is met. -/
theorem op_gy {l0 : List Rng} {n : Nat} {a0 : Act} {w0 : World} {sps : List Sp} {i j : Nat} {o : Oper} {s : Sp} {want : Bool} (hg : o.guard = some (j, want)) (hj : j < i) (hjn : ∀ a w, Had sps n s.need a w → get a (n + j) = .bool want)
    (h : OpOk P Q l0 n a0 w0 sps i { o with guard := none } s) : OpOk P Q l0 n a0 w0 sps i o s :=
  fun a w hk hf hw hd => by
    have := h a w hk hf hw hd
    unfold GWp at this ⊢
    rw [hg]
    exact ⟨want, hj, hjn a w hd, fun _ => ⟨(show OW P { o with guard := none } a w _ Q from this).sem⟩, fun hne => absurd rfl hne⟩
/-- An operation behind a guard that is not met. -/
theorem op_gn {l0 : List Rng} {n : Nat} {a0 : Act} {w0 : World} {sps : List Sp} {i j : Nat} {o : Oper} {nd : List Nat} {want : Bool} (hg : o.guard = some (j, want)) (hj : j < i) (hjn : ∀ a w, Had sps n nd a w → get a (n + j) = .bool !want) :
    OpOk P Q l0 n a0 w0 sps i o (spC nd undef) :=
  fun a w hk hf _ hd => by
    unfold GWp
    rw [hg]
    exact ⟨!want, hj, hjn a w hd, fun h => by cases want <;> simp at h, fun _ => ⟨undef, rfl, rfl, Fr.refl _ _⟩⟩

/-- What lasts. -/
def Lasts (l : List Rng) (R : Value → World → Prop) : Prop := ∀ v w w', Fr l w w' → R v w → R v w'
def lastsAll (l0 : List Rng) : List Sp → Prop
  | [] => True
  | s :: ss => Lasts (if s.wr then [] else l0) s.R ∧ lastsAll l0 ss
theorem lastsAll_at {l0 : List Rng} : ∀ {ss : List Sp}, lastsAll l0 ss → ∀ s ∈ ss, ∀ v w w', Fr (if s.wr then [] else l0) w w' → s.R v w → s.R v w'
  | [], _, s, hs => by cases hs
  | x :: ss, h, s, hs => by
    rcases List.mem_cons.1 hs with rfl | hs
    · exact h.1
    · exact lastsAll_at h.2 s hs
theorem lasts_c (l : List Rng) (nd : List Nat) (x : Value) : Lasts (if (spC nd x).wr then [] else l) (spC nd x).R := fun _ _ _ _ h => h

/-- A region that draws: the first operations in any order, the others behind these, one by one. -/
theorem wp_drawR {id : Nat} {os rest : List Oper} {a0 : Act} {w0 : World} (sps : List Sp) (n : Nat) (l0 : List Rng) (hm : P.follows .mixedOrders = true)
    (he : edgeOk 0 ((os ++ rest).map (·.after)) (sps.map (·.need) ++ allAhead os.length rest.length) = true) (hs : shape n os = true) (hg : rest.all plainO = true)
    (hone : (sps.filter (·.wr)).length ≤ 1) (hsz : n + os.length ≤ a0.tmps.size)
    (hstab : lastsAll l0 sps)
    (hok : opsOk P Q l0 n a0 w0 sps 0 os sps)
    (hlast : ∀ a w, Kept n a0 a → Fr l0 w0 w → Had sps n (List.range sps.length) a w → wpl P Q rest a w) :
    (Code.region id ⟨os ++ rest⟩ true).wp P Q a0 w0 := by
  refine wp_region_any hm ?_
  have hf : Fr l0 w0 { w0 with drawn := w0.drawn + 1 } := Fr.drew l0 w0
  have hrep : ∀ i, (Array.replicate (os.length + rest.length) false).getD i true = false ∨ os.length + rest.length ≤ i := by
    intro i
    rcases Nat.lt_or_ge i (os.length + rest.length) with h | h
    · left; rw [Array.getD_eq_getD_getElem?, Array.getElem?_replicate]; simp [h]
    · exact .inr h
  have hrep2 : ∀ i, (Array.replicate (os.length + rest.length) false).getD i false = true → False := by
    intro i h
    rw [Array.getD_eq_getD_getElem?, Array.getElem?_replicate] at h
    split at h <;> simp at h
  have hE := edges_of (ops := ⟨os ++ rest⟩) he
  refine any_core (os := os) (rest := rest) (ops := ⟨os ++ rest⟩) (a0 := a0) (w0 := w0) rfl hE hs hg (lastsAll_at hstab) hone hok hsz (fun a w h => hlast a w h.1 h.2.1 fun d hd => ?_) _ _ a0 _ (by simp) ?_ (by simp) ?_ (Kept.refl _ _) hf (fun _ _ _ _ _ => Fr.drew [] w0) ?_
  · have hd' := List.mem_range.1 hd
    exact ⟨sps[d], by simp [hd'], h.2.2 d _ (by simp [hd'])⟩
  · intro j hj
    simp only [List.size_toArray, List.length_append] at hj
    exact (hrep2 j hj).elim
  · intro i h1 h2
    simp only [List.size_toArray, List.length_append] at h2 ⊢
    rcases hrep i with h | h
    · exact h
    · omega
  · intro i s hi h
    simp only [List.size_toArray, List.length_append] at h
    exact (hrep2 i h).elim
theorem wp_drawE {id : Nat} {os : List Oper} {o : Oper} {a0 : Act} {w0 : World} (sps : List Sp) (n : Nat) (l0 : List Rng) (hm : P.follows .mixedOrders = true)
    (he : edgeOk 0 ((os ++ [o]).map (·.after)) (sps.map (·.need) ++ [List.range os.length]) = true) (hs : shape n os = true) (hg : o.guard = none)
    (hone : (sps.filter (·.wr)).length ≤ 1) (hsz : n + os.length ≤ a0.tmps.size)
    (hstab : lastsAll l0 sps)
    (hok : opsOk P Q l0 n a0 w0 sps 0 os sps)
    (hlast : ∀ a w, Kept n a0 a → Fr l0 w0 w → Had sps n (List.range sps.length) a w → OW P o a w (Q .normal) Q) :
    (Code.region id ⟨os ++ [o]⟩ true).wp P Q a0 w0 :=
  wp_drawR (rest := [o]) sps n l0 hm he hs (by simp [plainO, hg]) hone hsz hstab hok fun a w h1 h2 h3 => hlast a w h1 h2 h3
theorem wp_drawE0 {id : Nat} {os : List Oper} {a0 : Act} {w0 : World} (sps : List Sp) (n : Nat) (l0 : List Rng) (hm : P.follows .mixedOrders = true)
    (he : edgeOk 0 (os.map (·.after)) (sps.map (·.need)) = true) (hs : shape n os = true)
    (hone : (sps.filter (·.wr)).length ≤ 1) (hsz : n + os.length ≤ a0.tmps.size)
    (hstab : lastsAll l0 sps)
    (hok : opsOk P Q l0 n a0 w0 sps 0 os sps)
    (hlast : ∀ a w, Kept n a0 a → Fr l0 w0 w → Had sps n (List.range sps.length) a w → Q .normal a w) :
    (Code.region id ⟨os⟩ true).wp P Q a0 w0 := by
  have := wp_drawR (id := id) (os := os) (rest := []) sps n l0 hm (by simpa [allAhead] using he) hs rfl hone hsz hstab hok hlast
  simpa using this

/-! ### no order drawn, but guards -/
def needLt : Nat → List Sp → Bool
  | _, [] => true
  | i, s :: ss => s.need.all (fun d => decide (d < i)) && needLt (i + 1) ss
theorem needLt_at : ∀ {ss : List Sp} {i : Nat}, needLt i ss = true → ∀ {j : Nat} {s : Sp}, ss[j]? = some s → ∀ d ∈ s.need, d < i + j
  | [], _, _, j, s, hj => by simp at hj
  | x :: ss, i, h, j, s, hj => by
    simp only [needLt, Bool.and_eq_true, List.all_eq_true, decide_eq_true_eq] at h
    cases j with
    | zero => simp at hj; subst hj; exact h.1
    | succ j => intro d hd; have := needLt_at h.2 (j := j) (s := s) (by simpa using hj) d hd; omega

theorem seqG_core {os : List Oper} {ops : Array Oper} (hops : ops.toList = os) {sps : List Sp} {n : Nat} {l0 : List Rng} {a0 : Act} {w0 : World} (hlen : os.length = sps.length) (hnd : needLt 0 sps = true) (hsh : shape n os = true)
    (hstab : ∀ s ∈ sps, ∀ v w w', Fr (if s.wr then [] else l0) w w' → s.R v w → s.R v w') (hone : (sps.filter (·.wr)).length ≤ 1)
    (hok : opsOk P Q l0 n a0 w0 sps 0 os sps) (hsz : n + os.length ≤ a0.tmps.size) (hlast : ∀ a w, Full l0 n a0 w0 sps a w → Q .normal a w) :
    ∀ (k i : Nat) (a : Act) (w : World), i + k = os.length → Kept n a0 a → Fr l0 w0 w → (∀ j s, i ≤ j → sps[j]? = some s → s.wr = true → Fr [] w0 w) → (∀ j s, j < i → sps[j]? = some s → s.R (get a (n + j)) w) → wpOps P ops Q (List.range' i k) a w := by
  have huniq := one_uniq hone
  have hget : ∀ i : Nat, ops[i]? = os[i]? := fun i => by rw [← hops]; simp
  intro k
  induction k with
  | zero =>
    intro i a w hi hk hf hW hR
    exact hlast a w ⟨hk, hf, fun j s hj => hR j s (by have := (List.getElem?_eq_some_iff.1 hj).1; omega) hj⟩
  | succ k ih =>
    intro i a w hi hk hf hW hR
    have hio : i < os.length := by omega
    have hoi : os[i]? = some os[i] := by simp [hio]
    generalize os[i] = o at hoi
    have ho : ops[i]? = some o := by rw [hget, hoi]
    have hd := shape_at hsh hoi
    have hsi : sps[i]? = some sps[i] := by simp [show i < sps.length from by omega]
    generalize sps[i] = s at hsi
    have hop := opsOk_at hok hoi hsi
    rw [Nat.zero_add] at hop
    have hgo := hop a w hk hf (hW i s (Nat.le_refl _) hsi) (fun d hdn => by
      have h1 := needLt_at hnd hsi d hdn
      have hds : d < sps.length := by omega
      exact ⟨sps[d], by simp [hds], hR d _ (by omega) (by simp [hds])⟩)
    rw [List.range'_succ, wpOps_cons]
    suffices hsuf : ∀ a' w', (∃ v, a' = a.put (some (n + i)) v ∧ s.R v w' ∧ Fr (if s.wr then l0 else []) w w') → wpOps P ops Q (List.range' (i + 1) k) a' w' by
      simp only [wpOp, ho]
      unfold GWp at hgo
      cases hgg : o.guard with
      | none =>
        simp only [hgg] at hgo
        have hw : Region.wanted o (yielded ops a.tmps) = true := by simp [Region.wanted, hgg]
        simp only [hw, if_true]
        exact .inl (Oper.upon_mono hsuf _ hgo.sem)
      | some g =>
        obtain ⟨j, want⟩ := g
        simp only [hgg] at hgo
        obtain ⟨b, hji, hgb, hy, hno⟩ := hgo
        have hyl : yielded ops a.tmps j = some b := by
          have hjo : os[j]? = some os[j] := by simp [show j < os.length from by omega]
          have hjd := shape_at hsh hjo
          have hjops : ops[j]? = some os[j] := by rw [hget]; exact hjo
          have htl : a.tmps[n + j]? = some (.bool b) := by
            have hlt : n + j < a.tmps.size := by have := hk.size; omega
            have := hgb
            unfold get at this
            rw [Array.getD_eq_getD_getElem?] at this
            simp [hlt] at this ⊢
            exact this
          simp [yielded, hjops, hjd, htl]
        have hw : Region.wanted o (yielded ops a.tmps) = (b == want) := by simp only [Region.wanted, hgg, hyl]; cases b <;> cases want <;> rfl
        rw [hw]
        by_cases hbw : b = want
        · simp only [hbw, beq_self_eq_true, if_true]
          exact .inl (Oper.upon_mono hsuf _ (hy hbw).sem)
        · have : (b == want) = false := by cases b <;> cases want <;> first | rfl | exact absurd rfl hbw
          rw [this]
          simp only [Bool.false_eq_true, if_false]
          rw [hd]
          exact hsuf _ _ (hno hbw)
    rintro a' w' ⟨v, rfl, hv, hfv⟩
    have hff : Fr l0 w w' := by
      cases hwr : s.wr with
      | true => simpa [hwr] using hfv
      | false => rw [hwr] at hfv; exact Fr.nil hfv
    have hia : n + i < a.tmps.size := by have := hk.size; omega
    refine ih (i + 1) _ _ (by omega) (hk.put (by omega) _) (hf.tr hff) ?_ ?_
    · intro j t hji hj htw
      cases hsw : s.wr with
      | true => exact absurd (huniq i j s t hsi hj hsw htw) (by omega)
      | false => rw [hsw] at hfv; exact (hW j t (by omega) hj htw).tr (by simpa using hfv)
    intro j t hji hj
    by_cases hij : i = j
    · subst hij
      rw [hsi] at hj
      obtain rfl := Option.some.inj hj
      rw [get_put_same hia]; exact hv
    · rw [get_put_ne (by omega)]
      refine hstab t (List.mem_of_getElem? hj) _ w w' ?_ (hR j t (by omega) hj)
      cases htw : t.wr with
      | false => simpa using hff
      | true =>
        cases hsw : s.wr with
        | true => exact absurd (huniq i j s t hsi hj hsw htw) hij
        | false => rw [hsw] at hfv; simpa using hfv

/-- A region that draws no order, word by word. -/
theorem wp_seqG {id : Nat} {os : List Oper} {a0 : Act} {w0 : World} (sps : List Sp) (n : Nat) (l0 : List Rng) (hlen : os.length = sps.length) (hnd : needLt 0 sps = true) (hs : shape n os = true)
    (hone : (sps.filter (·.wr)).length ≤ 1) (hsz : n + os.length ≤ a0.tmps.size) (hstab : lastsAll l0 sps) (hok : opsOk P Q l0 n a0 w0 sps 0 os sps)
    (hlast : ∀ a w, Kept n a0 a → Fr l0 w0 w → Had sps n (List.range sps.length) a w → Q .normal a w) :
    (Code.region id ⟨os⟩ false).wp P Q a0 w0 := by
  refine wp_region ?_
  have := seqG_core (P := P) (Q := Q) (os := os) (ops := ⟨os⟩) rfl hlen hnd hs (lastsAll_at hstab) hone hok hsz (fun a w h => hlast a w h.1 h.2.1 fun d hd => by
    have hd' := List.mem_range.1 hd
    exact ⟨sps[d], by simp [hd'], h.2.2 d _ (by simp [hd'])⟩) os.length 0 a0 w0 (by omega) (Kept.refl _ _) (Fr.refl _ _) (fun _ _ _ _ _ => Fr.refl _ _) (fun j s hj => by omega)
  simpa [List.range_eq_range'] using this

end Go.Kq

/- Trees in memory, and the operations that build them. -/
namespace Go.Kq
open Go Go.Proofs

/-- What a tree says. -/
inductive T where
  | mk (n : Int) (s : List UInt8) (nl : Bool) (l : List T) (u : List (Nat × List UInt8))
  deriving Inhabited
def T.zero : T := .mk 0 [] false [] []

def OctE (w : World) (A : Nat → Prop) (v : Value) (s : List UInt8) : Prop := ∃ x, Octs w A v x ∧ x.getD [] = s
theorem OctE.kept {w w' : World} {A A' : Nat → Prop} {l : List Rng} {v : Value} {x : List UInt8} (h : OctE w A v x) (hf : Fr l w w') (hl : ∀ r ∈ l, ¬ A r.b) (hA : ∀ b, A b → A' b) : OctE w' A' v x := by
  obtain ⟨y, h1, h2⟩ := h
  exact ⟨y, h1.kept hf hl hA, h2⟩
theorem OctE.nil {w : World} {A : Nat → Prop} : OctE w A (.slice none 0 0) [] := ⟨none, .inl ⟨rfl, rfl⟩, rfl⟩
theorem OctE.one {w : World} {A : Nat → Prop} {v : Value} {x : List UInt8} (h : OctE w A v x) : v.oneCell' = true := by
  obtain ⟨y, h | ⟨_, _, _, _, _, h, _⟩, _⟩ := h
  · rw [h.1]; rfl
  · rw [h]; rfl

/-- Tags behind a slice. -/
def TagsR (w : World) (A : Nat → Prop) (v : Value) (u : List (Nat × List UInt8)) : Prop :=
  (v = .slice none 0 0 ∧ u = []) ∨ ∃ b o cap, A b ∧ v = .slice (some ⟨b, o, none⟩) u.length cap ∧ (u.length ≤ cap ∧ u.length ≤ 4294967296) ∧
    ∀ (i k : Nat) (x : List UInt8), u[i]? = some (k, x) → ∃ xv, k < 4294967296 ∧ w.rangeAt b (o + i * 2) [.int .u32 k, xv] ∧ OctE w A xv x
theorem TagsR.kept {w w' : World} {A A' : Nat → Prop} {l : List Rng} {v : Value} {x : List (Nat × List UInt8)} (h : TagsR w A v x) (hf : Fr l w w') (hl : ∀ r ∈ l, ¬ A r.b) (hA : ∀ b, A b → A' b) : TagsR w' A' v x := by
  rcases h with h | ⟨b, o, cap, hb, h1, h2, h3⟩
  · exact .inl h
  · refine .inr ⟨b, o, cap, hA b hb, h1, h2, fun i k x hi => ?_⟩
    obtain ⟨xv, h4, h5, h6⟩ := h3 i k x hi
    exact ⟨xv, h4, hf.range h5 (fun r hr => .inl fun e => hl r hr (e ▸ hb)), h6.kept hf hl hA⟩
theorem TagsR.one {w : World} {A : Nat → Prop} {v : Value} {x : List (Nat × List UInt8)} (h : TagsR w A v x) : v.oneCell' = true := by
  rcases h with h | ⟨_, _, _, _, h, _⟩
  · rw [h.1]; rfl
  · rw [h]; rfl

/-- A tree's five cells. -/
inductive RepT (w : World) (A : Nat → Prop) : List Value → T → Prop where
  | nil {n : Int} {sv : Value} {s : List UInt8} {nl : Bool} {uv : Value} {u : List (Nat × List UInt8)} (hn : -9223372036854775808 ≤ n ∧ n ≤ 9223372036854775807) (hs : OctE w A sv s) (hu : TagsR w A uv u) :
      RepT w A [.int .i64 n, sv, .bool nl, .slice none 0 0, uv] (.mk n s nl [] u)
  | sl {n : Int} {sv : Value} {s : List UInt8} {nl : Bool} {uv : Value} {u : List (Nat × List UInt8)} {b o cap : Nat} {l : List T} (es : Nat → List Value) (hn : -9223372036854775808 ≤ n ∧ n ≤ 9223372036854775807) (hs : OctE w A sv s) (hu : TagsR w A uv u)
      (hb : A b) (hc : l.length ≤ cap ∧ l.length ≤ 4294967296) (hr : ∀ i y, l[i]? = some y → w.rangeAt b (o + i * 5) (es i)) (hes : ∀ i y, l[i]? = some y → RepT w A (es i) y) :
      RepT w A [.int .i64 n, sv, .bool nl, .slice (some ⟨b, o, none⟩) l.length cap, uv] (.mk n s nl l u)

theorem RepT.kept {w w' : World} {A A' : Nat → Prop} {l : List Rng} {cs : List Value} {t : T} (h : RepT w A cs t) (hf : Fr l w w') (hl : ∀ r ∈ l, ¬ A r.b) (hA : ∀ b, A b → A' b) : RepT w' A' cs t := by
  induction h with
  | nil hn hs hu => exact .nil hn (hs.kept hf hl hA) (hu.kept hf hl hA)
  | sl es hn hs hu hb hc hr _ ih => exact .sl es hn (hs.kept hf hl hA) (hu.kept hf hl hA) (hA _ hb) hc (fun i y hi => hf.range (hr i y hi) (fun r hr => .inl fun e => hl r hr (e ▸ hb))) ih
theorem RepT.length {w : World} {A : Nat → Prop} {cs : List Value} {t : T} (h : RepT w A cs t) : cs.length = 5 := by cases h <;> rfl
theorem RepT.ones {w : World} {A : Nat → Prop} {cs : List Value} {t : T} (h : RepT w A cs t) : ∀ u ∈ cs, u.oneCell' = true := by
  cases h with
  | nil hn hs hu => intro u h; simp at h; rcases h with rfl | rfl | rfl | rfl | rfl <;> first | rfl | exact hs.one | exact hu.one
  | sl es hn hs hu => intro u h; simp at h; rcases h with rfl | rfl | rfl | rfl | rfl <;> first | rfl | exact hs.one | exact hu.one

/-- Things behind a slice. -/
def Things (w : World) (A : Nat → Prop) (v : Value) (l : List T) : Prop :=
  (v = .slice none 0 0 ∧ l = []) ∨ ∃ b o cap, A b ∧ v = .slice (some ⟨b, o, none⟩) l.length cap ∧ (l.length ≤ cap ∧ l.length ≤ 4294967296) ∧ ∃ es : Nat → List Value, (∀ i y, l[i]? = some y → w.rangeAt b (o + i * 5) (es i)) ∧ ∀ i y, l[i]? = some y → RepT w A (es i) y
theorem Things.one {w : World} {A : Nat → Prop} {v : Value} {x : List T} (h : Things w A v x) : v.oneCell' = true := by
  rcases h with h | ⟨_, _, _, _, h, _⟩
  · rw [h.1]; rfl
  · rw [h]; rfl
theorem repT_iff {w : World} {A : Nat → Prop} {cs : List Value} {n : Int} {s : List UInt8} {nl : Bool} {l : List T} {u : List (Nat × List UInt8)} : RepT w A cs (.mk n s nl l u) ↔
    ∃ sv lv uv, cs = [.int .i64 n, sv, .bool nl, lv, uv] ∧ (-9223372036854775808 ≤ n ∧ n ≤ 9223372036854775807) ∧ OctE w A sv s ∧ Things w A lv l ∧ TagsR w A uv u := by
  constructor
  · intro h
    cases h with
    | nil hn hs hu => exact ⟨_, _, _, rfl, hn, hs, .inl ⟨rfl, rfl⟩, hu⟩
    | sl es hn hs hu hb hc hr hes => exact ⟨_, _, _, rfl, hn, hs, .inr ⟨_, _, _, hb, rfl, hc, es, hr, hes⟩, hu⟩
  · rintro ⟨sv, lv, uv, rfl, hn, hs, hl, hu⟩
    rcases hl with ⟨rfl, rfl⟩ | ⟨b, o, cap, hb, rfl, hc, es, hr, hes⟩
    · exact .nil hn hs hu
    · exact .sl es hn hs hu hb hc hr hes
theorem Things.kept {w w' : World} {A A' : Nat → Prop} {l : List Rng} {v : Value} {x : List T} (h : Things w A v x) (hf : Fr l w w') (hl : ∀ r ∈ l, ¬ A r.b) (hA : ∀ b, A b → A' b) : Things w' A' v x := by
  rcases h with h | ⟨b, o, cap, hb, h1, h2, es, h3, h4⟩
  · exact .inl h
  · exact .inr ⟨b, o, cap, hA b hb, h1, h2, es, fun i y hi => hf.range (h3 i y hi) (fun r hr => .inl fun e => hl r hr (e ▸ hb)), fun i y hi => (h4 i y hi).kept hf hl hA⟩

/-! ### structs of five cells -/
def zT : List Value := [.int .i64 0, .slice none 0 0, .bool false, .slice none 0 0, .slice none 0 0]
theorem repT_zero {w : World} {A : Nat → Prop} : RepT w A zT .zero := .nil (by omega) .nil (.inl ⟨rfl, rfl⟩)

/-- A struct's type all of whose fields take a cell, and what it is at nought. -/
def flatB (P : Program) (t : TypeId) (z : List Value) : Bool :=
  (match P.info? t with | some i => (i.size == z.length) && (match i.zero with | some (.agg c) => valsEq c.toList z | _ => false) | none => false) &&
  (match P.underlying t with | some (.struct fs) => (fs.size == z.length) && (List.range fs.size).all (fun k => match fs[k]? with | some f => f.offset == k && szIs P f.type 1 | none => false) | _ => false)
structure Flat (P : Program) (t : TypeId) (z : List Value) : Prop where
  zero : zeroOf P t (.agg z.toArray)
  size : (P.info? t).map (·.size) = some z.length
  fs : ∃ fs : Array Field, P.underlying t = some (.struct fs) ∧ fs.size = z.length ∧ ∀ (k : Nat) (f : Field), fs[k]? = some f → f.offset = k ∧ ∃ i, P.info? f.type = some i ∧ i.size = 1
theorem flatB_is {P : Program} {t : TypeId} {z : List Value} (h : flatB P t z = true) : Flat P t z := by
  simp only [flatB, Bool.and_eq_true] at h
  obtain ⟨h1, h2⟩ := h
  have h3 : zeroOf P t (.agg z.toArray) ∧ (P.info? t).map (·.size) = some z.length := by
    cases hi : P.info? t with
    | none => simp [hi] at h1
    | some i =>
      simp only [hi, Bool.and_eq_true, beq_iff_eq] at h1
      cases hz : i.zero with
      | none => simp [hz] at h1
      | some v =>
        simp only [hz] at h1
        obtain ⟨h0, h1⟩ := h1
        cases v <;> simp only [] at h1 <;> first | (simp at h1; done) | skip
        rename_i c
        have := valsEq_eq h1
        refine ⟨⟨i, hi, ?_⟩, by simp [h0]⟩
        rw [hz, ← this]
  refine ⟨h3.1, h3.2, ?_⟩
  cases hu : P.underlying t with
  | none => simp [hu] at h2
  | some d =>
    cases d <;> simp only [hu] at h2 <;> first | (simp at h2; done) | skip
    rename_i fs
    simp only [Bool.and_eq_true, beq_iff_eq, List.all_eq_true, List.mem_range] at h2
    refine ⟨fs, rfl, h2.1, fun k f hf => ?_⟩
    have := h2.2 k (Array.getElem?_eq_some_iff.1 hf).1
    simp only [hf, Bool.and_eq_true, beq_iff_eq] at this
    exact ⟨this.1, szIs_eq this.2⟩

theorem run_mapM_list {α β : Type} {P : Program} {w : World} (f : α → Sem β) (g : α → β) : ∀ (l : List α), (∀ x ∈ l, (f x).run P w = .ok (g x) w) → (l.mapM f).run P w = .ok (l.map g) w
  | [], _ => by simp
  | x :: l, h => by
    have h1 := h x (by simp)
    have h2 := run_mapM_list f g l (fun y hy => h y (by simp [hy]))
    simp [h1, h2]
theorem run_mapM {α β : Type} {P : Program} {w : World} (f : α → Sem β) (g : α → β) (l : Array α) (h : ∀ x ∈ l, (f x).run P w = .ok (g x) w) : (l.mapM f).run P w = .ok (l.map g) w := by
  rw [Array.mapM_eq_mapM_toList]
  have := run_mapM_list f g l.toList (by simpa using h)
  simp [this]
  apply Array.ext'
  simp

theorem one_cells {v : Value} (h : v.oneCell' = true) : v.cells = #[v] := by cases v <;> first | rfl | (simp [Value.oneCell'] at h)

/-- Parts laid upon cells, each into its place. -/
def laid : List Value → List (Nat × Value) → List Value
  | z, [] => z
  | z, (k, v) :: r => laid (z.set k v) r
theorem length_laid : ∀ (ps : List (Nat × Value)) (z : List Value), (laid z ps).length = z.length
  | [], z => rfl
  | (k, v) :: r, z => by rw [laid, length_laid r, List.length_set]

theorem fill_flat {place : Nat → Option (Nat × Nat)} {n : Nat} (hp : ∀ k, k < n → place k = some (k, 1)) : ∀ (ps : List (Nat × Value)) (z : List Value), z.length = n → (∀ p ∈ ps, p.1 < n ∧ p.2.oneCell' = true) →
    Instr.fill place z.toArray ps = some (laid z ps).toArray
  | [], z, _, _ => by rw [Instr.fill.eq_1]; rfl
  | (k, v) :: r, z, hz, h => by
    obtain ⟨h1, h2⟩ := h (k, v) (by simp)
    simp only at h1 h2
    rw [Instr.fill.eq_2, hp k h1]
    simp only [one_cells h2]
    rw [if_neg (by simp; omega)]
    have := fill_flat hp r (z.set k v) (by simpa using hz) (fun p hp => h p (by simp [hp]))
    rw [laid, ← this]
    congr 1
    simp

theorem run_build {P : Program} {t : TypeId} {z : List Value} {w : World} {ps : List (Nat × Value)} (h : Flat P t z) (hp : ∀ p ∈ ps, p.1 < z.length ∧ p.2.oneCell' = true) :
    (Instr.build t ps.toArray).run P w = .ok (.agg (laid z ps).toArray) w := by
  obtain ⟨⟨i, hi, hz⟩, _, fs, hu, hs, hf⟩ := h
  have hm : (fs.mapM (fun f : Field => (do let n ← sizeOf f.type; pure (f.offset, n) : Sem (Nat × Nat)))).run P w = .ok (fs.map fun f : Field => (f.offset, 1)) w := by
    refine run_mapM _ _ fs fun f hfm => ?_
    obtain ⟨k, hk⟩ := Array.getElem?_of_mem hfm
    obtain ⟨_, j, hj, hj1⟩ := hf k f hk
    simp [sizeOf, typeInfo, hj, hj1]
  have hfill := fill_flat (place := fun x => (fs.map fun f : Field => (f.offset, 1))[x]?) (n := z.length) (fun k hk => by
    have hk' : k < fs.size := by omega
    have := hf k fs[k] (by simp [hk'])
    simp [hk', this.1]) ps z rfl hp
  have hc : (Value.agg z.toArray).cells = z.toArray := rfl
  simp only [Instr.build, Sem.run_bind, zero_of hi hz, Result.andThen_ok, run_underlying hu, hm, hc, hfill, Sem.run_pure, List.toList_toArray]

variable {P : Program} {a : Act} {w : World} {K : Act → World → Prop} {Q : Exit → Act → World → Prop} {d : Option Tmp} {t : TypeId} {p : String} {af : Array Edge} {g : Option (Nat × Bool)}

/-- 'T{F: x}' -/
theorem wp_build1 {s : TypeId} {z : List Value} {k : Nat} {x : Operand} {v : Value} (h : Flat P s z) (hk : k < z.length) (hx : a.eval x = v) (h1 : v.oneCell' = true)
    (kk : K (a.put d (.agg (z.set k v).toArray)) w) : OW P ⟨d, .build s #[(k, x)], t, p, af, g⟩ a w K Q := by
  refine wp_val (v := .agg (z.set k v).toArray) (w' := w) ?_ kk
  have := run_build (w := w) (ps := [(k, v)]) h (by simp; exact ⟨hk, h1⟩)
  simp only [execOp, List.map_toArray, List.map_cons, List.map_nil, hx, Sem.run_bind, this, Result.andThen_ok, Sem.run_pure, laid]
theorem wp_build2 {s : TypeId} {z : List Value} {k k' : Nat} {x y : Operand} {v v' : Value} (h : Flat P s z) (hk : k < z.length) (hk' : k' < z.length) (hx : a.eval x = v) (h1 : v.oneCell' = true) (hx' : a.eval y = v') (h1' : v'.oneCell' = true)
    (kk : K (a.put d (.agg ((z.set k v).set k' v').toArray)) w) : OW P ⟨d, .build s #[(k, x), (k', y)], t, p, af, g⟩ a w K Q := by
  refine wp_val (v := .agg ((z.set k v).set k' v').toArray) (w' := w) ?_ kk
  have := run_build (w := w) (ps := [(k, v), (k', v')]) h (by simp; exact ⟨⟨hk, h1⟩, hk', h1'⟩)
  simp only [execOp, List.map_toArray, List.map_cons, List.map_nil, hx, hx', Sem.run_bind, this, Result.andThen_ok, Sem.run_pure, laid]

/-- A struct's cells, loaded. -/
theorem wp_loadFlat {s : TypeId} {z : List Value} {x : Operand} {b o : Nat} {cs : List Value} (h : Flat P s z) (hl : cs.length = z.length) (hx : a.eval x = .pointer (some ⟨b, o, none⟩)) (hc : w.rangeAt b o cs)
    (k : K (a.put d (.agg cs.toArray)) w) : OW P ⟨d, .load s x, t, p, af, g⟩ a w K Q := by
  obtain ⟨_, hs, fs, hu, _⟩ := h
  exact ⟨wp_load_mid s x rfl b o hx cs _ hc hu rfl (by rw [hs, hl]) k⟩
theorem wp_storeFlat {s : TypeId} {z : List Value} {x y : Operand} {b o : Nat} {cs : List Value} (h : Flat P s z) (hl : cs.length = z.length) (hx : a.eval x = .pointer (some ⟨b, o, none⟩)) (hy : a.eval y = .agg cs.toArray)
    (h1 : ∀ u ∈ cs, u.oneCell' = true) (ht : w.there b o cs.length) (k : K (a.put d undef) (w.setCells b o cs)) : OW P ⟨d, .store s x y, t, p, af, g⟩ a w K Q := by
  constructor
  refine wp_store_mid s x y rfl b o cs.toArray hx hy (by simpa using ht) (by rw [h.size, ← hl]; simp) (by simpa using h1) ?_
  simpa using k

theorem str_len (v : ByteArray) : v.data.toList.length = v.size := by rw [Array.length_toList]; rfl

/-- '[]byte(s)' -/
theorem wp_toBytes {s u : TypeId} {x : Operand} {v : ByteArray} (hbig : v.data.toList.length ≤ 4294967296) (hs : strTy P s = true) (hu : byteSl P u = true) (hx : a.eval x = .string v)
    (k : ∀ y w', Fr [] w w' → OctE w' (fun b => w.heap.size ≤ b ∧ b < w'.heap.size) y v.data.toList → K (a.put d y) w') : OW P ⟨d, .convert s u x, t, p, af, g⟩ a w K Q := by
  obtain ⟨e, h1, h2⟩ := under_bytes hu
  have hr := Lib.run_convert_string_bytes (P := P) w s u e v (under_str hs) h1 h2
  refine wp_val (v := .slice (some ⟨w.heap.size, 0, none⟩) v.size (grownCap w v.size 0 e)) (w' := Lib.bytesWorld w e v) (by simp [execOp, hx, hr]) ?_
  have hold := Lib.bytesWorld_at_old w e v
  have hbs := Lib.bytesWorld_size w e v
  refine k _ _ ⟨rfl, rfl, rfl, by omega, fun j hj _ => hold j hj, fun j cs T fz hc => ⟨cs, by rw [hold j (lt_of_block hc)]; exact hc, rfl, fun _ _ => rfl⟩⟩ ?_
  refine ⟨some v.data.toList, .inr ⟨w.heap.size, 0, grownCap w v.size 0 e, v.data.toList, ⟨Nat.le_refl _, by omega⟩, by rw [str_len], ⟨?_, hbig⟩, ?_, rfl⟩, rfl⟩
  · rw [str_len]; exact grownCap_ge w v.size 0 e
  · intro j u hj
    simp [octets] at hj
    obtain ⟨c, hc, rfl⟩ := hj
    have hlt : j < v.size := by exact (Array.getElem?_eq_some_iff.1 hc).1
    rw [Nat.zero_add, Lib.bytesWorld_cell w e v j hlt]
    simp [List.getD, hc]

end Go.Kq

/- Appending to a slice that one owns. -/
namespace Go.Kq
open Go Go.Proofs

/-- A slice with its spare cells: so many things of so many cells each. -/
def Own (w : World) (A : Nat → Prop) (sz : Nat) (v : Value) (n : Nat) (xs : List Value) : Prop :=
  xs.length = n * sz ∧ ((v = .slice none 0 0 ∧ n = 0) ∨ ∃ g o cap, A g ∧ v = .slice (some ⟨g, o, none⟩) n cap ∧ n ≤ cap ∧ cap ≤ maxLen ∧ w.rangeAt g o xs ∧ w.there g o (cap * sz))
/-- Its spare. -/
def spare (v : Value) (sz : Nat) : List Rng := match v with
  | .slice (some a) n cap => [⟨a.block, a.off + n * sz, a.off + cap * sz⟩]
  | _ => []
/-- Its block. -/
def blk : Value → Option Nat
  | .slice (some a) _ _ => some a.block
  | _ => none
theorem Own.nil {w : World} {A : Nat → Prop} {sz : Nat} : Own w A sz (.slice none 0 0) 0 [] := ⟨by simp, .inl ⟨rfl, rfl⟩⟩
theorem Own.kept {w w' : World} {A A' : Nat → Prop} {sz n : Nat} {v : Value} {xs : List Value} {l : List Rng} (h : Own w A sz v n xs) (hf : Fr l w w') (hl : ∀ r ∈ l, A r.b → ∀ g o cap, v = .slice (some ⟨g, o, none⟩) n cap → r.b = g → r.hi ≤ o ∨ o + n * sz ≤ r.lo) (hA : ∀ b, A b → A' b) : Own w' A' sz v n xs := by
  obtain ⟨h1, h | ⟨g, o, cap, hg, hv, hc, hm, hr, ht⟩⟩ := h
  · exact ⟨h1, .inl h⟩
  · refine ⟨h1, .inr ⟨g, o, cap, hA g hg, hv, hc, hm, hf.range hr (fun r hrl => ?_), hf.there ht⟩⟩
    by_cases e : r.b = g
    · have := hl r hrl (e ▸ hg) g o cap hv e; rw [h1]; omega
    · exact .inl e
theorem Own.one {w : World} {A : Nat → Prop} {sz n : Nat} {v : Value} {xs : List Value} (h : Own w A sz v n xs) : v.oneCell' = true := by
  obtain ⟨_, h | ⟨_, _, _, _, h, _⟩⟩ := h
  · rw [h.1]; rfl
  · rw [h]; rfl
theorem Own.spare_in {w : World} {A : Nat → Prop} {sz n : Nat} {v : Value} {xs : List Value} (h : Own w A sz v n xs) : ∀ r ∈ spare v sz, A r.b := by
  obtain ⟨_, h | ⟨g, o, cap, hg, h, _⟩⟩ := h
  · rw [h.1]; simp [spare]
  · rw [h]; simp [spare]; exact hg

theorem spare_some (g o n cap sz : Nat) : spare (.slice (some ⟨g, o, none⟩) n cap) sz = [⟨g, o + n * sz, o + cap * sz⟩] := rfl

variable {P : Program} {w : World}

theorem run_append {T e sz bs ty : Nat} {A : Nat → Prop} {z : List Value} {v : Value} {n m c : Nat} {xs news : List Value} {ad : Addr} (hT : sliceOf P T e sz bs = true) (hz : zeroIs P e z) (hzl : z.length = sz)
    (h : Own w A sz v n xs) (hm : 0 < m) (hl : news.length = m * sz) (hn : ∀ j u, news[j]? = some u → w.cell? (ad.add j) = some u) (h1 : ∀ u ∈ news, u.oneCell' = true)
    (hb : (n + m) * bs ≤ 140737488355328) (h63 : n + m ≤ maxLen) :
    ∃ v' w', (Builtin.append_ #[T, T] ty #[v, .slice (some ad) m c]).run P w = .ok v' w' ∧ Fr (spare v sz) w w' ∧ Own w' (fun b => A b ∨ (w.heap.size ≤ b ∧ b < w'.heap.size)) sz v' (n + m) (xs ++ news) ∧ (blk v' = blk v ∨ blk v' = some w.heap.size) ∧ ∀ r ∈ spare v' sz, r.In (spare v sz) w := by
  obtain ⟨hu, i, z0, hi, hs, hby, hzz, hsz⟩ := under_slice hT
  obtain ⟨i', v0, hi', hz', rfl⟩ := hz
  rw [hi] at hi'
  obtain rfl := Option.some.inj hi'
  rw [hzz] at hz'
  obtain rfl := Option.some.inj hz'
  subst hs
  subst hby
  obtain ⟨hx, h | ⟨g, o, cap, hg, rfl, hnc, hcm, hr, ht⟩⟩ := h
  · obtain ⟨rfl, rfl⟩ := h
    have hxs : xs = [] := List.eq_nil_of_length_eq_zero (by simpa using hx)
    subst hxs
    simp only [Nat.zero_add] at hb h63
    have hrun := run_append_nil (P := P) w T ty e i z0 hu hi hzz ad m c news hl hn hm (by simp only [maxLen] at h63; omega) (by omega)
    have hge := grownCap_ge w m 0 e
    refine ⟨_, _, hrun, ((Fr.drew _ w).tr (Fr.alloc _ w.drew _)), ⟨by simp [hl], .inr ⟨w.heap.size, 0, grownCap w m 0 e, .inr ⟨Nat.le_refl _, by rw [size_alloc]; exact Nat.lt_succ_self _⟩, by rw [Nat.zero_add], by omega, grownCap_le_maxLen w m 0 e h63, ?_, ?_⟩⟩, .inr rfl, fun r hr => by rw [spare_some] at hr; simp at hr; subst hr; exact .inl (Nat.le_refl _)⟩
    · have := range_new w.drew (news.toArray ++ Builtin.zeroCells z0.cells (grownCap w m 0 e - m)) e (0, 0)
      rw [Array.toList_append, range_append] at this
      exact this.1
    · refine there_part (there_new w.drew _ e) (Nat.le_refl _) ?_
      simp [Builtin.zeroCells, hl]
      have : z0.cells.size = i.size := by simpa using hzl
      rw [this, ← Nat.add_mul]
      exact Nat.mul_le_mul_right _ (by omega)
  · by_cases hroom : n + m ≤ cap
    · have hmul : (n + m) * i.size ≤ cap * i.size := Nat.mul_le_mul_right _ hroom
      rw [Nat.add_mul] at hmul
      have hths : w.there g (o + n * i.size) news.length := there_part ht (by omega) (by omega)
      have hrun := run_append_room_cells (P := P) w T ty e i hu hi g o n cap ad m c news hl hn h1 hroom (fun j hj => (hths j hj).1) (fun j hj => (hths j hj).2)
      have hf := Fr.sets g news w (o + n * i.size)
      refine ⟨_, _, hrun, ?_, ⟨by rw [List.length_append, hx, hl, Nat.add_mul], .inr ⟨g, o, cap, .inl hg, rfl, hroom, hcm, ?_, hf.there ht⟩⟩, .inl rfl, fun r hr => by rw [spare_some] at hr ⊢; simp at hr; subst hr; exact .inr ⟨⟨g, o + n * i.size, o + cap * i.size⟩, by simp, rfl, by simp only; rw [Nat.add_mul]; omega, Nat.le_refl _⟩⟩
      · rw [spare_some]
        refine hf.mono ?_
        intro r hr
        simp at hr; subst hr
        exact .inr ⟨⟨g, o + n * i.size, o + cap * i.size⟩, by simp, rfl, Nat.le_refl _, by simp only; omega⟩
      · rw [range_append, hx]
        refine ⟨hf.range hr (.cons (.inr (.inl (by simp only; omega))) .nil), World.rangeAt_setCells_same _ _ _ _ hths⟩
    · have hgr : cap < n + m := by omega
      have hrun := run_append_grow (P := P) w T ty e i z0 hu hi hzz ⟨g, o, none⟩ n cap xs hx (fun j u hj => by rw [Addr.add_mid]; exact hr j u hj) ad m c news hl hn hgr (by simp only [maxLen] at h63; omega) (growslice_fits hgr hb)
      have hge := grownCap_ge w (n + m) cap e
      refine ⟨_, _, hrun, ((Fr.drew _ w).tr (Fr.alloc _ w.drew _)), ⟨by rw [List.length_append, hx, hl, Nat.add_mul], .inr ⟨w.heap.size, 0, grownCap w (n + m) cap e, .inr ⟨Nat.le_refl _, by rw [size_alloc]; exact Nat.lt_succ_self _⟩, rfl, by omega, grownCap_le_maxLen w (n + m) cap e h63, ?_, ?_⟩⟩, .inr rfl, fun r hr => by rw [spare_some] at hr; simp at hr; subst hr; exact .inl (Nat.le_refl _)⟩
      · have := range_new w.drew (xs.toArray ++ news.toArray ++ Builtin.zeroCells z0.cells (grownCap w (n + m) cap e - (n + m))) e (0, 0)
        rw [Array.toList_append, Array.toList_append, range_append] at this
        exact this.1
      · refine there_part (there_new w.drew _ e) (Nat.le_refl _) ?_
        simp [Builtin.zeroCells, hl, hx]
        have : z0.cells.size = i.size := by simpa using hzl
        rw [this, ← Nat.add_mul, ← Nat.add_mul]
        exact Nat.mul_le_mul_right _ (by omega)

variable {a : Act} {K : Act → World → Prop} {Q : Exit → Act → World → Prop} {d : Option Tmp} {t : TypeId} {p : String} {af : Array Edge} {gd : Option (Nat × Bool)}

/-- 'append(x, y...)' -/
theorem wp_append {T e sz bs : Nat} {A : Nat → Prop} {z : List Value} {v : Value} {n m c : Nat} {xs news : List Value} {b o : Nat} {x y : Operand} (hT : sliceOf P T e sz bs = true) (hz : zeroIs P e z) (hzl : z.length = sz)
    (hx : a.eval x = v) (hy : a.eval y = .slice (some ⟨b, o, none⟩) m c) (h : Own w A sz v n xs) (hm : 0 < m) (hl : news.length = m * sz) (hn : w.rangeAt b o news) (h1 : ∀ u ∈ news, u.oneCell' = true)
    (hb : (n + m) * bs ≤ 140737488355328) (h63 : n + m ≤ maxLen)
    (k : ∀ v' w', Fr (spare v sz) w w' → Own w' (fun b => A b ∨ (w.heap.size ≤ b ∧ b < w'.heap.size)) sz v' (n + m) (xs ++ news) → (blk v' = blk v ∨ blk v' = some w.heap.size) → K (a.put d v') w') :
    OW P ⟨d, .call ⟨.builtin .append, #[x, y], #[T, T]⟩, t, p, af, gd⟩ a w K Q := by
  obtain ⟨v', w', hr, hf, ho, hbk, _⟩ := run_append (P := P) (ty := t) (ad := ⟨b, o, none⟩) (c := c) hT hz hzl h hm hl (fun j u hj => by rw [Addr.add_mid]; exact hn j u hj) h1 hb h63
  refine wp_val (v := v') (w' := w') ?_ (k v' w' hf ho hbk)
  simp [execOp, resolve, invoke, builtin, hx, hy, hr]

/-- .. and where it may grow on. -/
theorem wp_appendIn {T e sz bs : Nat} {A : Nat → Prop} {z : List Value} {v : Value} {n m c : Nat} {xs news : List Value} {b o : Nat} {x y : Operand} (hT : sliceOf P T e sz bs = true) (hz : zeroIs P e z) (hzl : z.length = sz)
    (hx : a.eval x = v) (hy : a.eval y = .slice (some ⟨b, o, none⟩) m c) (h : Own w A sz v n xs) (hm : 0 < m) (hl : news.length = m * sz) (hn : w.rangeAt b o news) (h1 : ∀ u ∈ news, u.oneCell' = true)
    (hb : (n + m) * bs ≤ 140737488355328) (h63 : n + m ≤ maxLen)
    (k : ∀ v' w', Fr (spare v sz) w w' → Own w' (fun b => A b ∨ (w.heap.size ≤ b ∧ b < w'.heap.size)) sz v' (n + m) (xs ++ news) → (blk v' = blk v ∨ blk v' = some w.heap.size) → (∀ r ∈ spare v' sz, r.In (spare v sz) w) → K (a.put d v') w') :
    OW P ⟨d, .call ⟨.builtin .append, #[x, y], #[T, T]⟩, t, p, af, gd⟩ a w K Q := by
  obtain ⟨v', w', hr, hf, ho, hbk, hin⟩ := run_append (P := P) (ty := t) (ad := ⟨b, o, none⟩) (c := c) hT hz hzl h hm hl (fun j u hj => by rw [Addr.add_mid]; exact hn j u hj) h1 hb h63
  refine wp_val (v := v') (w' := w') ?_ (k v' w' hf ho hbk hin)
  simp [execOp, resolve, invoke, builtin, hx, hy, hr]

/-- '[]T{x}' -/
theorem wp_slice1 {T e sz bs : Nat} {z cs : List Value} {x : Operand} (hT : sliceOf P T e sz bs = true) (hz : zeroIs P e z) (hzl : z.length = sz) (hsz : sz ≤ 16777216) (hx : (a.eval x).cells = cs.toArray) (hl : cs.length = sz)
    (k : w.alloc (.cells cs.toArray e) = w.alloc (.cells cs.toArray e) → K (a.put d (.slice (some ⟨w.heap.size, 0, none⟩) 1 1)) (w.alloc (.cells cs.toArray e))) : OW P ⟨d, .buildSlice T 1 #[(0, x)], t, p, af, gd⟩ a w K Q := by
  obtain ⟨hu, i, z0, hi, hs, hby, hzz, hsz0⟩ := under_slice hT
  subst hs
  constructor
  refine wp_buildSlice T e 1 #[(0, x)] rfl cs.toArray i z0 hu hi hzz (by omega) (by omega) ?_ (k rfl)
  simp only [List.map_toArray, List.map_cons, List.map_nil, Nat.one_mul]
  rw [Instr.fill.eq_2]
  simp only [hx, List.size_toArray, hl]
  rw [if_neg (by simp)]
  rw [Instr.fill.eq_1]
  congr 1
  have key : ∀ (l : List Value) (k : Nat) (acc : List Value), acc.length = k + l.length →
      (l.zipIdx k).foldl (fun cs (x : Value × Nat) => cs.setIfInBounds (0 * i.size + x.2) x.1) acc.toArray = (acc.take k ++ l).toArray := by
    intro l
    induction l with
    | nil => intro k acc h; simp at h; simp [← h]
    | cons v l ih =>
      intro k acc h
      simp only [List.length_cons] at h
      simp only [List.zipIdx_cons, List.foldl_cons, Nat.zero_mul, Nat.zero_add]
      have := ih (k + 1) (acc.set k v) (by simp; omega)
      simp only [Nat.zero_mul, Nat.zero_add] at this
      simp only [List.setIfInBounds_toArray]
      rw [this]
      congr 1
      have hk : k < acc.length := by omega
      have hlk : (List.take k acc).length = k := by simp; omega
      have e1 : (List.take k acc ++ [acc[k]]).set k v = List.take k acc ++ [v] := by rw [List.set_append_right _ _ (by omega)]; simp [hlk]
      rw [List.take_set, List.take_succ_eq_append_getElem hk, e1, List.append_assoc]
      rfl
  have hsa : (Array.map (fun x => z0.cells[x % z0.cells.size]!) (Array.range i.size)).size = i.size := by simp
  generalize Array.map (fun x => z0.cells[x % z0.cells.size]!) (Array.range i.size) = arr at hsa ⊢
  have := key cs 0 arr.toList (by simp [hl, hsa])
  simp only [List.take_zero, List.nil_append] at this
  simpa using this

/-- 'make([]T, n)' for a number that is known -/
theorem wp_make {T e sz bs : Nat} {z : List Value} {n : Nat} (hT : sliceOf P T e sz bs = true) (hz : zeroIs P e z) (hb : bs * n ≤ 281474976710656) (h63 : n ≤ 9223372036854775807)
    (k : K (a.put d (.slice (some ⟨w.heap.size, 0, none⟩) n n)) (w.alloc (.cells (madeCells z.toArray (n * sz)) e))) : OW P ⟨d, .makeSlice T (.const (.int .i64 n)) (.const (.int .i64 n)), t, p, af, gd⟩ a w K Q := by
  obtain ⟨hu, i, z0, hi, hs, hby, hzz, hsz0⟩ := under_slice hT
  obtain ⟨i', v0, hi', hz', rfl⟩ := hz
  rw [hi] at hi'
  obtain rfl := Option.some.inj hi'
  rw [hzz] at hz'
  obtain rfl := Option.some.inj hz'
  subst hs
  subst hby
  have h2 : (i.bytes : Int) * (n : Int) ≤ 281474976710656 := by rw [← Int.natCast_mul]; omega
  have hr := run_make (P := P) w T e i z0 hu hi hzz .i64 .i64 (n : Int) (n : Int) (by omega) (by omega) h2 (by omega)
  refine wp_val (v := .slice (some ⟨w.heap.size, 0, none⟩) n n) (w' := w.alloc (.cells (madeCells z0.cells.toList.toArray (n * i.size)) e)) ?_ k
  simp only [execOp, eval_const, Sem.run_bind, hr, Result.andThen_ok, Sem.run_pure, Array.toArray_toList, Int.toNat_natCast]

end Go.Kq

/- What a message is told as: a tree, field by field. -/
namespace Go.Kq
open Go Go.Proofs

theorem Flat.field {P : Program} {t : TypeId} {z : List Value} (h : Flat P t z) {k : Nat} (hk : k < z.length) : fieldOf P t k k = true := by
  obtain ⟨_, _, fs, hu, hs, hf⟩ := h
  have hk' : k < fs.size := by omega
  have hfk : fs[k]? = some fs[k] := by simp [hk']
  obtain ⟨h1, i, h2, h3⟩ := hf k _ hfk
  simp only [fieldOf, hu, hfk, h1, h2, h3]
  simp

/-- The types of trees. -/
structure TreeTys (P : Program) (TT TL : TypeId) : Prop where
  flat : Flat P TT zT
  sl : sliceOf P TL TT 5 88 = true
  scl : scal P TL = true
  mixed : P.follows .mixedOrders = true
  zero : zeroIs P TT zT

/-- Where a struct and the tree that tells it lie. -/
structure TEnv where
  pb : Nat
  po : Nat
  tb : Nat
  lb : Nat
  n : Nat
  s0 : Nat
  B : Nat → Prop

def TEnv.A (e : TEnv) (w : World) (b : Nat) : Prop := e.s0 ≤ b ∧ b < w.heap.size

/-- What a place of the list holds: cells as they are, or a tree that is told. -/
inductive Slot where
  | raw (cs : List Value)
  | done (t : T)
def SlotAt (w : World) (A : Nat → Prop) (cs : List Value) : Slot → Prop
  | .raw c => cs = c ∧ c.length = 5 ∧ ∀ u ∈ c, u.oneCell' = true
  | .done t => RepT w A cs t
theorem SlotAt.length {w : World} {A : Nat → Prop} {cs : List Value} {y : Slot} (h : SlotAt w A cs y) : cs.length = 5 := by
  cases y with
  | raw c => obtain ⟨rfl, h, _⟩ := h; exact h
  | done t => exact RepT.length h
theorem SlotAt.ones {w : World} {A : Nat → Prop} {cs : List Value} {y : Slot} (h : SlotAt w A cs y) : ∀ u ∈ cs, u.oneCell' = true := by
  cases y with
  | raw c => obtain ⟨rfl, _, h⟩ := h; exact h
  | done t => exact RepT.ones h
theorem SlotAt.kept {w w' : World} {A A' : Nat → Prop} {l : List Rng} {cs : List Value} {y : Slot} (h : SlotAt w A cs y) (hf : Fr l w w') (hl : ∀ r ∈ l, ¬ A r.b) (hA : ∀ b, A b → A' b) : SlotAt w' A' cs y := by
  cases y with
  | raw c => exact h
  | done t => exact RepT.kept h hf hl hA

structure TM (w : World) (e : TEnv) (uv : Value) (ts : List Slot) (hi : Nat) : Prop where
  tree : w.rangeAt e.tb 0 [.int .i64 0, .slice none 0 0, .bool false, .slice (some ⟨e.lb, 0, none⟩) e.n e.n, uv]
  thT : w.there e.tb 0 5
  thL : w.there e.lb 0 (e.n * 5)
  len : ts.length = e.n
  ls : e.lb < e.s0
  tbs : e.tb < e.s0
  ps : e.pb < e.s0
  bs : ∀ b, e.B b → b < e.s0 ∧ b ≠ e.lb ∧ b ≠ e.tb
  ne : e.lb ≠ e.tb
  pl : e.pb ≠ e.lb
  pt : e.pb ≠ e.tb
  s0 : e.s0 ≤ hi
  top : hi ≤ w.heap.size
  els : ∀ i y, ts[i]? = some y → ∃ es, w.rangeAt e.lb (i * 5) es ∧ SlotAt w (fun b => e.s0 ≤ b ∧ b < hi) es y

/-- A field of the struct. -/
def FldAt (w : World) (e : TEnv) (o : Nat) (ty : Ty) (x : V) : Prop := ∃ c, w.rangeAt e.pb (e.po + o) c ∧ Rep w e.B ty c x

theorem TM.kept {w w' : World} {e : TEnv} {uv : Value} {ts : List Slot} {hi : Nat} {l : List Rng} (h : TM w e uv ts hi) (hf : Fr l w w') (hl : ∀ r ∈ l, hi ≤ r.b) : TM w' e uv ts hi := by
  obtain ⟨h1, h2, h3, h4, h5, h6, h7, h8, h9, h10, h11, h12, h12', h13⟩ := h
  refine ⟨hf.range h1 (fun r hr => .inl (by have := hl r hr; omega)), hf.there h2, hf.there h3, h4, h5, h6, h7, h8, h9, h10, h11, h12, Nat.le_trans h12' hf.size, fun i y hy => ?_⟩
  obtain ⟨es, h14, h15⟩ := h13 i y hy
  exact ⟨es, hf.range h14 (fun r hr => .inl (by have := hl r hr; omega)), h15.kept hf (fun r hr ha => by have := hl r hr; have := ha.2; omega) (fun b hb => hb)⟩
theorem TM.up {w : World} {e : TEnv} {uv : Value} {ts : List Slot} {hi hi' : Nat} (h : TM w e uv ts hi) (h1 : hi ≤ hi') (h2 : hi' ≤ w.heap.size) : TM w e uv ts hi' := by
  obtain ⟨g1, g2, g3, g4, g5, g6, g7, g8, g9, g10, g11, g12, g12', g13⟩ := h
  refine ⟨g1, g2, g3, g4, g5, g6, g7, g8, g9, g10, g11, by omega, h2, fun i y hy => ?_⟩
  obtain ⟨es, h14, h15⟩ := g13 i y hy
  exact ⟨es, h14, h15.kept (Fr.refl [] w) (by simp) (fun b hb => ⟨hb.1, by omega⟩)⟩
theorem TM.kept0 {w w' : World} {e : TEnv} {uv : Value} {ts : List Slot} (h : TM w e uv ts w.heap.size) (hf : Fr [] w w') : TM w' e uv ts w'.heap.size :=
  (h.kept hf (by simp)).up hf.size (Nat.le_refl _)

theorem FldAt.kept {w w' : World} {e : TEnv} {o : Nat} {ty : Ty} {x : V} {l : List Rng} (h : FldAt w e o ty x) (hf : Fr l w w') (hl : ∀ r ∈ l, r.b ≠ e.pb ∧ ¬ e.B r.b) : FldAt w' e o ty x := by
  obtain ⟨c, h1, h2⟩ := h
  exact ⟨c, hf.range h1 (fun r hr => .inl (hl r hr).1), h2.kept hf (fun r hr => (hl r hr).2) (fun _ h => h)⟩

/-- Cells are laid into a place. -/
theorem TM.cells {w w' : World} {e : TEnv} {uv : Value} {ts : List Slot} {k hi lo up : Nat} {cs : List Value} {y : Slot} (h : TM w e uv ts hi) (hk : k < e.n) (hs : Fr [⟨e.lb, lo, up⟩] w w') (hlo : k * 5 ≤ lo) (hup : up ≤ k * 5 + 5)
    (hc : w'.rangeAt e.lb (k * 5) cs) (hr : SlotAt w' (fun b => e.s0 ≤ b ∧ b < hi) cs y) : TM w' e uv (ts.set k y) hi := by
  have hsz := hs.size
  have hnA : ∀ r ∈ [(⟨e.lb, lo, up⟩ : Rng)], ¬ (e.s0 ≤ r.b ∧ r.b < hi) := by
    intro r hr hA; simp at hr; subst hr; have := h.ls; exact absurd hA.1 (by simp only; omega)
  refine ⟨hs.range h.tree (.cons (.inl h.ne) .nil), hs.there h.thT, hs.there h.thL, by rw [List.length_set]; exact h.len, h.ls, h.tbs, h.ps, h.bs, h.ne, h.pl, h.pt, h.s0, Nat.le_trans h.top hsz, ?_⟩
  intro i y' hy
  by_cases hik : k = i
  · subst hik
    rw [List.getElem?_set_self (by have := h.len; omega)] at hy
    obtain rfl := Option.some.inj hy
    exact ⟨cs, hc, hr⟩
  · rw [List.getElem?_set_ne hik] at hy
    obtain ⟨es, h2, h3⟩ := h.els i y' hy
    have hel := h3.length
    refine ⟨es, hs.range h2 (.cons (.inr ?_) .nil), h3.kept hs hnA (fun _ h => h)⟩
    rcases Nat.lt_or_gt_of_ne hik with h | h
    · right; simp only; omega
    · left; simp only; omega
/-- A tree is laid into its place. -/
theorem TM.set {w w1 : World} {e : TEnv} {uv : Value} {ts : List Slot} {k : Nat} {cs : List Value} {y : Slot} (h : TM w e uv ts w.heap.size) (hk : k < e.n) (hf : Fr [] w w1) (hr : SlotAt w1 (e.A w1) cs y) :
    TM (w1.setCells e.lb (k * 5) cs) e uv (ts.set k y) (w1.setCells e.lb (k * 5) cs).heap.size ∧ Fr [⟨e.lb, k * 5, k * 5 + 5⟩] w (w1.setCells e.lb (k * 5) cs) := by
  have h1 := h.kept0 hf
  have hlen := hr.length
  have hth : w1.there e.lb (k * 5) cs.length := there_part h1.thL (by omega) (by omega)
  have hs := Fr.sets e.lb cs w1 (k * 5)
  rw [hlen] at hs
  have hnA : ∀ r ∈ [(⟨e.lb, k * 5, k * 5 + 5⟩ : Rng)], ¬ (e.A w1 r.b) := by
    intro r hr hA; simp at hr; subst hr; have := h.ls; exact absurd hA.1 (by simp only; omega)
  exact ⟨(h1.cells hk hs (Nat.le_refl _) (Nat.le_refl _) (World.rangeAt_setCells_same _ _ _ _ hth) (hr.kept hs hnA (fun _ h => h))).up hs.size (Nat.le_refl _), (hf.nil (l := [⟨e.lb, k * 5, k * 5 + 5⟩])).tr hs⟩

/-- A statement that tells a field. -/
def TlG (P : Program) (N sv st m : Nat) (c : Code) (k o : Nat) (ty : Ty) (f : V → Slot) (was : V → Slot → Prop) : Prop :=
  ∀ (e : TEnv) (K : Act → World → Prop) (Q : Exit → Act → World → Prop) (a : Act) (w : World) (ts : List Slot) (x : V) (y : Slot),
    a.tmps.size = N → a.defers = [] → get a sv = .pointer (some ⟨e.pb, e.po, none⟩) → get a st = .pointer (some ⟨e.tb, 0, none⟩) →
    TM w e (.slice none 0 0) ts w.heap.size → ts[k]? = some y → was x y → FldAt w e o ty x → k < e.n →
    (∀ a' w', Kept m a a' → Fr [⟨e.lb, k * 5, k * 5 + 5⟩] w w' → TM w' e (.slice none 0 0) (ts.set k (f x)) w'.heap.size → K a' w') →
    c.wp P (Exit.then K Q) a w
def Tl (P : Program) (N sv st m : Nat) (c : Code) (k o : Nat) (ty : Ty) (f : V → T) : Prop := TlG P N sv st m c k o ty (fun x => .done (f x)) fun _ _ => True

theorem opsOk_append {P : Program} {Q : Exit → Act → World → Prop} {l0 : List Rng} {n : Nat} {a0 : Act} {w0 : World} {sps : List Sp} : ∀ {os os' : List Oper} {ss ss' : List Sp} {i : Nat}, os.length = ss.length →
    opsOk P Q l0 n a0 w0 sps i os ss → opsOk P Q l0 n a0 w0 sps (i + os.length) os' ss' → opsOk P Q l0 n a0 w0 sps i (os ++ os') (ss ++ ss')
  | [], os', [], ss', i, _, _, h => h
  | [], _, _ :: _, _, _, h, _, _ => by simp at h
  | _ :: _, _, [], _, _, h, _, _ => by simp at h
  | o :: os, os', s :: ss, ss', i, hl, h, h' => by
    refine ⟨h.1, opsOk_append (by simpa using hl) h.2 ?_⟩
    rwa [List.length_cons, show i + (os.length + 1) = i + 1 + os.length from by omega] at h'

theorem lastsAll_append {l0 : List Rng} : ∀ {ss ss' : List Sp}, lastsAll l0 ss → lastsAll l0 ss' → lastsAll l0 (ss ++ ss')
  | [], _, _, h => h
  | _ :: _, _, h, h' => ⟨h.1, lastsAll_append h.2 h'⟩
theorem shape_append : ∀ {os os' : List Oper} {d : Nat}, shape d os = true → shape (d + os.length) os' = true → shape d (os ++ os') = true
  | [], _, _, _, h => h
  | o :: os, os', d, h, h' => by
    simp only [shape, Bool.and_eq_true] at h
    simp only [List.cons_append, shape, Bool.and_eq_true]
    exact ⟨h.1, shape_append h.2 (by rwa [List.length_cons, show d + (os.length + 1) = d + 1 + os.length from by omega] at h')⟩

/-- The words on 't.L[k] = ..', ahead of the value. -/
def headSp (e : TEnv) (o : Nat) : List Sp :=
  [spC [] (.pointer (some ⟨e.tb, 0 + 3, none⟩)), spC [0] (.slice (some ⟨e.lb, 0, none⟩) e.n e.n), spC [] (.pointer (some ⟨e.pb, e.po, none⟩)), spC [2] (.pointer (some ⟨e.pb, e.po, none⟩)), spC [3] (.pointer (some ⟨e.pb, e.po + o, none⟩))]

/-- 't.L[k] = <a tree made of v.F>' -/
theorem tl_draw {P : Program} {TT TL S : TypeId} {N sv st m n k o kf r id : Nat} {ty : Ty} {f : V → T} {mid : List Oper} (hT : TreeTys P TT TL)
    {t0 t1 t2 t3 t4 t5 t6 : TypeId} {p0 p1 p2 p3 p4 p5 p6 : String} {e0 e1 e2 e3 e4 e5 e6 : Array Edge} {i6 : Nat} (nds : List (List Nat))
    {es : List (Array Edge)} {nn : List (List Nat)} (he0 : edgeOk 0 es nn = true) (hes : [e0, e1, e2, e3, e4] ++ mid.map (·.after) ++ [e5] ++ [e6] = es) (hnn : [[], [0], [], [2], [3]] ++ nds ++ [[1]] ++ [List.range i6] = nn)
    (hi6 : i6 = 5 + mid.length + 1) (hr : r = n + 5 + nds.length - 1) (hnp : nds ≠ [])
    (hs : shape (n + 5) mid = true) (hnl : nds.length = mid.length) (hS : fieldOf P S kf o = true) (hb : (decide (sv < n) && decide (st < n) && decide (m ≤ n) && decide (n + mid.length + 6 ≤ N)) = true)
    (hmid : ∀ (e : TEnv) (Q : Exit → Act → World → Prop) (a : Act) (w : World) (x : V), a.tmps.size = N → FldAt w e o ty x → e.s0 ≤ w.heap.size → ∃ msp : List Sp, msp.map (·.need) = nds ∧ (msp.filter (·.wr)).length = 0 ∧ lastsAll [] msp ∧
      (∀ tl, opsOk P Q [] n a w (headSp e o ++ msp ++ tl) 5 mid msp) ∧ ∃ s, msp.getLast? = some s ∧ ∀ v w', s.R v w' → Fr [] w w' → ∃ cs : List Value, v = .agg cs.toArray ∧ RepT w' (e.A w') cs (f x)) :
    Tl P N sv st m (Code.region id ⟨([⟨some n, .fieldAddr TT (.tmp st) 3, t0, p0, e0, none⟩, ⟨some (n + 1), .load TL (.tmp n), t1, p1, e1, none⟩, ⟨some (n + 2), .move (.tmp sv), t2, p2, e2, none⟩, ⟨some (n + 3), .nilCheck (.tmp (n + 2)), t3, p3, e3, none⟩,
      ⟨some (n + 4), .fieldAddr S (.tmp (n + 3)) kf, t4, p4, e4, none⟩] ++ mid ++ [⟨some (n + 5 + mid.length), .indexAddr TL (.tmp (n + 1)) (.const (.int .i64 k)), t5, p5, e5, none⟩]) ++
      [⟨none, .store TT (.tmp (n + 5 + mid.length)) (.tmp r), t6, p6, e6, none⟩]⟩ true) k o ty f := by
  intro e K Q a w ts x _ hN hd hsv hst hm _ _ hx hk hK
  subst hes
  subst hnn
  have he := he0
  simp only [Bool.and_eq_true, decide_eq_true_eq] at hb
  obtain ⟨⟨⟨b1, b2⟩, b3⟩, b4⟩ := hb
  obtain ⟨msp, hm1, hm2, hm3, hm4, s, hm5, hm6⟩ := hmid e (Exit.then K Q) a w x hN hx hm.s0
  have hml : msp.length = mid.length := by rw [← hnl, ← hm1, List.length_map]
  have hml0 : 0 < mid.length := by rw [← hnl]; exact List.length_pos_iff.2 hnp
  let ixs : Sp := spC [1] (.pointer (some ⟨e.lb, 0 + (k : Int).toNat * 5, none⟩))
  refine wp_drawE (headSp e o ++ msp ++ [ixs]) n [] hT.mixed ?_ ?_ rfl ?_ ?_ ?_ ?_ ?_
  · have h1 : (headSp e o ++ msp ++ [ixs]).map (·.need) = [[], [0], [], [2], [3]] ++ nds ++ [[1]] := by simp [headSp, spC, ixs, hm1]
    have h2 : ([(⟨some n, .fieldAddr TT (.tmp st) 3, t0, p0, e0, none⟩ : Oper), ⟨some (n + 1), .load TL (.tmp n), t1, p1, e1, none⟩, ⟨some (n + 2), .move (.tmp sv), t2, p2, e2, none⟩, ⟨some (n + 3), .nilCheck (.tmp (n + 2)), t3, p3, e3, none⟩,
      ⟨some (n + 4), .fieldAddr S (.tmp (n + 3)) kf, t4, p4, e4, none⟩] ++ mid ++ [(⟨some (n + 5 + mid.length), .indexAddr TL (.tmp (n + 1)) (.const (.int .i64 k)), t5, p5, e5, none⟩ : Oper)]).length = i6 := by simp [hi6]; omega
    rw [h1, h2]
    simpa using he
  · exact shape_append (shape_append (by simp [shape]) (by simpa using hs)) (by simp only [shape]; simp; show @Eq Nat _ _; omega)
  · have hm2' : msp.filter (·.wr) = [] := List.eq_nil_of_length_eq_zero hm2
    rw [List.filter_append, List.filter_append, hm2']
    simp [headSp, ixs, spC]
  · simp; omega
  · exact lastsAll_append (lastsAll_append ⟨lasts_c _ _ _, lasts_c _ _ _, lasts_c _ _ _, lasts_c _ _ _, lasts_c _ _ _, trivial⟩ hm3) ⟨lasts_c _ _ _, trivial⟩
  · refine opsOk_append (by simp [headSp, hml]) (opsOk_append (by simp [headSp]) ?_ ?_) ?_
    · refine ⟨op_c fun a' w' hk' hf' hd' K' hK' => ?_, op_c fun a' w' hk' hf' hd' K' hK' => ?_, op_c fun a' w' hk' hf' hd' K' hK' => ?_, op_c fun a' w' hk' hf' hd' K' hK' => ?_, op_c fun a' w' hk' hf' hd' K' hK' => ?_, trivial⟩
      · exact wp_fieldAddr (hT.flat.field (by decide)) (by rw [eval_tmp, hk'.get st b2, hst]) hK'
      · exact wp_load hT.scl (by rw [eval_tmp]; exact hd'.c 0 (by simp) rfl) ((hf'.range hm.tree .nil) 3 _ rfl) hK'
      · rw [wp_move, eval_tmp, hk'.get sv b1, hsv]; exact hK'
      · exact wp_nilCheck (by rw [eval_tmp]; exact hd'.c 2 (by simp) rfl) hK'
      · exact wp_fieldAddr hS (by rw [eval_tmp]; exact hd'.c 3 (by simp) rfl) hK'
    · exact hm4 [ixs]
    · refine ⟨?_, trivial⟩
      have hi : 0 + ([(⟨some n, .fieldAddr TT (.tmp st) 3, t0, p0, e0, none⟩ : Oper), ⟨some (n + 1), .load TL (.tmp n), t1, p1, e1, none⟩, ⟨some (n + 2), .move (.tmp sv), t2, p2, e2, none⟩, ⟨some (n + 3), .nilCheck (.tmp (n + 2)), t3, p3, e3, none⟩,
        ⟨some (n + 4), .fieldAddr S (.tmp (n + 3)) kf, t4, p4, e4, none⟩] ++ mid).length = 5 + mid.length := by simp; omega
      rw [hi]
      refine op_c fun a' w' hk' hf' hd' K' hK' => ?_
      rw [show n + (5 + mid.length) = n + 5 + mid.length from by omega] at hK'
      exact wp_indexAddr hT.sl (by rw [eval_tmp]; exact hd'.c 1 (by simp) rfl) rfl (by omega) (by omega) hK'
  · intro a' w' hk' hf' hd'
    have h1 : get a' (n + 5 + mid.length) = .pointer (some ⟨e.lb, k * 5, none⟩) := by
      have := hd'.c (5 + mid.length) (nd' := [1]) (x := .pointer (some ⟨e.lb, 0 + (k : Int).toNat * 5, none⟩)) (by simp [headSp, hml]; omega) (by
        rw [List.getElem?_append_right (by simp [headSp, hml]; omega)]; simp [headSp, hml, ixs, show 5 + mid.length - (mid.length + 5) = 0 from by omega])
      rw [show n + 5 + mid.length = n + (5 + mid.length) from by omega, this]; simp
    have h2 : s.R (get a' r) w' := by
      have := hd'.at (d := 5 + mid.length - 1) (u := s) (by simp [headSp, hml]; omega) (by
        rw [List.getElem?_append_left (by simp [headSp, hml]; omega), List.getElem?_append_right (by simp [headSp]; omega)]
        rw [List.getLast?_eq_getElem?] at hm5
        rw [← hm5]; congr 1; simp [headSp, hml]; omega)
      rw [show n + (5 + mid.length - 1) = r from by omega] at this; exact this
    obtain ⟨cs, h3, h4⟩ := hm6 _ _ h2 hf'
    have hmw := hm.kept0 hf'
    obtain ⟨h5, h6⟩ := hm.set (y := .done (f x)) hk hf' h4
    have hcl := h4.length
    refine wp_storeFlat hT.flat (cs := cs) (by rw [hcl]; rfl) (by rw [eval_tmp, h1]) (by rw [eval_tmp, h3]) h4.ones (there_part hmw.thL (by omega) (by omega)) ?_
    exact hK _ _ (hk'.mono b3) h6 h5

end Go.Kq
