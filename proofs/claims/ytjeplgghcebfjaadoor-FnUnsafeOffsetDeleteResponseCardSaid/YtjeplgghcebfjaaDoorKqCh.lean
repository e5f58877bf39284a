/- Pieces of reading code: fields, texts, conditions, lists. -/
import Derived.Test.YtjeplgghcebfjaaDoorKqRg
namespace Go.Kq
open Go Go.Proofs

/-! ### the library's methods -/
/-- A method of the reader that gives a value. -/
structure MethV (P : Program) (f : FuncId) (ty : Ty) (g : RSt → V × RSt) : Prop where
  enters : Enters P f
  call : ∀ w rb sb st, RW w rb sb st → Calls P f #[.pointer (some ⟨rb, 0, none⟩)] w fun e w' =>
    ∃ x, e = .returned x ∧ Rep w' (Foot sb w.heap.size w'.heap.size) ty [x] (g st).1 ∧ RW w' rb sb (g st).2 ∧ Fr [⟨rb, 0, 2⟩] w w'
structure OkM (P : Program) (f : FuncId) : Prop where
  enters : Enters P f
  call : ∀ w rb sb st, RW w rb sb st → Calls P f #[.pointer (some ⟨rb, 0, none⟩)] w fun e w' => e = .returned (.bool (!st.bad)) ∧ w' = w
structure CompleteM (P : Program) (ge : Nat) (f : FuncId) : Prop where
  enters : Enters P f
  call : ∀ w rb sb st er, RW w rb sb st → w.cell? ⟨ge, 0, none⟩ = some er → Calls P f #[.pointer (some ⟨rb, 0, none⟩)] w fun e w' => e = .returned (if st.bad then er else .nilIface) ∧ w' = w

def Ty.one : Ty → Bool
  | .uuid => false
  | .st _ => false
  | _ => true
theorem Ty.one_size {t : Ty} (h : t.one = true) : t.size = 1 := by cases t <;> simp_all [Ty.one, Ty.size]
theorem Octs.oneCell {w : World} {A : Nat → Prop} {v : Value} {x : Option (List UInt8)} (h : Octs w A v x) : v.oneCell' = true := by
  rcases h with ⟨rfl, _⟩ | ⟨_, _, _, _, _, rfl, _⟩ <;> rfl
theorem Rep.oneCell {w : World} {A : Nat → Prop} {t : Ty} {v : Value} {x : V} (h : Rep w A t [v] x) (ho : t.one = true) : v.oneCell' = true := by
  cases t with
  | int k => obtain ⟨i, h1, _⟩ := h; simp at h1; subst h1; rfl
  | bool => obtain ⟨i, h1, _⟩ := h; simp at h1; subst h1; rfl
  | f64 => obtain ⟨i, h1, _⟩ := h; simp at h1; subst h1; rfl
  | str => obtain ⟨i, h1, _⟩ := h; simp at h1; subst h1; rfl
  | pstr => rcases h with ⟨h1, _⟩ | ⟨_, _, _, _, h1, _⟩ <;> (simp at h1; subst h1; rfl)
  | bytes => obtain ⟨v, y, h1, h2, _⟩ := h; simp at h1; subst h1; exact h2.oneCell
  | uuid => simp [Ty.one] at ho
  | tags => rcases h with ⟨h1, _⟩ | ⟨_, _, _, _, _, h1, _⟩ <;> (simp at h1; subst h1; rfl)
  | arr t => rcases h with ⟨h1, _⟩ | ⟨_, _, _, _, _, h1, _⟩ <;> (simp at h1; subst h1; rfl)
  | st fs => simp [Ty.one] at ho
  | ptr t => rcases h with ⟨h1, _⟩ | ⟨_, _, _, _, h1, _⟩ <;> (simp at h1; subst h1; rfl)

/-! ### a slot that is given a value -/
def Asg (P : Program) (ge : Nat) (cx : Cx) (m : Nat) (c : Code) (v : Nat) (ty : Ty) (f : Int → Bool → RSt → V × RSt) : Prop :=
  ∀ (e : Env) (pb po : Nat) (K : Act → World → Prop) (Q : Exit → Act → World → Prop) (a : Act) (w : World) (st : RSt),
    Slots cx e pb po a → Mem e pb po ge w st →
    (∀ a' w' x, Kept m a a' → get a' v = x → Rep w' (Foot e.sb w.heap.size w'.heap.size) ty [x] (f e.ver e.flex st).1 → RW w' e.rb e.sb (f e.ver e.flex st).2 → Fr [⟨e.rb, 0, 2⟩] w w' → K a' w') →
    c.wp P (Exit.then K Q) a w

theorem asg_call {P : Program} {ge : Nat} {cx : Cx} {m id n v : Nat} {f : FuncId} {ts : Array TypeId} {t1 t2 : TypeId} {p1 p2 : String} {e1 e2 : Array Edge} {ty : Ty} {g : RSt → V × RSt}
    (h : MethV P f ty g) (hb : (decide (n < cx.N) && decide (v < cx.N) && decide (m ≤ n) && decide (m ≤ v)) = true) :
    Asg P ge cx m (Code.region id ⟨[⟨some n, .call ⟨.value (.func f), #[.tmp cx.tb], ts⟩, t1, p1, e1, none⟩, ⟨some v, .assign (.tmp n), t2, p2, e2, none⟩]⟩ false) v ty (fun _ _ => g) := by
  intro e pb po K Q a w st hs hm hk
  simp only [Bool.and_eq_true, decide_eq_true_eq] at hb
  obtain ⟨⟨⟨b1, b2⟩, b3⟩, b4⟩ := hb
  have := hs.size
  refine r_call (m := m) (R := fun x w' => Rep w' (Foot e.sb w.heap.size w'.heap.size) ty [x] (g st).1 ∧ RW w' e.rb e.sb (g st).2 ∧ Fr [⟨e.rb, 0, 2⟩] w w') h.enters hs.b (h.call w e.rb e.sb st hm.rw) (by omega) (by omega) b3 b4 ?_
  rintro a' x w' ⟨h1, h2, h3⟩ hka hg
  exact hk a' w' x hka hg h1 h2 h3

/-- 'if unsafe { .. } else { .. }' -/
theorem asg_uns {P : Program} {ge : Nat} {cx : Cx} {m id n v : Nat} {t1 : TypeId} {p1 : String} {e1 : Array Edge} {c1 c2 : Code} {ty : Ty} {g : Int → Bool → RSt → V × RSt}
    (h1 : Asg P ge cx m c1 v ty g) (h2 : Asg P ge cx m c2 v ty g) (hb : (decide (n < cx.N) && decide (m ≤ n) && cx.below m) = true) :
    Asg P ge cx m (Code.seq (Code.region id ⟨[⟨some n, .move (.tmp cx.tu), t1, p1, e1, none⟩]⟩ false) (.cond (.tmp n) c1 c2)) v ty g := by
  intro e pb po K Q a w st hs hm hk
  simp only [Bool.and_eq_true, decide_eq_true_eq] at hb
  obtain ⟨⟨b1, b2⟩, b3⟩ := hb
  have := hs.size
  refine r_if (m := m) (b := e.uns) (by omega) b2 hs.u ?_ ?_
  · intro _ a1 k1
    exact h1 e pb po K Q a1 w st (hs.kept b3 k1) hm fun a' w' x k2 => hk a' w' x (k1.trans k2)
  · intro _ a1 k1
    exact h2 e pb po K Q a1 w st (hs.kept b3 k1) hm fun a' w' x k2 => hk a' w' x (k1.trans k2)
/-- 'if isFlexible { .. } else { .. }' -/
theorem asg_flex {P : Program} {ge : Nat} {cx : Cx} {m id n v u : Nat} {t1 : TypeId} {p1 : String} {e1 : Array Edge} {c1 c2 : Code} {ty : Ty} {g1 g2 : Int → Bool → RSt → V × RSt}
    (h1 : Asg P ge cx m c1 v ty g1) (h2 : Asg P ge cx m c2 v ty g2) (hu : cx.tf = some u) (hb : (decide (n < cx.N) && decide (m ≤ n) && cx.below m) = true) :
    Asg P ge cx m (Code.seq (Code.region id ⟨[⟨some n, .move (.tmp u), t1, p1, e1, none⟩]⟩ false) (.cond (.tmp n) c1 c2)) v ty (fun ver fl st => if fl then g1 ver fl st else g2 ver fl st) := by
  intro e pb po K Q a w st hs hm hk
  simp only [Bool.and_eq_true, decide_eq_true_eq] at hb
  obtain ⟨⟨b1, b2⟩, b3⟩ := hb
  have := hs.size
  refine r_if (m := m) (b := e.flex) (by omega) b2 (hs.f u hu) ?_ ?_
  · intro hf a1 k1
    simp only [hf, if_true] at hk
    exact h1 e pb po K Q a1 w st (hs.kept b3 k1) hm fun a' w' x k2 => by rw [hf]; exact hk a' w' x (k1.trans k2)
  · intro hf a1 k1
    simp only [hf, if_false, Bool.false_eq_true] at hk
    exact h2 e pb po K Q a1 w st (hs.kept b3 k1) hm fun a' w' x k2 => by rw [hf]; exact hk a' w' x (k1.trans k2)

/-! ### fields -/
def rdOne (g : Int → Bool → RSt → V × RSt) : Rd := fun ver fl st => some (g ver fl st)

/-- 'v := ..; s.F = v' -/
theorem fld_asg {P : Program} {ge : Nat} {cx : Cx} {m id n v : Nat} {S T k o : Nat} {t1 t2 t3 t4 t5 : TypeId} {p1 p2 p3 p4 p5 : String} {e1 e2 e3 e4 e5 : Array Edge} {c : Code} {ty : Ty} {dv : V} {g : Int → Bool → RSt → V × RSt}
    (h : Asg P ge cx m c v ty g) (hT : scal P T = true) (hF : fieldOf P S k o = true) (ho : ty.one = true)
    (hb : (decide (v < n) && decide (n + 3 < cx.N) && decide (m ≤ n) && cx.below m) = true) :
    Fld P ge cx m (Code.seq c (Code.region id ⟨[⟨some n, .move (.tmp cx.ts), t1, p1, e1, none⟩, ⟨some (n + 1), .move (.tmp v), t2, p2, e2, none⟩, ⟨some (n + 2), .nilCheck (.tmp n), t3, p3, e3, none⟩,
      ⟨some (n + 3), .fieldAddr S (.tmp (n + 2)) k, t4, p4, e4, none⟩, ⟨none, .store T (.tmp (n + 3)) (.tmp (n + 1)), t5, p5, e5, none⟩]⟩ false)) o ty dv (rdOne g) := by
  intro e pb po K Q a w st hs hm ht hz hk hq
  simp only [Bool.and_eq_true, decide_eq_true_eq] at hb
  obtain ⟨⟨⟨b1, b2⟩, b3⟩, b4⟩ := hb
  have hsz := hs.size
  have ho1 := Ty.one_size ho
  have hbl := Cx.below_spec b4
  rw [ho1] at ht
  simp only [ho1] at hk
  refine wp_seq_k fun K1 hK1 => ?_
  refine h e pb po K1 _ a w st hs hm ?_
  intro a1 w1 x k1 hg hr hrw hfr
  refine hK1 a1 w1 ?_
  have hs1 := hs.kept b4 k1
  have ht1 := hfr.there ht
  have hpb : pb < w.heap.size := there_lt ht (by omega)
  refine r_store (m := m) (x := x) hs1.s hg (hr.oneCell ho) hT hF ht1 (by omega) b1 (by rw [hs1.size]; exact b2) b3 ?_
  intro a2 k2
  have f2 := Fr.set w1 pb (po + o) x
  have f3 : Fr [⟨e.rb, 0, 2⟩, ⟨pb, po + o, po + o + 1⟩] w (w1.setCell ⟨pb, po + o, none⟩ x) := by
    refine (hfr.mono (l' := [⟨e.rb, 0, 2⟩, ⟨pb, po + o, po + o + 1⟩]) ?_).trans f2 ?_
    · intro r hr; simp at hr; subst hr; exact .inr ⟨_, by simp, rfl, by simp, by simp⟩
    · intro r hr; simp at hr; subst hr; exact .inr ⟨⟨pb, po + o, po + o + 1⟩, by simp, rfl, by simp, by simp⟩
  refine hk a2 _ _ _ rfl (k1.trans k2) (hrw.kept f2 (by intro r hr; simp at hr; subst hr; exact ⟨hm.pr, hm.ps⟩)) f3 ⟨[x], range_one.2 (range_set ht1), ?_⟩
  refine hr.kept f2 (l := [⟨pb, po + o, po + o + 1⟩]) ?_ (fun b hb => hb.mono (Nat.le_refl _) f2.size)
  intro r hr hF
  simp at hr
  subst hr
  rcases hF with hF | ⟨hF, _⟩
  · exact hm.ps hF
  · simp at hF; omega

/-- 'var v T' ahead of it -/
theorem fld_var {P : Program} {ge : Nat} {cx : Cx} {m id v o : Nat} {x : Value} {t1 : TypeId} {p1 : String} {e1 : Array Edge} {c : Code} {ty : Ty} {dv : V} {f : Rd}
    (h : Fld P ge cx m c o ty dv f) (hb : (decide (v < cx.N) && decide (m ≤ v) && cx.below m) = true) :
    Fld P ge cx m (Code.seq (Code.region id ⟨[⟨some v, .assign (.const x), t1, p1, e1, none⟩]⟩ false) c) o ty dv f := by
  intro e pb po K Q a w st hs hm ht hz hk hq
  simp only [Bool.and_eq_true, decide_eq_true_eq] at hb
  obtain ⟨⟨b1, b2⟩, b3⟩ := hb
  have hsz := hs.size
  refine wp_seq_k fun K1 hK1 => ?_
  refine r_const (m := m) (by omega) b2 fun a1 k1 _ => hK1 a1 w ?_
  exact h e pb po K Q a1 w st (hs.kept b3 k1) hm ht hz (fun a' w' x' st' hf k2 => hk a' w' x' st' hf (k1.trans k2)) hq

def rdIf (p : Int → Bool) (dv : V) (f : Rd) : Rd := fun ver fl st => if p ver then f ver fl st else some (dv, st)
/-- 'if version >= k { .. }' -/
theorem fld_if {P : Program} {ge : Nat} {cx : Cx} {m id n o : Nat} {t1 t2 : TypeId} {p1 p2 : String} {e1 e2 : Array Edge} {op : BinOp} {T U : TypeId} {j : Int} {c : Code} {ty : Ty} {dv : V} {f : Rd} {p : Int → Bool}
    (h : Fld P ge cx m c o ty dv f) (hp : ∀ i, cmpR op i j = some (p i)) (hb : (decide (n + 1 < cx.N) && decide (m ≤ n) && cx.below m) = true) :
    Fld P ge cx m (Code.seq (Code.region id ⟨[⟨some n, .move (.tmp cx.tv), t1, p1, e1, none⟩, ⟨some (n + 1), .binOp op T (.tmp n) (.const (.int .i16 j)) U, t2, p2, e2, none⟩]⟩ false) (.cond (.tmp (n + 1)) c .skip)) o ty dv (rdIf p dv f) := by
  intro e pb po K Q a w st hs hm ht hz hk hq
  simp only [Bool.and_eq_true, decide_eq_true_eq] at hb
  obtain ⟨⟨b1, b2⟩, b3⟩ := hb
  have hsz := hs.size
  refine wp_seq_k fun K1 hK1 => ?_
  refine r_cmp (m := m) (by omega) b2 hs.v (hp e.ver) fun a1 k1 hg => hK1 a1 w ?_
  refine wp_cond_split (t := p e.ver) (by rw [eval_tmp, hg]) ?_ ?_
  · intro hpv
    refine h e pb po K Q a1 w st (hs.kept b3 k1) hm ht hz (fun a' w' x' st' hf k2 => hk a' w' x' st' (by simp [rdIf, hpv, hf]) (k1.trans k2)) ?_
    intro hf
    exact hq (by simp [rdIf, hpv, hf])
  · intro hpv
    refine wp_skip ?_
    obtain ⟨z, hz1, hz2⟩ := hz
    exact hk a1 w dv st (by simp [rdIf, hpv]) k1 hm.rw (Fr.refl _ _) ⟨z, hz1, hz2.kept (Fr.refl [] w) (by simp) (fun _ h => h.elim)⟩

end Go.Kq
