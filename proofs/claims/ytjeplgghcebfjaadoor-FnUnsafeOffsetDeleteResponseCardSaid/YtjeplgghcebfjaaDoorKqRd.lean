/- How generated code reads: judgements on pieces of code, and a rule for each shape. -/
import Derived.Test.YtjeplgghcebfjaaDoorKqOps
import Derived.Test.YtjeplgghcebfjaaDoorKqSem
namespace Go.Kq
open Go Go.Proofs

/-! ### slots that are kept -/
structure Kept (m : Nat) (a a' : Act) : Prop where
  size : a'.tmps.size = a.tmps.size
  defers : a'.defers = a.defers
  get : ∀ t, t < m → get a' t = get a t
theorem Kept.refl (m : Nat) (a : Act) : Kept m a a := ⟨rfl, rfl, fun _ _ => rfl⟩
theorem Kept.trans {m : Nat} {a b c : Act} (h : Kept m a b) (k : Kept m b c) : Kept m a c := ⟨k.size.trans h.size, k.defers.trans h.defers, fun t ht => (k.get t ht).trans (h.get t ht)⟩
theorem Kept.mono {m m' : Nat} {a b : Act} (h : Kept m a b) (hm : m' ≤ m) : Kept m' a b := ⟨h.size, h.defers, fun t ht => h.get t (by omega)⟩
theorem Kept.put {m d : Nat} {a b : Act} (h : Kept m a b) (hd : m ≤ d) (v : Value) : Kept m a (b.put (some d) v) :=
  ⟨(size_put _ _ _).trans h.size, (defers_put _ _ _).trans h.defers, fun t ht => (get_put_ne (by omega)).trans (h.get t ht)⟩
theorem Kept.put0 {m d : Nat} {a : Act} (hd : m ≤ d) (v : Value) : Kept m a (a.put (some d) v) := (Kept.refl m a).put hd v

/-- The slots that a reading function goes by: how many there are; the reader's address, the struct's, the version, is it flexible?, unsafe?, the result. -/
structure Cx where
  N : Nat
  tb : Nat
  ts : Nat
  tv : Nat
  tf : Option Nat
  tu : Nat
  tr : Nat
/-- What stands in them: the reader's block, the source's; the version; flexible?; unsafe?; the error. -/
structure Env where
  rb : Nat
  sb : Nat
  ver : Int
  flex : Bool
  uns : Bool
  er : Value

structure Slots (cx : Cx) (e : Env) (pb po : Nat) (a : Act) : Prop where
  size : a.tmps.size = cx.N
  defers : a.defers = []
  b : get a cx.tb = .pointer (some ⟨e.rb, 0, none⟩)
  s : get a cx.ts = .pointer (some ⟨pb, po, none⟩)
  v : get a cx.tv = .int .i16 e.ver
  f : ∀ n, cx.tf = some n → get a n = .bool e.flex
  u : get a cx.tu = .bool e.uns
/-- All of them lie below m. -/
def Cx.below (cx : Cx) (m : Nat) : Bool := decide (cx.tb < m) && decide (cx.ts < m) && decide (cx.tv < m) && (match cx.tf with | some n => decide (n < m) | none => true) && decide (cx.tu < m) && decide (cx.tr < m) && decide (m ≤ cx.N)
theorem Cx.below_spec {cx : Cx} {m : Nat} (h : cx.below m = true) : cx.tb < m ∧ cx.ts < m ∧ cx.tv < m ∧ (∀ n, cx.tf = some n → n < m) ∧ cx.tu < m ∧ cx.tr < m ∧ m ≤ cx.N := by
  simp only [Cx.below, Bool.and_eq_true, decide_eq_true_eq] at h
  obtain ⟨⟨⟨⟨⟨⟨h1, h2⟩, h3⟩, h4⟩, h5⟩, h6⟩, h7⟩ := h
  refine ⟨h1, h2, h3, fun n hn => ?_, h5, h6, h7⟩
  rw [hn] at h4
  simpa using h4
theorem Slots.kept {cx : Cx} {e : Env} {pb po m : Nat} {a a' : Act} (h : Slots cx e pb po a) (hm : cx.below m = true) (k : Kept m a a') : Slots cx e pb po a' := by
  obtain ⟨h1, h2, h3, h4, h5, h6, h7⟩ := Cx.below_spec hm
  exact ⟨k.size.trans h.size, k.defers.trans h.defers, (k.get _ h1).trans h.b, (k.get _ h2).trans h.s, (k.get _ h3).trans h.v, fun n hn => (k.get _ (h4 n hn)).trans (h.f n hn), (k.get _ h5).trans h.u⟩

/-- Where what is read may lead to: the source, and new blocks. -/
def Foot (sb lo hi : Nat) (b : Nat) : Prop := b = sb ∨ (lo ≤ b ∧ b < hi)
def NoFoot (_ : Nat) : Prop := False

/-- What is given: a value or an early return; the version and whether it is flexible are known. -/
abbrev Rd := Int → Bool → RSt → Option (V × RSt)

/-- The memory that a piece of reading code starts from. -/
structure Mem (e : Env) (pb po : Nat) (ge : Nat) (w : World) (st : RSt) : Prop where
  rw : RW w e.rb e.sb st
  er : w.cell? ⟨ge, 0, none⟩ = some e.er
  gp : ge ≠ pb
  gr : ge ≠ e.rb
  pr : pb ≠ e.rb
  ps : pb ≠ e.sb
  sl : e.sb < w.heap.size

theorem Mem.kept {e : Env} {pb po ge : Nat} {w w' : World} {st st' : RSt} {l : List Rng} (h : Mem e pb po ge w st) (hf : Fr l w w') (hl : ∀ r ∈ l, r.b = e.rb ∨ r.b = pb) (hr : RW w' e.rb e.sb st') : Mem e pb po ge w' st' :=
  ⟨hr, hf.cell h.er (fun r hr => .inl (fun e1 => by
    rcases hl r hr with e2 | e2
    · exact h.gr (e1.symm.trans e2)
    · exact h.gp (e1.symm.trans e2))), h.gp, h.gr, h.pr, h.ps, Nat.lt_of_lt_of_le h.sl hf.size⟩

/-- A piece of code reads the cells of a type into the struct: what it gives is a function of the version and the reader's state. 'ge': the error's global. -/
def Fld (P : Program) (ge : Nat) (cx : Cx) (m : Nat) (c : Code) (o : Nat) (ty : Ty) (dv : V) (f : Rd) : Prop :=
  ∀ (e : Env) (pb po : Nat) (K : Act → World → Prop) (Q : Exit → Act → World → Prop) (a : Act) (w : World) (st : RSt),
    Slots cx e pb po a → Mem e pb po ge w st → w.there pb (po + o) ty.size → (∃ z, w.rangeAt pb (po + o) z ∧ Rep w NoFoot ty z dv) →
    (∀ a' w' x st', f e.ver e.flex st = some (x, st') → Kept m a a' → RW w' e.rb e.sb st' → Fr [⟨e.rb, 0, 2⟩, ⟨pb, po + o, po + o + ty.size⟩] w w' →
      (∃ z, w'.rangeAt pb (po + o) z ∧ Rep w' (Foot e.sb w.heap.size w'.heap.size) ty z x) → K a' w') →
    (f e.ver e.flex st = none → ∀ a' w', a'.tmps.size = cx.N → a'.defers = [] → get a' cx.tr = e.er → Fr [⟨e.rb, 0, 2⟩, ⟨pb, po + o, po + o + ty.size⟩] w w' → Q .ret a' w') →
    c.wp P (Exit.then K Q) a w

/-! ### one field behind the other -/
def rdSt0 : Rd := fun _ _ st => some (.l [], st)
def consV (x : V) : V → V
  | .l xs => .l (x :: xs)
  | v => v
def rdCons (f g : Rd) : Rd := fun v fl st =>
  match f v fl st with
  | none => none
  | some (x, s) => match g v fl s with
    | none => none
    | some (y, s) => some (consV x y, s)

theorem rep_size_pos {w : World} {A : Nat → Prop} {b o : Nat} {z : List Value} {ty : Ty} {x : V} (h : w.rangeAt b o z) (hr : Rep w A ty z x) (hn : 0 < ty.size) : b < w.heap.size :=
  range_lt h (by intro e; have := hr.length; rw [e] at this; simp at this; omega)

theorem Foot.mono {sb lo hi lo' hi' b : Nat} (h : Foot sb lo hi b) (h1 : lo' ≤ lo) (h2 : hi ≤ hi') : Foot sb lo' hi' b := by
  rcases h with h | ⟨h3, h4⟩
  · exact .inl h
  · exact .inr ⟨by omega, by omega⟩

theorem Fld.one {P : Program} {ge : Nat} {cx : Cx} {m : Nat} {c : Code} {o : Nat} {ty : Ty} {dv : V} {f : Rd} (h : Fld P ge cx m c o ty dv f) : Fld P ge cx m c o (.st [ty]) (.l [dv]) (rdCons f rdSt0) := by
  intro e pb po K Q a w st hs hm ht hz hk hq
  have hsz : (Ty.st [ty]).size = ty.size := by simp [Ty.size, Ty.sizes]
  simp only [hsz] at ht hk hq
  obtain ⟨z, hz1, xs, hxs, hz2⟩ := hz
  obtain ⟨c1, c2, x, r, rfl, rfl, h1, rfl, rfl⟩ := hz2
  simp at hxs hz1
  subst hxs
  refine h e pb po K Q a w st hs hm ht ⟨c1, hz1, h1⟩ ?_ ?_
  · rintro a' w' x st' hf hka hrw hfr ⟨z, hz3, hz4⟩
    refine hk a' w' (.l [x]) st' ?_ hka hrw hfr ⟨z, hz3, [x], rfl, z, [], x, [], by simp, rfl, hz4, rfl, rfl⟩
    simp [rdCons, hf, rdSt0, consV]
  · intro hf
    exact hq (by simp [rdCons, hf])

theorem Fld.cons {P : Program} {ge : Nat} {cx : Cx} {m m' : Nat} {c c' : Code} {o o' : Nat} {ty : Ty} {dv : V} {f g : Rd} {ts : List Ty} {ds : List V}
    (h : Fld P ge cx m c o ty dv f) (h' : Fld P ge cx m' c' o' (.st ts) (.l ds) g) (ho : o' = o + ty.size) (hb : cx.below m = true) (hm : m ≤ m') (hn : 0 < ty.size) :
    Fld P ge cx m (.seq c c') o (.st (ty :: ts)) (.l (dv :: ds)) (rdCons f g) := by
  intro e pb po K Q a w st hs hm0 ht hz hk hq
  subst ho
  have hsz : (Ty.st (ty :: ts)).size = ty.size + (Ty.st ts).size := by simp [Ty.size, Ty.sizes]
  simp only [hsz] at ht hk hq
  obtain ⟨z, hz1, xs, hxs, hz2⟩ := hz
  obtain ⟨c1, c2, x, r, rfl, rfl, h1, h2⟩ := hz2
  simp at hxs
  obtain ⟨rfl, rfl⟩ := hxs
  rw [range_append] at hz1
  have hl1 := h1.length
  refine wp_seq_k fun K1 hK1 => ?_
  have hpb : pb < w.heap.size := there_lt ht (by omega)
  refine h e pb po K1 (Exit.then K Q) a w st hs hm0 (there_part ht (by omega) (by omega)) ⟨c1, hz1.1, h1⟩ ?_ ?_
  · rintro a1 w1 x st1 hf hka hrw hfr ⟨z1, hz3, hz4⟩
    refine hK1 a1 w1 ?_
    have hm1 : Mem e pb po ge w1 st1 := hm0.kept hfr (by simp) hrw
    have hap : Apart [⟨e.rb, 0, 2⟩, ⟨pb, po + o, po + o + ty.size⟩] pb (po + o + ty.size) (po + o + ty.size + c2.length) :=
      .cons (.inl (fun h => hm0.pr h.symm)) (.cons (.inr (.inr (by simp))) .nil)
    refine h' e pb po K Q a1 w1 st1 (hs.kept hb hka) hm1 ?_ ⟨c2, ?_, ?_⟩ ?_ ?_
    · have := hfr.there (there_part ht (o' := po + o + ty.size) (n' := (Ty.st ts).size) (by omega) (by omega))
      rwa [show po + (o + ty.size) = po + o + ty.size from by omega]
    · have := hfr.range (cs := c2) (b := pb) (o := po + o + ty.size) (by have := hz1.2; rwa [hl1] at this) hap
      rwa [show po + (o + ty.size) = po + o + ty.size from by omega]
    · exact ⟨ds, rfl, Reps.kept hfr (fun _ _ h => h) (fun _ h => h) h2⟩
    · rintro a2 w2 y st2 hg hka2 hrw2 hfr2 ⟨z2, hz5, ys, rfl, hz6⟩
      have hfr' : Fr [⟨e.rb, 0, 2⟩, ⟨pb, po + o, po + o + (ty.size + (Ty.st ts).size)⟩] w w2 := by
        refine (hfr.mono (l' := [⟨e.rb, 0, 2⟩, ⟨pb, po + o, po + o + (ty.size + (Ty.st ts).size)⟩]) ?_).trans hfr2 ?_
        · intro r hr
          simp at hr
          rcases hr with rfl | rfl
          · exact .inr ⟨_, by simp, rfl, by simp, by simp⟩
          · exact .inr ⟨⟨pb, po + o, po + o + (ty.size + (Ty.st ts).size)⟩, by simp, rfl, by simp, by simp <;> omega⟩
        · intro r hr
          simp at hr
          rcases hr with rfl | rfl
          · exact .inr ⟨_, by simp, rfl, by simp, by simp⟩
          · exact .inr ⟨⟨pb, po + o, po + o + (ty.size + (Ty.st ts).size)⟩, by simp, rfl, by simp <;> omega, by simp <;> omega⟩
      refine hk a2 w2 (.l (x :: ys)) st2 ?_ (hka.trans (hka2.mono hm)) hrw2 hfr' ⟨z1 ++ z2, ?_, x :: ys, rfl, z1, z2, x, ys, rfl, rfl, ?_, ?_⟩
      · simp [rdCons, hf, hg, consV]
      · rw [range_append]
        have hl3 := hz4.length
        refine ⟨hfr2.range hz3 (.cons (.inl (fun h => hm0.pr h.symm)) (.cons (.inr (.inl (by simp <;> omega))) .nil)), ?_⟩
        rw [hl3]
        rwa [show po + (o + ty.size) = po + o + ty.size from by omega] at hz5
      · refine Rep.kept hfr2 ?_ (fun b hb => hb.mono (Nat.le_refl _) hfr2.size) hz4
        intro r hr hF
        simp at hr
        have h3 := lt_of_cell (range_cons.1 hm0.rw.2.2.choose_spec.1).1
        rcases hr with rfl | rfl
        · rcases hF with hF | ⟨hF, _⟩
          · exact hm0.rw.1 hF
          · simp at hF; omega
        · rcases hF with hF | ⟨hF, _⟩
          · exact hm0.ps hF
          · simp at hF; omega
      · exact Reps.kept (Fr.refl [] w2) (by simp) (fun b hb => hb.mono hfr.size (Nat.le_refl _)) hz6
    · intro hg a2 w2 hN hd hr hfr2
      refine hq (by simp [rdCons, hf, hg]) a2 w2 hN hd hr ?_
      refine (hfr.mono (l' := [⟨e.rb, 0, 2⟩, ⟨pb, po + o, po + o + (ty.size + (Ty.st ts).size)⟩]) ?_).trans hfr2 ?_
      · intro r hr
        simp at hr
        rcases hr with rfl | rfl
        · exact .inr ⟨_, by simp, rfl, by simp, by simp⟩
        · exact .inr ⟨⟨pb, po + o, po + o + (ty.size + (Ty.st ts).size)⟩, by simp, rfl, by simp, by simp <;> omega⟩
      · intro r hr
        simp at hr
        rcases hr with rfl | rfl
        · exact .inr ⟨_, by simp, rfl, by simp, by simp⟩
        · exact .inr ⟨⟨pb, po + o, po + o + (ty.size + (Ty.st ts).size)⟩, by simp, rfl, by simp <;> omega, by simp <;> omega⟩
  · intro hf a1 w1 hN hd hr hfr
    refine hq (by simp [rdCons, hf]) a1 w1 hN hd hr (hfr.mono ?_)
    intro r hr
    simp at hr
    rcases hr with rfl | rfl
    · exact .inr ⟨_, by simp, rfl, by simp, by simp⟩
    · exact .inr ⟨⟨pb, po + o, po + o + (ty.size + (Ty.st ts).size)⟩, by simp, rfl, by simp, by simp <;> omega⟩

end Go.Kq
