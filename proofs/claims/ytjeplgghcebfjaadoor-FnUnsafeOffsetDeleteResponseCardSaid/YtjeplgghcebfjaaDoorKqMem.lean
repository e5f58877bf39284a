/- Memory: what stays but for some ranges of cells. -/
import Derived.Test.YtjeplgghcebfjaaDoorKqBase
import Derived.Deep.MidRow
import Derived.Laws.AppendOwn
namespace Go.Kq
open Go

/-- A range of cells: block, from, to. -/
structure Rng where
  b : Nat
  lo : Nat
  hi : Nat

theorem lt_of_block {w : World} {b : Nat} {o : Obj} (h : w.heap[b]? = some o) : b < w.heap.size := by
  by_cases hb : b < w.heap.size
  · exact hb
  · rw [Array.getElem?_eq_none (by omega)] at h; simp at h
theorem block_of_cell {w : World} {b o : Nat} {v : Value} (h : w.cell? ⟨b, o, none⟩ = some v) : ∃ cs T fz, w.heap[b]? = some (.cells cs T fz) ∧ cs[o]? = some v := by
  unfold World.cell? at h
  split at h
  · rename_i c T fz hb
    simp at h
    exact ⟨c, T, fz, hb, h⟩
  · simp at h
theorem cell_of_block {w : World} {b o : Nat} {cs : Array Value} {T : TypeId} {fz : Nat × Nat} (h : w.heap[b]? = some (.cells cs T fz)) : w.cell? ⟨b, o, none⟩ = cs[o]? := by
  simp [World.cell?, h]
theorem lt_of_cell {w : World} {b o : Nat} {v : Value} (h : w.cell? ⟨b, o, none⟩ = some v) : b < w.heap.size := by
  obtain ⟨_, _, _, h, _⟩ := block_of_cell h
  exact lt_of_block h

/-- What was there has not turned but in some ranges of cells. -/
structure Fr (l : List Rng) (w w' : World) : Prop where
  os : w'.os = w.os
  tape : w'.tape = w.tape
  output : w'.output = w.output
  size : w.heap.size ≤ w'.heap.size
  block : ∀ k, k < w.heap.size → (∀ r ∈ l, r.b ≠ k) → w'.heap[k]? = w.heap[k]?
  cells : ∀ (k : Nat) cs T fz, w.heap[k]? = some (.cells cs T fz) → ∃ cs', w'.heap[k]? = some (.cells cs' T fz) ∧ cs'.size = cs.size ∧
    ∀ j, (∀ r ∈ l, r.b = k → j < r.lo ∨ r.hi ≤ j) → cs'[j]? = cs[j]?

theorem Fr.refl (l : List Rng) (w : World) : Fr l w w := ⟨rfl, rfl, rfl, Nat.le_refl _, fun _ _ _ => rfl, fun _ cs _ _ h => ⟨cs, h, rfl, fun _ _ => rfl⟩⟩

/-- A range lies within one of a list, or in a block that is new against w. -/
def Rng.In (r : Rng) (l : List Rng) (w : World) : Prop := w.heap.size ≤ r.b ∨ ∃ x ∈ l, x.b = r.b ∧ x.lo ≤ r.lo ∧ r.hi ≤ x.hi

theorem Fr.trans {l l' : List Rng} {a b c : World} (h : Fr l a b) (k : Fr l' b c) (hl : ∀ r ∈ l', r.In l a) : Fr l a c where
  os := k.os.trans h.os
  tape := k.tape.trans h.tape
  output := k.output.trans h.output
  size := Nat.le_trans h.size k.size
  block i hi hn := by
    refine (k.block i (Nat.lt_of_lt_of_le hi h.size) (fun r hr e => ?_)).trans (h.block i hi hn)
    rcases hl r hr with h1 | ⟨x, hx, e1, _⟩
    · omega
    · exact hn x hx (e1.trans e)
  cells i cs T fz hc := by
    obtain ⟨c1, h1, s1, e1⟩ := h.cells i cs T fz hc
    obtain ⟨c2, h2, s2, e2⟩ := k.cells i c1 T fz h1
    refine ⟨c2, h2, s2.trans s1, fun j hj => ?_⟩
    refine (e2 j (fun r hr e => ?_)).trans (e1 j hj)
    rcases hl r hr with h3 | ⟨x, hx, e3, h4, h5⟩
    · have := lt_of_block hc; omega
    · have := hj x hx (e3.trans e); omega
theorem Rng.in_self {l : List Rng} {w : World} {r : Rng} (h : r ∈ l) : r.In l w := .inr ⟨r, h, rfl, Nat.le_refl _, Nat.le_refl _⟩
theorem Fr.tr {l : List Rng} {a b c : World} (h : Fr l a b) (k : Fr l b c) : Fr l a c := h.trans k fun _ hx => Rng.in_self hx
theorem Fr.mono {l l' : List Rng} {w w' : World} (h : Fr l w w') (hl : ∀ r ∈ l, r.In l' w) : Fr l' w w' := (Fr.refl l' w).trans h hl
theorem Fr.nil {l : List Rng} {w w' : World} (h : Fr [] w w') : Fr l w w' := h.mono (by simp)

theorem Fr.alloc (l : List Rng) (w : World) (o : Obj) : Fr l w (w.alloc o) :=
  ⟨rfl, rfl, rfl, by show w.heap.size ≤ (w.heap.push o).size; simp, fun k hk _ => RowKit.Below.heap_alloc _ _ _ (by omega),
    fun k cs _ _ h => ⟨cs, by rw [RowKit.Below.heap_alloc _ _ _ (lt_of_block h)]; exact h, rfl, fun _ _ => rfl⟩⟩
theorem Fr.drew (l : List Rng) (w : World) : Fr l w w.drew := ⟨rfl, rfl, rfl, Nat.le_refl _, fun _ _ _ => rfl, fun _ cs _ _ h => ⟨cs, h, rfl, fun _ _ => rfl⟩⟩
theorem Fr.set (w : World) (b o : Nat) (v : Value) : Fr [⟨b, o, o + 1⟩] w (w.setCell ⟨b, o, none⟩ v) where
  os := rfl
  tape := rfl
  output := rfl
  size := by simp [World.setCell]
  block k _ hn := RowKit.Below.heap_setCell _ _ _ _ (by have := hn ⟨b, o, o + 1⟩ (by simp); exact fun e => this e.symm)
  cells k cs T fz h := by
    by_cases e : k = b
    · subst e
      refine ⟨cs.setIfInBounds o v, ?_, by simp, fun j hj => ?_⟩
      · simp [World.setCell, Array.getElem?_modify, h]
      · have := hj ⟨k, o, o + 1⟩ (by simp) rfl
        simp only at this
        rw [Array.getElem?_setIfInBounds, if_neg (by omega)]
    · exact ⟨cs, by rw [RowKit.Below.heap_setCell _ _ _ _ e]; exact h, rfl, fun _ _ => rfl⟩
theorem Fr.sets (b : Nat) : ∀ (vs : List Value) (w : World) (o : Nat), Fr [⟨b, o, o + vs.length⟩] w (w.setCells b o vs)
  | [], w, o => Fr.refl _ w
  | v :: r, w, o => by
    have h1 := Fr.set w b o v
    have h2 := Fr.sets b r (w.setCell ⟨b, o, none⟩ v) (o + 1)
    refine (h1.mono (l' := [⟨b, o, o + (v :: r).length⟩]) ?_).trans h2 ?_
    · intro x hx; simp at hx; subst hx; exact .inr ⟨_, List.mem_singleton.2 rfl, rfl, Nat.le_refl _, by simp⟩
    · intro x hx; simp at hx; subst hx; exact .inr ⟨_, List.mem_singleton.2 rfl, rfl, by simp, by simp; omega⟩

theorem Fr.below {w w' : World} (h : Fr [] w w') : RowKit.Below w.heap.size w w' :=
  ⟨h.os, h.tape, h.output, h.size, fun k hk => h.block k hk (by simp)⟩

/-- A range of cells and a list of ranges have nothing in common. -/
def Apart (l : List Rng) (b lo hi : Nat) : Prop := ∀ r ∈ l, r.b ≠ b ∨ hi ≤ r.lo ∨ r.hi ≤ lo

theorem Apart.nil {b lo hi : Nat} : Apart [] b lo hi := fun _ h => by cases h
theorem Apart.cons {r : Rng} {l : List Rng} {b lo hi : Nat} (h : r.b ≠ b ∨ hi ≤ r.lo ∨ r.hi ≤ lo) (t : Apart l b lo hi) : Apart (r :: l) b lo hi := fun x hx => by
  rcases List.mem_cons.1 hx with e | e
  · subst e; exact h
  · exact t x e

theorem Fr.cell {l : List Rng} {w w' : World} {b o : Nat} {v : Value} (h : Fr l w w') (hc : w.cell? ⟨b, o, none⟩ = some v) (ha : Apart l b o (o + 1)) : w'.cell? ⟨b, o, none⟩ = some v := by
  obtain ⟨cs, T, fz, hb, hv⟩ := block_of_cell hc
  obtain ⟨cs', hb', _, he⟩ := h.cells b cs T fz hb
  rw [cell_of_block hb', he o (fun r hr e => ?_), hv]
  have := ha r hr; omega
theorem Fr.range {l : List Rng} {w w' : World} {b o : Nat} {cs : List Value} (h : Fr l w w') (hc : w.rangeAt b o cs) (ha : Apart l b o (o + cs.length)) : w'.rangeAt b o cs := by
  intro j v hv
  have hj : j < cs.length := (List.getElem?_eq_some_iff.1 hv).1
  refine h.cell (hc j v hv) (fun r hr => ?_)
  have := ha r hr; omega
theorem there_iff {w : World} {b o n : Nat} : w.there b o n ↔ ∀ j, j < n → ∃ cs T fz, w.heap[b]? = some (.cells cs T fz) ∧ o + j < cs.size ∧ ¬ (fz.1 ≤ o + j ∧ o + j < fz.2) := by
  constructor
  · intro h j hj
    obtain ⟨h1, h2⟩ := h j hj
    obtain ⟨v, hv⟩ := Option.isSome_iff_exists.1 h1
    obtain ⟨cs, T, fz, hb, hc⟩ := block_of_cell hv
    refine ⟨cs, T, fz, hb, (Array.getElem?_eq_some_iff.1 hc).1, ?_⟩
    simp [World.frozen?, hb] at h2
    omega
  · intro h j hj
    obtain ⟨cs, T, fz, hb, hc, hf⟩ := h j hj
    refine ⟨by rw [cell_of_block hb]; simp [hc], ?_⟩
    simp [World.frozen?, hb]
    omega
theorem Fr.there {l : List Rng} {w w' : World} {b o n : Nat} (h : Fr l w w') (hc : w.there b o n) : w'.there b o n := by
  rw [there_iff] at hc ⊢
  intro j hj
  obtain ⟨cs, T, fz, hb, hlt, hf⟩ := hc j hj
  obtain ⟨cs', hb', hs, _⟩ := h.cells b cs T fz hb
  exact ⟨cs', T, fz, hb', by omega, hf⟩
theorem there_part {w : World} {b o n o' n' : Nat} (h : w.there b o n) (h1 : o ≤ o') (h2 : o' + n' ≤ o + n) : w.there b o' n' := fun j hj => by
  have := h (o' - o + j) (by omega)
  rw [show o + (o' - o + j) = o' + j from by omega] at this
  exact this
theorem there_lt {w : World} {b o n : Nat} (h : w.there b o n) (hn : 0 < n) : b < w.heap.size := by
  obtain ⟨cs, T, fz, hb, _⟩ := there_iff.1 h 0 hn
  exact lt_of_block hb
theorem range_lt {w : World} {b o : Nat} {cs : List Value} (h : w.rangeAt b o cs) (hn : cs ≠ []) : b < w.heap.size := by
  cases cs with
  | nil => exact absurd rfl hn
  | cons v r => exact lt_of_cell (h 0 v rfl)
theorem range_append {w : World} {b o : Nat} {xs ys : List Value} : w.rangeAt b o (xs ++ ys) ↔ w.rangeAt b o xs ∧ w.rangeAt b (o + xs.length) ys := by
  constructor
  · intro h
    refine ⟨fun j v hv => h j v ?_, fun j v hv => ?_⟩
    · rw [List.getElem?_append_left (List.getElem?_eq_some_iff.1 hv).1]; exact hv
    · have := h (xs.length + j) v (by rw [List.getElem?_append_right (by omega)]; simpa using hv)
      rw [show o + xs.length + j = o + (xs.length + j) from by omega]; exact this
  · rintro ⟨h1, h2⟩ j v hv
    by_cases hj : j < xs.length
    · rw [List.getElem?_append_left hj] at hv; exact h1 j v hv
    · rw [List.getElem?_append_right (by omega)] at hv
      have := h2 _ v hv
      rw [show o + xs.length + (j - xs.length) = o + j from by omega] at this; exact this
theorem range_one {w : World} {b o : Nat} {v : Value} : w.rangeAt b o [v] ↔ w.cell? ⟨b, o, none⟩ = some v := by
  constructor
  · intro h; exact h 0 v rfl
  · intro h j u hu
    cases j with
    | zero => simp at hu; subst hu; exact h
    | succ j => simp at hu
theorem range_cons {w : World} {b o : Nat} {v : Value} {cs : List Value} : w.rangeAt b o (v :: cs) ↔ w.cell? ⟨b, o, none⟩ = some v ∧ w.rangeAt b (o + 1) cs := by
  rw [show v :: cs = [v] ++ cs from rfl, range_append, range_one]; rfl
theorem range_nil {w : World} {b o : Nat} : w.rangeAt b o [] := fun _ _ h => by simp at h
/-- A part of a range. -/
theorem range_part {w : World} {b o : Nat} {cs : List Value} (h : w.rangeAt b o cs) (i n : Nat) : w.rangeAt b (o + i) ((cs.drop i).take n) := by
  intro j v hv
  rw [List.getElem?_take] at hv
  split at hv
  · rw [List.getElem?_drop] at hv
    have := h (i + j) v hv
    rwa [show o + (i + j) = o + i + j from by omega] at this
  · simp at hv
theorem range_set {w : World} {b o : Nat} {v : Value} (h : w.there b o 1) : (w.setCell ⟨b, o, none⟩ v).cell? ⟨b, o, none⟩ = some v := by
  have := (World.rangeAt_setCells_same w b o [v] h) 0 v rfl
  simpa [World.setCells] using this
/-- A cell in another place than what was stored. -/
theorem there_cell {w : World} {b o n : Nat} (h : w.there b o n) {j : Nat} (hj : o ≤ j) (hn : j < o + n) : ∃ v, w.cell? ⟨b, j, none⟩ = some v := by
  have := (h (j - o) (by omega)).1
  rw [show o + (j - o) = j from by omega] at this
  exact Option.isSome_iff_exists.1 this

/-- A new block. -/
theorem range_new (w : World) (cs : Array Value) (T : TypeId) (fz : Nat × Nat) : (w.alloc (.cells cs T fz)).rangeAt w.heap.size 0 cs.toList := by
  intro j v hv
  have hb : (w.alloc (.cells cs T fz)).heap[w.heap.size]? = some (.cells cs T fz) := by show (w.heap.push _)[w.heap.size]? = _; simp
  rw [cell_of_block hb]; simpa using hv
theorem there_new (w : World) (cs : Array Value) (T : TypeId) : (w.alloc (.cells cs T (0, 0))).there w.heap.size 0 cs.size := by
  rw [there_iff]
  intro j hj
  refine ⟨cs, T, (0, 0), by show (w.heap.push _)[w.heap.size]? = _; simp, by omega, by simp⟩
theorem size_alloc (w : World) (o : Obj) : (w.alloc o).heap.size = w.heap.size + 1 := by show (w.heap.push o).size = _; simp
theorem Fr.grown {w w' : World} {row : Option Nat} (h : w.grownBy w' row) (hr : ∀ k, row = some k → w.heap.size ≤ k) : Fr [] w w' where
  os := h.os
  tape := h.tape
  output := h.output
  size := h.size
  block k hk _ := h.block k hk (fun e => by have := hr k e.symm; omega)
  cells k cs T fz hc := ⟨cs, by rw [h.block k (lt_of_block hc) (fun e => by have := hr k e.symm; have := lt_of_block hc; omega)]; exact hc, rfl, fun _ _ => rfl⟩

end Go.Kq
