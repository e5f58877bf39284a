/- Appending to a slice that one owns. -/
import Derived.Test.YtjeplgghcebfjaaDoorKqTr
namespace Go.Kq
open Go Go.Proofs

/-- A slice with its spare cells: so many things of so many cells each. -/
def Own (w : World) (A : Nat → Prop) (sz : Nat) (v : Value) (n : Nat) (xs : List Value) : Prop :=
  xs.length = n * sz ∧ ((v = .slice none 0 0 ∧ n = 0) ∨ ∃ g o cap, A g ∧ v = .slice (some ⟨g, o, none⟩) n cap ∧ n ≤ cap ∧ cap ≤ maxLen ∧ w.rangeAt g o xs ∧ w.there g o (cap * sz))
/-- Its spare. -/
def spare (v : Value) (sz : Nat) : List Rng := match v with
  | .slice (some a) n cap => [⟨a.block, a.off + n * sz, a.off + cap * sz⟩]
  | _ => []
/-- Its block. -/
def blk : Value → Option Nat
  | .slice (some a) _ _ => some a.block
  | _ => none
theorem Own.nil {w : World} {A : Nat → Prop} {sz : Nat} : Own w A sz (.slice none 0 0) 0 [] := ⟨by simp, .inl ⟨rfl, rfl⟩⟩
theorem Own.kept {w w' : World} {A A' : Nat → Prop} {sz n : Nat} {v : Value} {xs : List Value} {l : List Rng} (h : Own w A sz v n xs) (hf : Fr l w w') (hl : ∀ r ∈ l, A r.b → ∀ g o cap, v = .slice (some ⟨g, o, none⟩) n cap → r.b = g → r.hi ≤ o ∨ o + n * sz ≤ r.lo) (hA : ∀ b, A b → A' b) : Own w' A' sz v n xs := by
  obtain ⟨h1, h | ⟨g, o, cap, hg, hv, hc, hm, hr, ht⟩⟩ := h
  · exact ⟨h1, .inl h⟩
  · refine ⟨h1, .inr ⟨g, o, cap, hA g hg, hv, hc, hm, hf.range hr (fun r hrl => ?_), hf.there ht⟩⟩
    by_cases e : r.b = g
    · have := hl r hrl (e ▸ hg) g o cap hv e; rw [h1]; omega
    · exact .inl e
theorem Own.one {w : World} {A : Nat → Prop} {sz n : Nat} {v : Value} {xs : List Value} (h : Own w A sz v n xs) : v.oneCell' = true := by
  obtain ⟨_, h | ⟨_, _, _, _, h, _⟩⟩ := h
  · rw [h.1]; rfl
  · rw [h]; rfl
theorem Own.spare_in {w : World} {A : Nat → Prop} {sz n : Nat} {v : Value} {xs : List Value} (h : Own w A sz v n xs) : ∀ r ∈ spare v sz, A r.b := by
  obtain ⟨_, h | ⟨g, o, cap, hg, h, _⟩⟩ := h
  · rw [h.1]; simp [spare]
  · rw [h]; simp [spare]; exact hg

theorem spare_some (g o n cap sz : Nat) : spare (.slice (some ⟨g, o, none⟩) n cap) sz = [⟨g, o + n * sz, o + cap * sz⟩] := rfl

variable {P : Program} {w : World}

theorem run_append {T e sz bs ty : Nat} {A : Nat → Prop} {z : List Value} {v : Value} {n m c : Nat} {xs news : List Value} {ad : Addr} (hT : sliceOf P T e sz bs = true) (hz : zeroIs P e z) (hzl : z.length = sz)
    (h : Own w A sz v n xs) (hm : 0 < m) (hl : news.length = m * sz) (hn : ∀ j u, news[j]? = some u → w.cell? (ad.add j) = some u) (h1 : ∀ u ∈ news, u.oneCell' = true)
    (hb : (n + m) * bs ≤ 140737488355328) (h63 : n + m ≤ maxLen) :
    ∃ v' w', (Builtin.append_ #[T, T] ty #[v, .slice (some ad) m c]).run P w = .ok v' w' ∧ Fr (spare v sz) w w' ∧ Own w' (fun b => A b ∨ (w.heap.size ≤ b ∧ b < w'.heap.size)) sz v' (n + m) (xs ++ news) ∧ (blk v' = blk v ∨ blk v' = some w.heap.size) := by
  obtain ⟨hu, i, z0, hi, hs, hby, hzz, hsz⟩ := under_slice hT
  obtain ⟨i', v0, hi', hz', rfl⟩ := hz
  rw [hi] at hi'
  obtain rfl := Option.some.inj hi'
  rw [hzz] at hz'
  obtain rfl := Option.some.inj hz'
  subst hs
  subst hby
  obtain ⟨hx, h | ⟨g, o, cap, hg, rfl, hnc, hcm, hr, ht⟩⟩ := h
  · obtain ⟨rfl, rfl⟩ := h
    have hxs : xs = [] := List.eq_nil_of_length_eq_zero (by simpa using hx)
    subst hxs
    simp only [Nat.zero_add] at hb h63
    have hrun := run_append_nil (P := P) w T ty e i z0 hu hi hzz ad m c news hl hn hm (by simp only [maxLen] at h63; omega) (by omega)
    have hge := grownCap_ge w m 0 e
    refine ⟨_, _, hrun, ((Fr.drew _ w).tr (Fr.alloc _ w.drew _)), ⟨by simp [hl], .inr ⟨w.heap.size, 0, grownCap w m 0 e, .inr ⟨Nat.le_refl _, by rw [size_alloc]; exact Nat.lt_succ_self _⟩, by rw [Nat.zero_add], by omega, grownCap_le_maxLen w m 0 e h63, ?_, ?_⟩⟩, .inr rfl⟩
    · have := range_new w.drew (news.toArray ++ Builtin.zeroCells z0.cells (grownCap w m 0 e - m)) e (0, 0)
      rw [Array.toList_append, range_append] at this
      exact this.1
    · refine there_part (there_new w.drew _ e) (Nat.le_refl _) ?_
      simp [Builtin.zeroCells, hl]
      have : z0.cells.size = i.size := by simpa using hzl
      rw [this, ← Nat.add_mul]
      exact Nat.mul_le_mul_right _ (by omega)
  · by_cases hroom : n + m ≤ cap
    · have hmul : (n + m) * i.size ≤ cap * i.size := Nat.mul_le_mul_right _ hroom
      rw [Nat.add_mul] at hmul
      have hths : w.there g (o + n * i.size) news.length := there_part ht (by omega) (by omega)
      have hrun := run_append_room_cells (P := P) w T ty e i hu hi g o n cap ad m c news hl hn h1 hroom (fun j hj => (hths j hj).1) (fun j hj => (hths j hj).2)
      have hf := Fr.sets g news w (o + n * i.size)
      refine ⟨_, _, hrun, ?_, ⟨by rw [List.length_append, hx, hl, Nat.add_mul], .inr ⟨g, o, cap, .inl hg, rfl, hroom, hcm, ?_, hf.there ht⟩⟩, .inl rfl⟩
      · rw [spare_some]
        refine hf.mono ?_
        intro r hr
        simp at hr; subst hr
        exact .inr ⟨⟨g, o + n * i.size, o + cap * i.size⟩, by simp, rfl, Nat.le_refl _, by simp only; omega⟩
      · rw [range_append, hx]
        refine ⟨hf.range hr (.cons (.inr (.inl (by simp only; omega))) .nil), World.rangeAt_setCells_same _ _ _ _ hths⟩
    · have hgr : cap < n + m := by omega
      have hrun := run_append_grow (P := P) w T ty e i z0 hu hi hzz ⟨g, o, none⟩ n cap xs hx (fun j u hj => by rw [Addr.add_mid]; exact hr j u hj) ad m c news hl hn hgr (by simp only [maxLen] at h63; omega) (growslice_fits hgr hb)
      have hge := grownCap_ge w (n + m) cap e
      refine ⟨_, _, hrun, ((Fr.drew _ w).tr (Fr.alloc _ w.drew _)), ⟨by rw [List.length_append, hx, hl, Nat.add_mul], .inr ⟨w.heap.size, 0, grownCap w (n + m) cap e, .inr ⟨Nat.le_refl _, by rw [size_alloc]; exact Nat.lt_succ_self _⟩, rfl, by omega, grownCap_le_maxLen w (n + m) cap e h63, ?_, ?_⟩⟩, .inr rfl⟩
      · have := range_new w.drew (xs.toArray ++ news.toArray ++ Builtin.zeroCells z0.cells (grownCap w (n + m) cap e - (n + m))) e (0, 0)
        rw [Array.toList_append, Array.toList_append, range_append] at this
        exact this.1
      · refine there_part (there_new w.drew _ e) (Nat.le_refl _) ?_
        simp [Builtin.zeroCells, hl, hx]
        have : z0.cells.size = i.size := by simpa using hzl
        rw [this, ← Nat.add_mul, ← Nat.add_mul]
        exact Nat.mul_le_mul_right _ (by omega)

variable {a : Act} {K : Act → World → Prop} {Q : Exit → Act → World → Prop} {d : Option Tmp} {t : TypeId} {p : String} {af : Array Edge} {gd : Option (Nat × Bool)}

/-- 'append(x, y...)' -/
theorem wp_append {T e sz bs : Nat} {A : Nat → Prop} {z : List Value} {v : Value} {n m c : Nat} {xs news : List Value} {b o : Nat} {x y : Operand} (hT : sliceOf P T e sz bs = true) (hz : zeroIs P e z) (hzl : z.length = sz)
    (hx : a.eval x = v) (hy : a.eval y = .slice (some ⟨b, o, none⟩) m c) (h : Own w A sz v n xs) (hm : 0 < m) (hl : news.length = m * sz) (hn : w.rangeAt b o news) (h1 : ∀ u ∈ news, u.oneCell' = true)
    (hb : (n + m) * bs ≤ 140737488355328) (h63 : n + m ≤ maxLen)
    (k : ∀ v' w', Fr (spare v sz) w w' → Own w' (fun b => A b ∨ (w.heap.size ≤ b ∧ b < w'.heap.size)) sz v' (n + m) (xs ++ news) → (blk v' = blk v ∨ blk v' = some w.heap.size) → K (a.put d v') w') :
    OW P ⟨d, .call ⟨.builtin .append, #[x, y], #[T, T]⟩, t, p, af, gd⟩ a w K Q := by
  obtain ⟨v', w', hr, hf, ho, hbk⟩ := run_append (P := P) (ty := t) (ad := ⟨b, o, none⟩) (c := c) hT hz hzl h hm hl (fun j u hj => by rw [Addr.add_mid]; exact hn j u hj) h1 hb h63
  refine wp_val (v := v') (w' := w') ?_ (k v' w' hf ho hbk)
  simp [execOp, resolve, invoke, builtin, hx, hy, hr]

/-- '[]T{x}' -/
theorem wp_slice1 {T e sz bs : Nat} {z cs : List Value} {x : Operand} (hT : sliceOf P T e sz bs = true) (hz : zeroIs P e z) (hzl : z.length = sz) (hsz : sz ≤ 16777216) (hx : (a.eval x).cells = cs.toArray) (hl : cs.length = sz)
    (k : w.alloc (.cells cs.toArray e) = w.alloc (.cells cs.toArray e) → K (a.put d (.slice (some ⟨w.heap.size, 0, none⟩) 1 1)) (w.alloc (.cells cs.toArray e))) : OW P ⟨d, .buildSlice T 1 #[(0, x)], t, p, af, gd⟩ a w K Q := by
  obtain ⟨hu, i, z0, hi, hs, hby, hzz, hsz0⟩ := under_slice hT
  subst hs
  constructor
  refine wp_buildSlice T e 1 #[(0, x)] rfl cs.toArray i z0 hu hi hzz (by omega) (by omega) ?_ (k rfl)
  simp only [List.map_toArray, List.map_cons, List.map_nil, Nat.one_mul]
  rw [Instr.fill.eq_2]
  simp only [hx, List.size_toArray, hl]
  rw [if_neg (by simp)]
  rw [Instr.fill.eq_1]
  congr 1
  have key : ∀ (l : List Value) (k : Nat) (acc : List Value), acc.length = k + l.length →
      (l.zipIdx k).foldl (fun cs (x : Value × Nat) => cs.setIfInBounds (0 * i.size + x.2) x.1) acc.toArray = (acc.take k ++ l).toArray := by
    intro l
    induction l with
    | nil => intro k acc h; simp at h; simp [← h]
    | cons v l ih =>
      intro k acc h
      simp only [List.length_cons] at h
      simp only [List.zipIdx_cons, List.foldl_cons, Nat.zero_mul, Nat.zero_add]
      have := ih (k + 1) (acc.set k v) (by simp; omega)
      simp only [Nat.zero_mul, Nat.zero_add] at this
      simp only [List.setIfInBounds_toArray]
      rw [this]
      congr 1
      have hk : k < acc.length := by omega
      have hlk : (List.take k acc).length = k := by simp; omega
      have e1 : (List.take k acc ++ [acc[k]]).set k v = List.take k acc ++ [v] := by rw [List.set_append_right _ _ (by omega)]; simp [hlk]
      rw [List.take_set, List.take_succ_eq_append_getElem hk, e1, List.append_assoc]
      rfl
  have hsa : (Array.map (fun x => z0.cells[x % z0.cells.size]!) (Array.range i.size)).size = i.size := by simp
  generalize Array.map (fun x => z0.cells[x % z0.cells.size]!) (Array.range i.size) = arr at hsa ⊢
  have := key cs 0 arr.toList (by simp [hl, hsa])
  simp only [List.take_zero, List.nil_append] at this
  simpa using this

/-- 'make([]T, n)' for a number that is known -/
theorem wp_make {T e sz bs : Nat} {z : List Value} {n : Nat} (hT : sliceOf P T e sz bs = true) (hz : zeroIs P e z) (hb : bs * n ≤ 281474976710656) (h63 : n ≤ 9223372036854775807)
    (k : K (a.put d (.slice (some ⟨w.heap.size, 0, none⟩) n n)) (w.alloc (.cells (madeCells z.toArray (n * sz)) e))) : OW P ⟨d, .makeSlice T (.const (.int .i64 n)) (.const (.int .i64 n)), t, p, af, gd⟩ a w K Q := by
  obtain ⟨hu, i, z0, hi, hs, hby, hzz, hsz0⟩ := under_slice hT
  obtain ⟨i', v0, hi', hz', rfl⟩ := hz
  rw [hi] at hi'
  obtain rfl := Option.some.inj hi'
  rw [hzz] at hz'
  obtain rfl := Option.some.inj hz'
  subst hs
  subst hby
  have h2 : (i.bytes : Int) * (n : Int) ≤ 281474976710656 := by rw [← Int.natCast_mul]; omega
  have hr := run_make (P := P) w T e i z0 hu hi hzz .i64 .i64 (n : Int) (n : Int) (by omega) (by omega) h2 (by omega)
  refine wp_val (v := .slice (some ⟨w.heap.size, 0, none⟩) n n) (w' := w.alloc (.cells (madeCells z0.cells.toList.toArray (n * i.size)) e)) ?_ k
  simp only [execOp, eval_const, Sem.run_bind, hr, Result.andThen_ok, Sem.run_pure, Array.toArray_toList, Int.toNat_natCast]

end Go.Kq
