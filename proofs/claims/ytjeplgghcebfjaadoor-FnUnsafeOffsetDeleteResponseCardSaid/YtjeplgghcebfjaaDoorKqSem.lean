/- The reader's state and what each of its methods gives: plain functions. -/
import Derived.Lib.EndianMore
import Derived.Test.YtjeplgghcebfjaaDoorKqVal
namespace Go.Kq
open Go

/-- The octets that are left; whether the source is nil; whether the reader has gone bad. -/
structure RSt where
  xs : List UInt8
  nil : Bool
  bad : Bool
  deriving Inhabited, DecidableEq

def RSt.fail : RSt := ⟨[], true, true⟩

/-- k octets from the head. -/
def rdTake (k : Nat) (st : RSt) : Option (List UInt8) × RSt :=
  if st.xs.length < k then (none, .fail) else (some (st.xs.take k), { st with xs := st.xs.drop k })
def rdNum (kd : IntKind) (k : Nat) (st : RSt) : Int × RSt :=
  match rdTake k st with
  | (none, s) => (0, s)
  | (some l, s) => (kd.wrap (Lib.beNat l), s)
/-- Span: so many octets, nil if there are not so many. -/
def rdSpan (l : Int) (st : RSt) : Option (List UInt8) × RSt :=
  if (st.xs.length : Int) < l ∨ l < 0 then (none, .fail)
  else (if st.nil then none else some (st.xs.take l.toNat), { st with xs := st.xs.drop l.toNat })
def rdArrayLen (st : RSt) : Int × RSt :=
  let (r, s) := rdNum .i32 4 st
  if (s.xs.length : Int) < r then (0, .fail) else (r, s)
def rdString (st : RSt) : List UInt8 × RSt :=
  let (l, s) := rdNum .i16 2 st
  let (x, s) := rdSpan l s
  (x.getD [], s)

theorem rdNum_len (kd : IntKind) (k : Nat) (st : RSt) : (rdNum kd k st).2.xs.length ≤ st.xs.length := by
  unfold rdNum rdTake
  split <;> rename_i h <;> split at h <;> simp at h <;> first | (rw [← h.2]; simp [RSt.fail]) | (rw [← h]; simp [RSt.fail])
theorem rdSpan_len (l : Int) (st : RSt) : ((rdSpan l st).1.getD []).length ≤ st.xs.length := by
  unfold rdSpan
  split
  · simp
  · split <;> simp <;> omega
theorem rdString_length (st : RSt) : (rdString st).1.length ≤ st.xs.length := by
  unfold rdString
  exact Nat.le_trans (rdSpan_len _ _) (rdNum_len _ _ _)
theorem rdNum_i16 (st : RSt) : -32768 ≤ (rdNum .i16 2 st).1 ∧ (rdNum .i16 2 st).1 ≤ 32767 := by
  unfold rdNum
  split
  · simp
  · simp [IntKind.wrap, IntKind.bits, IntKind.signed]
    split <;> omega
theorem rdNum_i32 (st : RSt) : -2147483648 ≤ (rdNum .i32 4 st).1 ∧ (rdNum .i32 4 st).1 ≤ 2147483647 := by
  unfold rdNum
  split
  · simp
  · simp [IntKind.wrap, IntKind.bits, IntKind.signed]
    split <;> omega

/-- The reader in memory: its block, the block of the source. -/
def RW (w : World) (rb sb : Nat) (st : RSt) : Prop :=
  rb ≠ sb ∧ w.there rb 0 2 ∧ ∃ sv, w.rangeAt rb 0 [sv, .bool st.bad] ∧
    ((st.nil = true ∧ st.xs = [] ∧ sv = .slice none 0 0) ∨
     (st.nil = false ∧ ∃ o cap, sv = .slice (some ⟨sb, o, none⟩) st.xs.length cap ∧ (st.xs.length ≤ cap ∧ st.xs.length ≤ 4294967296) ∧ w.rangeAt sb o (octets st.xs)))

theorem RW.kept {w w' : World} {rb sb : Nat} {st : RSt} {l : List Rng} (h : RW w rb sb st) (hf : Fr l w w') (hl : ∀ r ∈ l, r.b ≠ rb ∧ r.b ≠ sb) : RW w' rb sb st := by
  obtain ⟨h1, h2, sv, h3, h4⟩ := h
  refine ⟨h1, hf.there h2, sv, hf.range h3 (fun r hr => .inl (hl r hr).1), ?_⟩
  rcases h4 with h4 | ⟨h4, o, cap, h5, h6, h7⟩
  · exact .inl h4
  · exact .inr ⟨h4, o, cap, h5, h6, hf.range h7 (fun r hr => .inl (hl r hr).2)⟩
theorem RW.cells {w : World} {rb sb : Nat} {st : RSt} (h : RW w rb sb st) : ∃ sv, w.cell? ⟨rb, 0, none⟩ = some sv ∧ w.cell? ⟨rb, 1, none⟩ = some (.bool st.bad) ∧ w.frozen? ⟨rb, 0, none⟩ = false ∧ w.frozen? ⟨rb, 1, none⟩ = false ∧ rb < w.heap.size ∧
    ((st.nil = true ∧ st.xs = [] ∧ sv = .slice none 0 0) ∨
     (st.nil = false ∧ ∃ o cap, sv = .slice (some ⟨sb, o, none⟩) st.xs.length cap ∧ (st.xs.length ≤ cap ∧ st.xs.length ≤ 4294967296) ∧ w.rangeAt sb o (octets st.xs))) := by
  obtain ⟨h1, h2, sv, h3, h4⟩ := h
  rw [range_cons, range_one] at h3
  exact ⟨sv, h3.1, h3.2, (h2 0 (by omega)).2, (h2 1 (by omega)).2, lt_of_cell h3.1, h4⟩
/-- .. as a slice, whatever it is. -/
theorem RW.slice {w : World} {rb sb : Nat} {st : RSt} (h : RW w rb sb st) : ∃ q cap, w.cell? ⟨rb, 0, none⟩ = some (.slice q st.xs.length cap) ∧ w.cell? ⟨rb, 1, none⟩ = some (.bool st.bad) ∧ w.frozen? ⟨rb, 0, none⟩ = false ∧ w.frozen? ⟨rb, 1, none⟩ = false ∧ rb < w.heap.size := by
  obtain ⟨sv, h1, h2, h3, h4, h5, h6⟩ := h.cells
  rcases h6 with ⟨_, hx, rfl⟩ | ⟨_, o, cap, rfl, _⟩
  · exact ⟨none, 0, by rw [hx]; exact h1, h2, h3, h4, h5⟩
  · exact ⟨_, cap, h1, h2, h3, h4, h5⟩
/-- .. of at least one octet. -/
theorem RW.some {w : World} {rb sb : Nat} {st : RSt} (h : RW w rb sb st) (hx : st.xs ≠ []) : ∃ o cap, w.cell? ⟨rb, 0, none⟩ = some (.slice (some ⟨sb, o, none⟩) st.xs.length cap) ∧ w.cell? ⟨rb, 1, none⟩ = some (.bool st.bad) ∧
    w.frozen? ⟨rb, 0, none⟩ = false ∧ w.frozen? ⟨rb, 1, none⟩ = false ∧ rb < w.heap.size ∧ sb < w.heap.size ∧ st.xs.length ≤ cap ∧ w.rangeAt sb o (octets st.xs) ∧ st.nil = false := by
  obtain ⟨sv, h1, h2, h3, h4, h5, h6⟩ := h.cells
  rcases h6 with ⟨_, hx', rfl⟩ | ⟨hn, o, cap, rfl, hc, hr⟩
  · exact absurd hx' hx
  · exact ⟨o, cap, h1, h2, h3, h4, h5, range_lt hr (by simpa [octets] using hx), hc.1, hr, hn⟩
theorem RW.gone {w : World} {rb sb : Nat} {st : RSt} (h : RW w rb sb st) : RW ((w.setCell ⟨rb, 1, none⟩ (.bool true)).setCell ⟨rb, 0, none⟩ (.slice none 0 0)) rb sb .fail ∧
    Fr [⟨rb, 0, 2⟩] w ((w.setCell ⟨rb, 1, none⟩ (.bool true)).setCell ⟨rb, 0, none⟩ (.slice none 0 0)) := by
  obtain ⟨h1, h2, _⟩ := h
  have f1 := Fr.set w rb 1 (.bool true)
  have f2 := Fr.set (w.setCell ⟨rb, 1, none⟩ (.bool true)) rb 0 (.slice none 0 0)
  have t1 := f1.there h2
  refine ⟨⟨h1, f2.there t1, .slice none 0 0, ?_, .inl ⟨rfl, rfl, rfl⟩⟩, ?_⟩
  · rw [range_cons, range_one]
    exact ⟨range_set (there_part t1 (Nat.le_refl _) (by omega)), f2.cell (range_set (there_part h2 (by omega) (by omega))) (Apart.cons (.inr (.inr (by simp))) .nil)⟩
  · exact (f1.mono (by intro r hr; simp at hr; subst hr; exact .inr ⟨_, List.mem_singleton.2 rfl, rfl, by simp, by simp⟩)).trans f2
      (by intro r hr; simp at hr; subst hr; exact .inr ⟨_, List.mem_singleton.2 rfl, rfl, by simp, by simp⟩)
theorem RW.big {w : World} {rb sb : Nat} {st : RSt} (h : RW w rb sb st) : st.xs.length ≤ 4294967296 := by
  obtain ⟨_, _, sv, _, h4⟩ := h
  rcases h4 with h4 | ⟨_, _, _, _, h6, _⟩
  · rw [h4.2.1]; simp
  · exact h6.2
theorem octets_drop (k : Nat) (l : List UInt8) : (octets l).drop k = octets (l.drop k) := by simp [octets, List.map_drop]
theorem octets_take (k : Nat) (l : List UInt8) : (octets l).take k = octets (l.take k) := by simp [octets, List.map_take]
theorem octets_range {w : World} {b o : Nat} {l : List UInt8} (h : w.rangeAt b o (octets l)) (i n : Nat) : w.rangeAt b (o + i) (octets ((l.drop i).take n)) := by
  have := range_part h i n
  rwa [octets_drop, octets_take] at this
theorem octets_from {w : World} {b o : Nat} {l : List UInt8} (h : w.rangeAt b o (octets l)) (i : Nat) : w.rangeAt b (o + i) (octets (l.drop i)) := by
  have := octets_range h i (l.drop i).length
  rwa [List.take_length] at this
/-- k octets read on. -/
theorem RW.on {w w1 : World} {rb sb : Nat} {st : RSt} {k o cap : Nat} (h : RW w rb sb st) (hs : w.cell? ⟨rb, 0, none⟩ = .some (.slice (.some ⟨sb, o, none⟩) st.xs.length cap)) (hr : w.rangeAt sb o (octets st.xs)) (hc : st.xs.length ≤ cap)
    (hn : st.nil = false) (hk : k ≤ st.xs.length) (f : Fr [] w w1) {v : Value} (hv : v = .slice (if cap = k then .some ⟨sb, o, none⟩ else (.some ⟨sb, o + k, none⟩)) (st.xs.length - k) (cap - k)) :
    RW (w1.setCell ⟨rb, 0, none⟩ v) rb sb { st with xs := st.xs.drop k } ∧ Fr [⟨rb, 0, 2⟩] w (w1.setCell ⟨rb, 0, none⟩ v) := by
  have h := h.kept f (by simp)
  have hr := f.range hr .nil
  obtain ⟨h1, h2, sv, h3, h4⟩ := h
  have hbig : st.xs.length ≤ 4294967296 := by
    rcases h4 with h4 | ⟨_, _, _, _, h6, _⟩
    · rw [h4.2.1]; simp
    · exact h6.2
  have f2 := Fr.set w1 rb 0 v
  rw [range_cons, range_one] at h3
  refine ⟨⟨h1, f2.there h2, v, ?_, .inr ⟨hn, ?_⟩⟩, (Fr.nil f).trans f2 (by intro r hr; simp at hr; subst hr; exact .inr ⟨_, List.mem_singleton.2 rfl, rfl, by simp, by simp⟩)⟩
  · rw [range_cons, range_one]
    exact ⟨range_set (there_part h2 (Nat.le_refl _) (by omega)), f2.cell h3.2 (Apart.cons (.inr (.inr (by simp))) .nil)⟩
  · by_cases e : cap = k
    · rw [if_pos e] at hv
      refine ⟨o, cap - k, by rw [hv]; simp, ⟨by simp; omega, by simp; omega⟩, ?_⟩
      have : st.xs.drop k = [] := List.drop_of_length_le (by omega)
      simp only [this]; exact range_nil
    · rw [if_neg e] at hv
      exact ⟨o + k, cap - k, by rw [hv]; simp, ⟨by simp; omega, by simp; omega⟩, f2.range (octets_from hr k) (Apart.cons (.inl h1) .nil)⟩
theorem be2 (a b : UInt8) : Lib.beNat [a, b] = a.toNat * 256 + b.toNat := by simp [Lib.beNat, Lib.beFrom]
theorem be4 (a b c d : UInt8) : Lib.beNat [a, b, c, d] = ((a.toNat * 256 + b.toNat) * 256 + c.toNat) * 256 + d.toNat := by simp [Lib.beNat, Lib.beFrom]
theorem be8 (a b c d e f g h : UInt8) : Lib.beNat [a, b, c, d, e, f, g, h] = ((((((a.toNat * 256 + b.toNat) * 256 + c.toNat) * 256 + d.toNat) * 256 + e.toNat) * 256 + f.toNat) * 256 + g.toNat) * 256 + h.toNat := by simp [Lib.beNat, Lib.beFrom]

end Go.Kq
