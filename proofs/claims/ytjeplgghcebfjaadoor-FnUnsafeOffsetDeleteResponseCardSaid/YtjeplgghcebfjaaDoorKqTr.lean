/- Trees in memory, and the operations that build them. -/
import Derived.Test.YtjeplgghcebfjaaDoorKqDraw
import Derived.Test.YtjeplgghcebfjaaDoorKqDef
import Derived.ArgAppend
import Derived.Lib.ConvBytes
import Derived.Great.BuildSlice
namespace Go.Kq
open Go Go.Proofs

/-- What a tree says. -/
inductive T where
  | mk (n : Int) (s : List UInt8) (nl : Bool) (l : List T) (u : List (Nat × List UInt8))
  deriving Inhabited
def T.zero : T := .mk 0 [] false [] []

def OctE (w : World) (A : Nat → Prop) (v : Value) (s : List UInt8) : Prop := ∃ x, Octs w A v x ∧ x.getD [] = s
theorem OctE.kept {w w' : World} {A A' : Nat → Prop} {l : List Rng} {v : Value} {x : List UInt8} (h : OctE w A v x) (hf : Fr l w w') (hl : ∀ r ∈ l, ¬ A r.b) (hA : ∀ b, A b → A' b) : OctE w' A' v x := by
  obtain ⟨y, h1, h2⟩ := h
  exact ⟨y, h1.kept hf hl hA, h2⟩
theorem OctE.nil {w : World} {A : Nat → Prop} : OctE w A (.slice none 0 0) [] := ⟨none, .inl ⟨rfl, rfl⟩, rfl⟩
theorem OctE.one {w : World} {A : Nat → Prop} {v : Value} {x : List UInt8} (h : OctE w A v x) : v.oneCell' = true := by
  obtain ⟨y, h | ⟨_, _, _, _, _, h, _⟩, _⟩ := h
  · rw [h.1]; rfl
  · rw [h]; rfl

/-- Tags behind a slice. -/
def TagsR (w : World) (A : Nat → Prop) (v : Value) (u : List (Nat × List UInt8)) : Prop :=
  (v = .slice none 0 0 ∧ u = []) ∨ ∃ b o cap, A b ∧ v = .slice (some ⟨b, o, none⟩) u.length cap ∧ (u.length ≤ cap ∧ u.length ≤ 4294967296) ∧
    ∀ (i k : Nat) (x : List UInt8), u[i]? = some (k, x) → ∃ xv, k < 4294967296 ∧ w.rangeAt b (o + i * 2) [.int .u32 k, xv] ∧ OctE w A xv x
theorem TagsR.kept {w w' : World} {A A' : Nat → Prop} {l : List Rng} {v : Value} {x : List (Nat × List UInt8)} (h : TagsR w A v x) (hf : Fr l w w') (hl : ∀ r ∈ l, ¬ A r.b) (hA : ∀ b, A b → A' b) : TagsR w' A' v x := by
  rcases h with h | ⟨b, o, cap, hb, h1, h2, h3⟩
  · exact .inl h
  · refine .inr ⟨b, o, cap, hA b hb, h1, h2, fun i k x hi => ?_⟩
    obtain ⟨xv, h4, h5, h6⟩ := h3 i k x hi
    exact ⟨xv, h4, hf.range h5 (fun r hr => .inl fun e => hl r hr (e ▸ hb)), h6.kept hf hl hA⟩
theorem TagsR.one {w : World} {A : Nat → Prop} {v : Value} {x : List (Nat × List UInt8)} (h : TagsR w A v x) : v.oneCell' = true := by
  rcases h with h | ⟨_, _, _, _, h, _⟩
  · rw [h.1]; rfl
  · rw [h]; rfl

/-- A tree's five cells. -/
inductive RepT (w : World) (A : Nat → Prop) : List Value → T → Prop where
  | nil {n : Int} {sv : Value} {s : List UInt8} {nl : Bool} {uv : Value} {u : List (Nat × List UInt8)} (hn : -9223372036854775808 ≤ n ∧ n ≤ 9223372036854775807) (hs : OctE w A sv s) (hu : TagsR w A uv u) :
      RepT w A [.int .i64 n, sv, .bool nl, .slice none 0 0, uv] (.mk n s nl [] u)
  | sl {n : Int} {sv : Value} {s : List UInt8} {nl : Bool} {uv : Value} {u : List (Nat × List UInt8)} {b o cap : Nat} {l : List T} (es : Nat → List Value) (hn : -9223372036854775808 ≤ n ∧ n ≤ 9223372036854775807) (hs : OctE w A sv s) (hu : TagsR w A uv u)
      (hb : A b) (hc : l.length ≤ cap ∧ l.length ≤ 4294967296) (hr : ∀ i y, l[i]? = some y → w.rangeAt b (o + i * 5) (es i)) (hes : ∀ i y, l[i]? = some y → RepT w A (es i) y) :
      RepT w A [.int .i64 n, sv, .bool nl, .slice (some ⟨b, o, none⟩) l.length cap, uv] (.mk n s nl l u)

theorem RepT.kept {w w' : World} {A A' : Nat → Prop} {l : List Rng} {cs : List Value} {t : T} (h : RepT w A cs t) (hf : Fr l w w') (hl : ∀ r ∈ l, ¬ A r.b) (hA : ∀ b, A b → A' b) : RepT w' A' cs t := by
  induction h with
  | nil hn hs hu => exact .nil hn (hs.kept hf hl hA) (hu.kept hf hl hA)
  | sl es hn hs hu hb hc hr _ ih => exact .sl es hn (hs.kept hf hl hA) (hu.kept hf hl hA) (hA _ hb) hc (fun i y hi => hf.range (hr i y hi) (fun r hr => .inl fun e => hl r hr (e ▸ hb))) ih
theorem RepT.length {w : World} {A : Nat → Prop} {cs : List Value} {t : T} (h : RepT w A cs t) : cs.length = 5 := by cases h <;> rfl
theorem RepT.ones {w : World} {A : Nat → Prop} {cs : List Value} {t : T} (h : RepT w A cs t) : ∀ u ∈ cs, u.oneCell' = true := by
  cases h with
  | nil hn hs hu => intro u h; simp at h; rcases h with rfl | rfl | rfl | rfl | rfl <;> first | rfl | exact hs.one | exact hu.one
  | sl es hn hs hu => intro u h; simp at h; rcases h with rfl | rfl | rfl | rfl | rfl <;> first | rfl | exact hs.one | exact hu.one

/-- Things behind a slice. -/
def Things (w : World) (A : Nat → Prop) (v : Value) (l : List T) : Prop :=
  (v = .slice none 0 0 ∧ l = []) ∨ ∃ b o cap, A b ∧ v = .slice (some ⟨b, o, none⟩) l.length cap ∧ (l.length ≤ cap ∧ l.length ≤ 4294967296) ∧ ∃ es : Nat → List Value, (∀ i y, l[i]? = some y → w.rangeAt b (o + i * 5) (es i)) ∧ ∀ i y, l[i]? = some y → RepT w A (es i) y
theorem Things.one {w : World} {A : Nat → Prop} {v : Value} {x : List T} (h : Things w A v x) : v.oneCell' = true := by
  rcases h with h | ⟨_, _, _, _, h, _⟩
  · rw [h.1]; rfl
  · rw [h]; rfl
theorem repT_iff {w : World} {A : Nat → Prop} {cs : List Value} {n : Int} {s : List UInt8} {nl : Bool} {l : List T} {u : List (Nat × List UInt8)} : RepT w A cs (.mk n s nl l u) ↔
    ∃ sv lv uv, cs = [.int .i64 n, sv, .bool nl, lv, uv] ∧ (-9223372036854775808 ≤ n ∧ n ≤ 9223372036854775807) ∧ OctE w A sv s ∧ Things w A lv l ∧ TagsR w A uv u := by
  constructor
  · intro h
    cases h with
    | nil hn hs hu => exact ⟨_, _, _, rfl, hn, hs, .inl ⟨rfl, rfl⟩, hu⟩
    | sl es hn hs hu hb hc hr hes => exact ⟨_, _, _, rfl, hn, hs, .inr ⟨_, _, _, hb, rfl, hc, es, hr, hes⟩, hu⟩
  · rintro ⟨sv, lv, uv, rfl, hn, hs, hl, hu⟩
    rcases hl with ⟨rfl, rfl⟩ | ⟨b, o, cap, hb, rfl, hc, es, hr, hes⟩
    · exact .nil hn hs hu
    · exact .sl es hn hs hu hb hc hr hes
theorem Things.kept {w w' : World} {A A' : Nat → Prop} {l : List Rng} {v : Value} {x : List T} (h : Things w A v x) (hf : Fr l w w') (hl : ∀ r ∈ l, ¬ A r.b) (hA : ∀ b, A b → A' b) : Things w' A' v x := by
  rcases h with h | ⟨b, o, cap, hb, h1, h2, es, h3, h4⟩
  · exact .inl h
  · exact .inr ⟨b, o, cap, hA b hb, h1, h2, es, fun i y hi => hf.range (h3 i y hi) (fun r hr => .inl fun e => hl r hr (e ▸ hb)), fun i y hi => (h4 i y hi).kept hf hl hA⟩

/-! ### structs of five cells -/
def zT : List Value := [.int .i64 0, .slice none 0 0, .bool false, .slice none 0 0, .slice none 0 0]
theorem repT_zero {w : World} {A : Nat → Prop} : RepT w A zT .zero := .nil (by omega) .nil (.inl ⟨rfl, rfl⟩)

/-- A struct's type all of whose fields take a cell, and what it is at nought. -/
def flatB (P : Program) (t : TypeId) (z : List Value) : Bool :=
  (match P.info? t with | some i => (i.size == z.length) && (match i.zero with | some (.agg c) => valsEq c.toList z | _ => false) | none => false) &&
  (match P.underlying t with | some (.struct fs) => (fs.size == z.length) && (List.range fs.size).all (fun k => match fs[k]? with | some f => f.offset == k && szIs P f.type 1 | none => false) | _ => false)
structure Flat (P : Program) (t : TypeId) (z : List Value) : Prop where
  zero : zeroOf P t (.agg z.toArray)
  size : (P.info? t).map (·.size) = some z.length
  fs : ∃ fs : Array Field, P.underlying t = some (.struct fs) ∧ fs.size = z.length ∧ ∀ (k : Nat) (f : Field), fs[k]? = some f → f.offset = k ∧ ∃ i, P.info? f.type = some i ∧ i.size = 1
theorem flatB_is {P : Program} {t : TypeId} {z : List Value} (h : flatB P t z = true) : Flat P t z := by
  simp only [flatB, Bool.and_eq_true] at h
  obtain ⟨h1, h2⟩ := h
  have h3 : zeroOf P t (.agg z.toArray) ∧ (P.info? t).map (·.size) = some z.length := by
    cases hi : P.info? t with
    | none => simp [hi] at h1
    | some i =>
      simp only [hi, Bool.and_eq_true, beq_iff_eq] at h1
      cases hz : i.zero with
      | none => simp [hz] at h1
      | some v =>
        simp only [hz] at h1
        obtain ⟨h0, h1⟩ := h1
        cases v <;> simp only [] at h1 <;> first | (simp at h1; done) | skip
        rename_i c
        have := valsEq_eq h1
        refine ⟨⟨i, hi, ?_⟩, by simp [h0]⟩
        rw [hz, ← this]
  refine ⟨h3.1, h3.2, ?_⟩
  cases hu : P.underlying t with
  | none => simp [hu] at h2
  | some d =>
    cases d <;> simp only [hu] at h2 <;> first | (simp at h2; done) | skip
    rename_i fs
    simp only [Bool.and_eq_true, beq_iff_eq, List.all_eq_true, List.mem_range] at h2
    refine ⟨fs, rfl, h2.1, fun k f hf => ?_⟩
    have := h2.2 k (Array.getElem?_eq_some_iff.1 hf).1
    simp only [hf, Bool.and_eq_true, beq_iff_eq] at this
    exact ⟨this.1, szIs_eq this.2⟩

theorem run_mapM_list {α β : Type} {P : Program} {w : World} (f : α → Sem β) (g : α → β) : ∀ (l : List α), (∀ x ∈ l, (f x).run P w = .ok (g x) w) → (l.mapM f).run P w = .ok (l.map g) w
  | [], _ => by simp
  | x :: l, h => by
    have h1 := h x (by simp)
    have h2 := run_mapM_list f g l (fun y hy => h y (by simp [hy]))
    simp [h1, h2]
theorem run_mapM {α β : Type} {P : Program} {w : World} (f : α → Sem β) (g : α → β) (l : Array α) (h : ∀ x ∈ l, (f x).run P w = .ok (g x) w) : (l.mapM f).run P w = .ok (l.map g) w := by
  rw [Array.mapM_eq_mapM_toList]
  have := run_mapM_list f g l.toList (by simpa using h)
  simp [this]
  apply Array.ext'
  simp

theorem one_cells {v : Value} (h : v.oneCell' = true) : v.cells = #[v] := by cases v <;> first | rfl | (simp [Value.oneCell'] at h)

/-- Parts laid upon cells, each into its place. -/
def laid : List Value → List (Nat × Value) → List Value
  | z, [] => z
  | z, (k, v) :: r => laid (z.set k v) r
theorem length_laid : ∀ (ps : List (Nat × Value)) (z : List Value), (laid z ps).length = z.length
  | [], z => rfl
  | (k, v) :: r, z => by rw [laid, length_laid r, List.length_set]

theorem fill_flat {place : Nat → Option (Nat × Nat)} {n : Nat} (hp : ∀ k, k < n → place k = some (k, 1)) : ∀ (ps : List (Nat × Value)) (z : List Value), z.length = n → (∀ p ∈ ps, p.1 < n ∧ p.2.oneCell' = true) →
    Instr.fill place z.toArray ps = some (laid z ps).toArray
  | [], z, _, _ => by rw [Instr.fill.eq_1]; rfl
  | (k, v) :: r, z, hz, h => by
    obtain ⟨h1, h2⟩ := h (k, v) (by simp)
    simp only at h1 h2
    rw [Instr.fill.eq_2, hp k h1]
    simp only [one_cells h2]
    rw [if_neg (by simp; omega)]
    have := fill_flat hp r (z.set k v) (by simpa using hz) (fun p hp => h p (by simp [hp]))
    rw [laid, ← this]
    congr 1
    simp

theorem run_build {P : Program} {t : TypeId} {z : List Value} {w : World} {ps : List (Nat × Value)} (h : Flat P t z) (hp : ∀ p ∈ ps, p.1 < z.length ∧ p.2.oneCell' = true) :
    (Instr.build t ps.toArray).run P w = .ok (.agg (laid z ps).toArray) w := by
  obtain ⟨⟨i, hi, hz⟩, _, fs, hu, hs, hf⟩ := h
  have hm : (fs.mapM (fun f : Field => (do let n ← sizeOf f.type; pure (f.offset, n) : Sem (Nat × Nat)))).run P w = .ok (fs.map fun f : Field => (f.offset, 1)) w := by
    refine run_mapM _ _ fs fun f hfm => ?_
    obtain ⟨k, hk⟩ := Array.getElem?_of_mem hfm
    obtain ⟨_, j, hj, hj1⟩ := hf k f hk
    simp [sizeOf, typeInfo, hj, hj1]
  have hfill := fill_flat (place := fun x => (fs.map fun f : Field => (f.offset, 1))[x]?) (n := z.length) (fun k hk => by
    have hk' : k < fs.size := by omega
    have := hf k fs[k] (by simp [hk'])
    simp [hk', this.1]) ps z rfl hp
  have hc : (Value.agg z.toArray).cells = z.toArray := rfl
  simp only [Instr.build, Sem.run_bind, zero_of hi hz, Result.andThen_ok, run_underlying hu, hm, hc, hfill, Sem.run_pure, List.toList_toArray]

variable {P : Program} {a : Act} {w : World} {K : Act → World → Prop} {Q : Exit → Act → World → Prop} {d : Option Tmp} {t : TypeId} {p : String} {af : Array Edge} {g : Option (Nat × Bool)}

/-- 'T{F: x}' -/
theorem wp_build1 {s : TypeId} {z : List Value} {k : Nat} {x : Operand} {v : Value} (h : Flat P s z) (hk : k < z.length) (hx : a.eval x = v) (h1 : v.oneCell' = true)
    (kk : K (a.put d (.agg (z.set k v).toArray)) w) : OW P ⟨d, .build s #[(k, x)], t, p, af, g⟩ a w K Q := by
  refine wp_val (v := .agg (z.set k v).toArray) (w' := w) ?_ kk
  have := run_build (w := w) (ps := [(k, v)]) h (by simp; exact ⟨hk, h1⟩)
  simp only [execOp, List.map_toArray, List.map_cons, List.map_nil, hx, Sem.run_bind, this, Result.andThen_ok, Sem.run_pure, laid]
theorem wp_build2 {s : TypeId} {z : List Value} {k k' : Nat} {x y : Operand} {v v' : Value} (h : Flat P s z) (hk : k < z.length) (hk' : k' < z.length) (hx : a.eval x = v) (h1 : v.oneCell' = true) (hx' : a.eval y = v') (h1' : v'.oneCell' = true)
    (kk : K (a.put d (.agg ((z.set k v).set k' v').toArray)) w) : OW P ⟨d, .build s #[(k, x), (k', y)], t, p, af, g⟩ a w K Q := by
  refine wp_val (v := .agg ((z.set k v).set k' v').toArray) (w' := w) ?_ kk
  have := run_build (w := w) (ps := [(k, v), (k', v')]) h (by simp; exact ⟨⟨hk, h1⟩, hk', h1'⟩)
  simp only [execOp, List.map_toArray, List.map_cons, List.map_nil, hx, hx', Sem.run_bind, this, Result.andThen_ok, Sem.run_pure, laid]

/-- A struct's cells, loaded. -/
theorem wp_loadFlat {s : TypeId} {z : List Value} {x : Operand} {b o : Nat} {cs : List Value} (h : Flat P s z) (hl : cs.length = z.length) (hx : a.eval x = .pointer (some ⟨b, o, none⟩)) (hc : w.rangeAt b o cs)
    (k : K (a.put d (.agg cs.toArray)) w) : OW P ⟨d, .load s x, t, p, af, g⟩ a w K Q := by
  obtain ⟨_, hs, fs, hu, _⟩ := h
  exact ⟨wp_load_mid s x rfl b o hx cs _ hc hu rfl (by rw [hs, hl]) k⟩
theorem wp_storeFlat {s : TypeId} {z : List Value} {x y : Operand} {b o : Nat} {cs : List Value} (h : Flat P s z) (hl : cs.length = z.length) (hx : a.eval x = .pointer (some ⟨b, o, none⟩)) (hy : a.eval y = .agg cs.toArray)
    (h1 : ∀ u ∈ cs, u.oneCell' = true) (ht : w.there b o cs.length) (k : K (a.put d undef) (w.setCells b o cs)) : OW P ⟨d, .store s x y, t, p, af, g⟩ a w K Q := by
  constructor
  refine wp_store_mid s x y rfl b o cs.toArray hx hy (by simpa using ht) (by rw [h.size, ← hl]; simp) (by simpa using h1) ?_
  simpa using k

theorem str_len (v : ByteArray) : v.data.toList.length = v.size := by rw [Array.length_toList]; rfl

/-- '[]byte(s)' -/
theorem wp_toBytes {s u : TypeId} {x : Operand} {v : ByteArray} (hbig : v.data.toList.length ≤ 4294967296) (hs : strTy P s = true) (hu : byteSl P u = true) (hx : a.eval x = .string v)
    (k : ∀ y w', Fr [] w w' → OctE w' (fun b => w.heap.size ≤ b ∧ b < w'.heap.size) y v.data.toList → K (a.put d y) w') : OW P ⟨d, .convert s u x, t, p, af, g⟩ a w K Q := by
  obtain ⟨e, h1, h2⟩ := under_bytes hu
  have hr := Lib.run_convert_string_bytes (P := P) w s u e v (under_str hs) h1 h2
  refine wp_val (v := .slice (some ⟨w.heap.size, 0, none⟩) v.size (grownCap w v.size 0 e)) (w' := Lib.bytesWorld w e v) (by simp [execOp, hx, hr]) ?_
  have hold := Lib.bytesWorld_at_old w e v
  have hbs := Lib.bytesWorld_size w e v
  refine k _ _ ⟨rfl, rfl, rfl, by omega, fun j hj _ => hold j hj, fun j cs T fz hc => ⟨cs, by rw [hold j (lt_of_block hc)]; exact hc, rfl, fun _ _ => rfl⟩⟩ ?_
  refine ⟨some v.data.toList, .inr ⟨w.heap.size, 0, grownCap w v.size 0 e, v.data.toList, ⟨Nat.le_refl _, by omega⟩, by rw [str_len], ⟨?_, hbig⟩, ?_, rfl⟩, rfl⟩
  · rw [str_len]; exact grownCap_ge w v.size 0 e
  · intro j u hj
    simp [octets] at hj
    obtain ⟨c, hc, rfl⟩ := hj
    have hlt : j < v.size := by exact (Array.getElem?_eq_some_iff.1 hc).1
    rw [Nat.zero_add, Lib.bytesWorld_cell w e v j hlt]
    simp [List.getD, hc]

end Go.Kq
