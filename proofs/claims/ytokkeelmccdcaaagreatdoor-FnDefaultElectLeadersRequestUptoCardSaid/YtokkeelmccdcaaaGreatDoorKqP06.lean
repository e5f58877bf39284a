/- A part of the library: rules of reasoning about the program's operations and what its shared functions do. -/
import Derived.Test.YtokkeelmccdcaaaGreatDoorKqP05
import Derived.ChangeArms
import Derived.Test.YtokkeelmccdcaaaGreatDoorKqP02
import Derived.Test.YtokkeelmccdcaaaGreatDoorKqP03
import Derived.Test.YtokkeelmccdcaaaGreatDoorKqP04
import Derived.Test.YtokkeelmccdcaaaGreatDoorKqP01
import Derived.Laws.IdiomCopy
set_option linter.unusedVariables false
set_option linter.unusedSimpArgs false
namespace Go.Kq
open Go Go.Proofs Go.ChangeShapes Go.WideShapes Go.RowKit
theorem cell_in {w : World} {a : Addr} {v : Value} (h : w.cell? a = some v) : a.spot = none ∧ a.block < w.heap.size := by
  unfold World.cell? at h
  split at h
  · rename_i c e f hb
    refine ⟨?_, lt_of_block hb⟩
    cases hs : a.spot with
    | none => rfl
    | some x => simp [hs] at h
  simp at h
theorem cells_in {w : World} {base : Nat} {a : Addr} {n : Nat} {cs : List Value} (h : w.cells? base a n = some cs) (hn : 0 < n) : a.spot = none ∧ a.block < w.heap.size := by
  obtain ⟨_, h1, h2⟩ := World.cells?_some h;have h3 := h2 0 hn;have h4 : ∃ v, cs[0]? = some v := ⟨cs[0]'(by omega), by simp⟩;obtain ⟨v, hv⟩ := h4;rw [hv] at h3;exact cell_in (a := a.add 0) h3
structure Bulk {H : Type} (bk : DataW H → Nat) (bks : List (DataW H) → Nat) : Prop where
  lit : ∀ l, 1 ≤ bk (.lit l)
  nil : 1 ≤ bk .nil
  sl : ∀ es ss, bk (.slice es ss) = bks es + bks ss + 1
  agg : ∀ ps, bk (.agg ps) = bks ps + 1
  n : bks [] = 0
  c : ∀ d r, bks (d :: r) = bk d + bks r
theorem Bulk.lits {H : Type} {bk : DataW H → Nat} {bks : List (DataW H) → Nat} (h : Bulk bk bks) (k : IntKind) : ∀ zs : List Int, zs.length ≤ bks (lits k zs)
  | [] => by simp [ChangeShapes.lits, h.n]
  | z :: zs => by
    have h1 := Bulk.lits h k zs;have h2 := h.lit (.int k z);simp only [ChangeShapes.lits, List.map_cons, h.c, List.length_cons] at h1 ⊢;omega
section
variable {H : Type} {enc : TypeId × Value → H} {P : Program} {bk : DataW H → Nat} {bks : List (DataW H) → Nat}
theorem oct_of_trod {W : World} {t e : TypeId} {fuel : Nat} {cs : List Value} {x : DataW H × List MemPlace} (hbk : Bulk bk bks) (ht : P.underlying t = some (.slice e)) (he : P.underlying e = some (.int .u8)) (hc : P.cellsOf e = 1)
    (h : DataW.trod enc P W 0 (fun _ => true) true fuel t cs = some x) (hb : bk x.1 ≤ 4294967296) : ∃ v xs, cs = [v] ∧ OctE W (fun b => b < W.heap.size) v xs ∧ xs.length + 1 ≤ bk x.1 := by
  rcases open_ints ht he hc h with ⟨rfl, rfl⟩ | ⟨a, len, cap, zs, rfl, _, hl, hm, hz, rfl, hcell, hwz⟩
  · exact ⟨_, [], rfl, .nil, by simpa using hbk.nil⟩
  simp only [if_true] at hz
  by_cases hc0 : cap = 0
  · subst hc0;obtain rfl : len = 0 := by omega
    exact ⟨_, [], rfl, .inr ⟨⟨a, rfl⟩, rfl⟩, by simp only [hbk.sl, List.length_nil]; omega⟩
  obtain ⟨hsp, hbl⟩ : a.spot = none ∧ a.block < W.heap.size := cell_in (a := a.add 0) (hcell 0 (by omega));obtain ⟨b, o, spot⟩ := a;simp only at hsp hbl;subst hsp;have hr := octs_of_ints (b := b) (o := o) zs (fun i hi => by have := hcell i hi; rwa [Addr.add_lit] at this) hwz;have h1 := hbk.lits .u8 (zs.take len);have h2 := hbk.sl (lits .u8 (zs.take len)) (lits .u8 (zs.drop len));have hlen : (zs.take len).length = len := by simp; omega
  simp only [h2] at hb;refine ⟨_, (zs.take len).map fun z => UInt8.ofNat z.toNat, rfl, .inl ⟨some _, .inr ⟨b, o, cap, _, hbl, ?_, ⟨?_, ?_⟩, ?_, rfl⟩, rfl⟩, ?_⟩
  · rw [List.length_map, hlen]
  · rw [List.length_map, hlen]; exact hl
  · rw [List.length_map]; omega
  · have := range_part hr 0 len
    simpa [octets_take, octets_drop, List.map_take] using this
  rw [List.length_map, h2]; omega
theorem bks_get (hbk : Bulk bk bks) : ∀ {l : List (DataW H)} {i : Nat} {d : DataW H}, l[i]? = some d → bk d ≤ bks l
  | [], _, _, h => by simp at h
  | e :: l, 0, d, h => by simp at h; subst h; rw [hbk.c]; omega
  | e :: l, i + 1, d, h => by have := bks_get hbk (l := l) (i := i) (by simpa using h); rw [hbk.c]; omega
theorem elems_of_trod {W : World} {t e : TypeId} {fuel : Nat} {v : Value} {x : DataW H × List MemPlace} (hbk : Bulk bk bks) (ht : P.underlying t = some (.slice e))
    (hpos : 0 < P.cellsOf e) (h : DataW.trod enc P W 0 (fun _ => true) true fuel t [v] = some x) :
    ((v = .slice none 0 0 ∨ Void v) ∧ 1 ≤ bk x.1) ∨ ∃ b o len cap n, ∃ ds : List (DataW H × List MemPlace), fuel = n + 1 ∧ v = .slice (some ⟨b, o, none⟩) len cap ∧ b < W.heap.size ∧ len ≤ cap ∧ ds.length = len ∧ bks (ds.map (·.1)) + 1 ≤ bk x.1 ∧
      ∀ i, i < len → ∃ es d, W.rangeAt b (o + i * P.cellsOf e) es ∧ es.length = P.cellsOf e ∧ ds[i]? = some d ∧ DataW.trod enc P W 0 (fun _ => true) true n e es = some d := by
  rcases DataW.trod_slice ht h with ⟨h1, rfl⟩ | ⟨a, len, cap, elems, rest, n, rfl, hv, rfl, hb, hl, hm, hlen, hel, hsr, _⟩
  · left; simp at h1; exact ⟨.inl h1, hbk.nil⟩
  simp at hv; subst hv
  by_cases hc0 : cap = 0
  · subst hc0;obtain rfl : len = 0 := by omega
    exact .inl ⟨.inr ⟨a, rfl⟩, by simp only [hbk.sl]; omega⟩
  right
  obtain ⟨hsp, hbl⟩ : a.spot = none ∧ a.block < W.heap.size := by
    by_cases hl0 : len = 0
    · obtain ⟨h1, h2⟩ := hsr rfl;have h3 := h2 0 (by omega);have h4 : ∃ y, rest[0]? = some y := ⟨rest[0]'(by omega), by simp⟩;obtain ⟨y, hy⟩ := h4;rw [hy, Option.bind_eq_some_iff] at h3;obtain ⟨es, h5, _⟩ := h3;exact cells_in (a := a) (by simpa [hl0, Addr.add] using h5) hpos
    have h3 := hel 0 (by omega);have h4 : ∃ y, elems[0]? = some y := ⟨elems[0]'(by omega), by simp⟩;obtain ⟨y, hy⟩ := h4;rw [hy, Option.bind_eq_some_iff] at h3;obtain ⟨es, h5, _⟩ := h3;exact cells_in (a := a) (by simpa [Addr.add] using h5) hpos
  obtain ⟨b, o, spot⟩ := a;simp only at hsp hbl;subst hsp;refine ⟨b, o, len, cap, n, elems, rfl, rfl, hbl, hl, hlen, by rw [hbk.sl]; omega, fun i hi => ?_⟩;have h2 := hel i hi;have hge : elems[i]? = some elems[i] := by simp [hlen, hi]
  rw [hge, Option.bind_eq_some_iff] at h2;obtain ⟨es, h3, h4⟩ := h2;obtain ⟨_, h5, h6⟩ := World.cells?_some h3;refine ⟨es, elems[i], fun j u hj => ?_, h5, hge, h4⟩;have hjl := (List.getElem?_eq_some_iff.1 hj).1;have := h6 j (by omega);rw [Addr.add_mid, Addr.add_mid] at this;rw [this]; exact hj
theorem list_of {α : Type} : ∀ {len : Nat} {R : Nat → α → Prop}, (∀ i, i < len → ∃ y, R i y) → ∃ l : List α, l.length = len ∧ ∀ i y, l[i]? = some y → R i y
  | 0, R, _ => ⟨[], rfl, by simp⟩
  | n + 1, R, h => by
    obtain ⟨y, hy⟩ := h 0 (by omega);obtain ⟨l, h1, h2⟩ := list_of (len := n) (R := fun i y => R (i + 1) y) fun i hi => h (i + 1) (by omega);refine ⟨y :: l, by simp [h1], fun i z hz => ?_⟩
    cases i with
    | zero => simp at hz; subst hz; exact hy
    | succ i => exact h2 i z (by simpa using hz)
theorem sum_le (hbk : Bulk bk bks) {α : Type} {f : α → Nat} : ∀ {l : List α} {ds : List (DataW H × List MemPlace)}, l.length = ds.length → (∀ (i : Nat) (y : α) (d : DataW H × List MemPlace), l[i]? = some y → ds[i]? = some d → f y ≤ bk d.1) → (l.map f).sum ≤ bks (ds.map (·.1))
  | [], [], _, _ => by simp [hbk.n]
  | [], _ :: _, h, _ => by simp at h
  | _ :: _, [], h, _ => by simp at h
  | y :: l, d :: ds, h, hl => by
    have h1 := hl 0 y d rfl rfl;have h2 := sum_le hbk (l := l) (ds := ds) (by simpa using h) fun i y d hy hd => hl (i + 1) y d (by simpa using hy) (by simpa using hd);simp only [List.map_cons, List.sum_cons, hbk.c]; omega
def tagWt (u : List (Nat × List UInt8)) : Nat := (u.map fun p => p.2.length + 1).sum
theorem tags_of_trod {W : World} {t e t32 tS e8 : TypeId} {fs : Array Field} {fuel : Nat} {v : Value} {x : DataW H × List MemPlace} (hbk : Bulk bk bks) (ht : P.underlying t = some (.slice e)) (he : P.underlying e = some (.struct fs)) (hc : P.cellsOf e = 2)
    (hf0 : fs[0]?.map (fun f => (f.type, f.offset)) = some (t32, 0)) (hf1 : fs[1]?.map (fun f => (f.type, f.offset)) = some (tS, 1)) (hc0 : P.cellsOf t32 = 1) (hc1 : P.cellsOf tS = 1) (h32 : P.underlying t32 = some (.int .u32))
    (hS : P.underlying tS = some (.slice e8)) (h8 : P.underlying e8 = some (.int .u8)) (hc8 : P.cellsOf e8 = 1)
    (h : DataW.trod enc P W 0 (fun _ => true) true fuel t [v] = some x) (hb : bk x.1 ≤ 4294967296) : ∃ u, TagsR W (fun b => b < W.heap.size) v u ∧ tagWt u + 1 ≤ bk x.1 ∧ ∀ p ∈ u, p.1 < 4294967296 := by
  rcases elems_of_trod hbk ht (by omega) h with ⟨hv0, h1⟩ | ⟨b, o, len, cap, n, ds, rfl, rfl, hbl, hl, hdl, hbd, hel⟩
  · exact ⟨[], .inl ⟨hv0, rfl⟩, by simpa [tagWt] using h1, by simp⟩
  have each : ∀ i, i < len → ∃ y : Nat × List UInt8, y.1 < 4294967296 ∧ (∃ xv, W.rangeAt b (o + i * 2) [.int .u32 y.1, xv] ∧ OctE W (fun b => b < W.heap.size) xv y.2) ∧ ∀ d, ds[i]? = some d → y.2.length + 1 ≤ bk d.1 := by
    intro i hi;obtain ⟨es, d, hr, hle, hd, htr⟩ := hel i hi;rw [hc] at hr hle
    match es, hle with
    | [c0, c1], _ =>
      obtain ⟨xs, m, rfl, rfl, _, hxl, hxs⟩ := DataW.trod_struct he htr;obtain ⟨f0, hf0', e0⟩ := Option.map_eq_some_iff.1 hf0;obtain ⟨f1, hf1', e1⟩ := Option.map_eq_some_iff.1 hf1;simp only [Prod.mk.injEq] at e0 e1;have q0 := hxs 0 f0 hf0';have q1 := hxs 1 f1 hf1';rw [e0.1, e0.2, hc0] at q0;rw [e1.1, e1.2, hc1] at q1;simp only [List.drop_zero, List.take_succ_cons, List.take_zero, List.drop_succ_cons] at q0 q1;have hn0 : ∃ y0, xs[0]? = some y0 := by
        have := (Array.getElem?_eq_some_iff.1 hf0').1;exact ⟨xs[0]'(by omega), by simp⟩
      have hn1 : ∃ y1, xs[1]? = some y1 := by
        have := (Array.getElem?_eq_some_iff.1 hf1').1;exact ⟨xs[1]'(by omega), by simp⟩
      obtain ⟨y0, hy0⟩ := hn0;obtain ⟨y1, hy1⟩ := hn1;rw [hy0] at q0;rw [hy1] at q1;obtain ⟨k, hk, _, hw⟩ := DataW.trod_int h32 q0;simp at hk; subst hk
      have hdb : bk (DataW.agg (xs.map (·.1))) ≤ 4294967296 := by
        have h5 := bks_get hbk (l := ds.map (·.1)) (i := i) (d := DataW.agg (xs.map (·.1))) (by rw [List.getElem?_map, hd]; rfl);omega
      have hy1b : bk y1.1 + 1 ≤ bk (DataW.agg (xs.map (·.1))) := by
        rw [hbk.agg];have := bks_get hbk (l := xs.map (·.1)) (i := 1) (d := y1.1) (by rw [List.getElem?_map, hy1]; rfl);omega
      rw [range_cons, range_one] at hr;obtain ⟨v1, xs1, hv1, ho, hl1⟩ := oct_of_trod hbk hS h8 hc8 q1 (by omega);simp at hv1; subst hv1
      have hk0 : 0 ≤ k ∧ k < 4294967296 := by
        simp [Lit.wf, IntKind.min, IntKind.max, IntKind.signed, IntKind.bits] at hw; omega
      obtain ⟨k', rfl⟩ := Int.eq_ofNat_of_zero_le hk0.1;refine ⟨(k', xs1), by simp only; omega, ⟨c1, by rw [range_cons, range_one]; exact hr, ho⟩, ?_⟩;intro d' hd';rw [hd] at hd'
      cases hd'
      simp only; omega
  obtain ⟨u, hu1, hu2⟩ := list_of each;have hsum := sum_le hbk (f := fun p : Nat × List UInt8 => p.2.length + 1) (l := u) (ds := ds) (by omega) fun i y d hy hd => (hu2 i y hy).2.2 d hd;have hlen : u.length ≤ (u.map fun p => p.2.length + 1).sum := by
    clear hu1 hu2 hsum
    induction u with
    | nil => simp
    | cons p u ih => simp only [List.map_cons, List.sum_cons, List.length_cons]; omega
  refine ⟨u, .inr ⟨b, o, cap, hbl, by rw [hu1], ⟨by omega, by omega⟩, fun i k xx hi => ?_⟩, by simp only [tagWt]; omega, ?_⟩
  · obtain ⟨g1, ⟨xv, g2, g3⟩, _⟩ := hu2 i _ hi;exact ⟨xv, g1, g2, g3⟩
  intro p hp;obtain ⟨i, hi⟩ := List.getElem?_of_mem hp;exact (hu2 i p hi).1
end
mutual
/-- How much a tree weighs. -/
def tw : T → Nat
  | .mk _ s _ l u => 1 + s.length + tws l + tagWt u
def tws : List T → Nat
  | [] => 0
  | t :: r => tw t + tws r
end
theorem tws_sum : ∀ l : List T, tws l = (l.map tw).sum
  | [] => rfl
  | t :: r => by rw [tws, tws_sum r]; simp
inductive KeysOk : T → Prop where
  | mk {n : Int} {s : List UInt8} {nl : Bool} {l : List T} {u : List (Nat × List UInt8)} (hu : ∀ p ∈ u, p.1 < 4294967296) (hl : ∀ y ∈ l, KeysOk y) : KeysOk (.mk n s nl l u)
structure TIds (P : Program) (TT TL tN tS tB tU tG t32 t8 : TypeId) (fs gs : Array Field) : Prop where
  tt : P.underlying TT = some (.struct fs)
  c5 : P.cellsOf TT = 5
  sz : fs.size = 5
  f0 : fs[0]?.map (fun f => (f.type, f.offset)) = some (tN, 0)
  f1 : fs[1]?.map (fun f => (f.type, f.offset)) = some (tS, 1)
  f2 : fs[2]?.map (fun f => (f.type, f.offset)) = some (tB, 2)
  f3 : fs[3]?.map (fun f => (f.type, f.offset)) = some (TL, 3)
  f4 : fs[4]?.map (fun f => (f.type, f.offset)) = some (tU, 4)
  cN : P.cellsOf tN = 1
  cS : P.cellsOf tS = 1
  cB : P.cellsOf tB = 1
  cL : P.cellsOf TL = 1
  cU : P.cellsOf tU = 1
  n : P.underlying tN = some (.int .i64)
  s : P.underlying tS = some (.slice t8)
  b : P.underlying tB = some .bool
  l : P.underlying TL = some (.slice TT)
  u : P.underlying tU = some (.slice tG)
  u8 : P.underlying t8 = some (.int .u8)
  c8 : P.cellsOf t8 = 1
  g : P.underlying tG = some (.struct gs)
  cG : P.cellsOf tG = 2
  g0 : gs[0]?.map (fun f => (f.type, f.offset)) = some (t32, 0)
  g1 : gs[1]?.map (fun f => (f.type, f.offset)) = some (tS, 1)
  c32 : P.cellsOf t32 = 1
  u32 : P.underlying t32 = some (.int .u32)
section
variable {H : Type} {enc : TypeId × Value → H} {P : Program} {bk : DataW H → Nat} {bks : List (DataW H) → Nat}
theorem fld_of {fs : Array Field} {cs : List Value} {xs : List (DataW H × List MemPlace)} {W : World} {m i o : Nat} {t : TypeId} (h : fs[i]?.map (fun f => (f.type, f.offset)) = some (t, o)) (hc : P.cellsOf t = 1) (hl : xs.length = fs.size)
    (hxs : ∀ (i : Nat) (f : Field), fs[i]? = some f → DataW.trod enc P W 0 (fun _ => true) true m f.type ((cs.drop f.offset).take (P.cellsOf f.type)) = xs[i]?) : ∃ y, xs[i]? = some y ∧ DataW.trod enc P W 0 (fun _ => true) true m t ((cs.drop o).take 1) = some y := by
  obtain ⟨f, hf, e⟩ := Option.map_eq_some_iff.1 h;simp only [Prod.mk.injEq] at e;have q := hxs i f hf;rw [e.1, e.2, hc] at q;have := (Array.getElem?_eq_some_iff.1 hf).1;exact ⟨xs[i]'(by omega), by simp, by rw [q]; simp⟩
theorem tree_of_trod {TT TL tN tS tB tU tG t32 t8 : TypeId} {fs gs : Array Field} {W : World} (hbk : Bulk bk bks) (I : TIds P TT TL tN tS tB tU tG t32 t8 fs gs) :
    ∀ (fuel : Nat) (cs : List Value) (x : DataW H × List MemPlace), DataW.trod enc P W 0 (fun _ => true) true fuel TT cs = some x → bk x.1 ≤ 4294967296 → ∃ t, RepT W (fun b => b < W.heap.size) cs t ∧ tw t ≤ bk x.1 ∧ KeysOk t := by
  intro fuel
  induction fuel using Nat.strongRecOn with
  | _ fuel ih =>
    intro cs x h hb;obtain ⟨xs, m, rfl, rfl, hcl, hxl, hxs⟩ := DataW.trod_struct I.tt h;rw [I.c5] at hcl
    match cs, hcl with
    | [c0, c1, c2, c3, c4], _ =>
      obtain ⟨y0, hy0, q0⟩ := fld_of (P := P) I.f0 I.cN hxl hxs;obtain ⟨y1, hy1, q1⟩ := fld_of (P := P) I.f1 I.cS hxl hxs;obtain ⟨y2, hy2, q2⟩ := fld_of (P := P) I.f2 I.cB hxl hxs;obtain ⟨y3, hy3, q3⟩ := fld_of (P := P) I.f3 I.cL hxl hxs;obtain ⟨y4, hy4, q4⟩ := fld_of (P := P) I.f4 I.cU hxl hxs;simp only [List.drop_zero, List.take_succ_cons, List.take_zero, List.drop_succ_cons] at q0 q1 q2 q3 q4;rw [I.sz] at hxl;have hxe : xs = [y0, y1, y2, y3, y4] := by
        match xs, hxl with
        | [a0, a1, a2, a3, a4], _ => simp at hy0 hy1 hy2 hy3 hy4; simp [hy0, hy1, hy2, hy3, hy4]
      subst hxe;simp only [List.map_cons, List.map_nil, hbk.agg, hbk.c, hbk.n] at hb ⊢;obtain ⟨n, hn, _, hwn⟩ := DataW.trod_int I.n q0;simp at hn; subst hn
      obtain ⟨nl, hnl, _⟩ := DataW.trod_bool I.b q2;simp at hnl; subst hnl
      obtain ⟨v1, s, hv1, ho, hsl⟩ := oct_of_trod hbk I.s I.u8 I.c8 q1 (by omega);simp at hv1; subst hv1
      obtain ⟨u, hu, huw, huk⟩ := tags_of_trod hbk I.u I.g I.cG I.g0 I.g1 I.c32 I.cS I.u32 I.s I.u8 I.c8 q4 (by omega);have hn64 : -9223372036854775808 ≤ n ∧ n ≤ 9223372036854775807 := by
        simpa [Lit.wf, IntKind.min, IntKind.max, IntKind.signed, IntKind.bits] using hwn
      have hL : ∃ l, Things W (fun b => b < W.heap.size) c3 l ∧ tws l + 1 ≤ bk y3.1 ∧ ∀ y ∈ l, KeysOk y := by
        rcases elems_of_trod hbk I.l (by rw [I.c5]; omega) q3 with ⟨hv0, h1⟩ | ⟨b, o, len, cap, k, ds, rfl, rfl, hbl, hl, hdl, hbd, hel⟩
        · exact ⟨[], .inl ⟨hv0, rfl⟩, by simpa [tws] using h1, by simp⟩
        have each : ∀ i, i < len → ∃ t, (RepT W (fun b => b < W.heap.size) (cellsAt W b (o + i * 5) 5) t ∧ W.rangeAt b (o + i * 5) (cellsAt W b (o + i * 5) 5)) ∧ (∀ d, ds[i]? = some d → tw t ≤ bk d.1) ∧ KeysOk t := by
          intro i hi;obtain ⟨es, d, hr, hle, hd, htr⟩ := hel i hi;rw [I.c5] at hr hle;have hd5 := bks_get hbk (l := ds.map (·.1)) (i := i) (d := d.1) (by rw [List.getElem?_map, hd]; rfl);obtain ⟨t, h1, h2, h3⟩ := ih k (by omega) es d htr (by omega);have hce := range_cellsAt hr;rw [hle] at hce;rw [← hce];exact ⟨t, ⟨h1, hr⟩, fun d' hd' => by rw [hd] at hd'; cases hd'; exact h2, h3⟩
        obtain ⟨l, hl1, hl2⟩ := list_of each;have hsum := sum_le hbk (f := tw) (l := l) (ds := ds) (by omega) fun i y d hy hd => (hl2 i y hy).2.1 d hd;have hlen : l.length ≤ (l.map tw).sum := by
          clear hl1 hl2 hsum
          induction l with
          | nil => simp
          | cons p l ih =>
            have : 1 ≤ tw p := by cases p; rw [tw]; omega
            simp only [List.map_cons, List.sum_cons, List.length_cons]; omega
        rw [← tws_sum] at hsum hlen;refine ⟨l, .inr ⟨b, o, cap, hbl, by rw [hl1], ⟨by omega, by omega⟩, fun i => cellsAt W b (o + i * 5) 5, fun i y hi => (hl2 i y hi).1.2, fun i y hi => (hl2 i y hi).1.1⟩, by omega, fun y hy => ?_⟩;obtain ⟨i, hi⟩ := List.getElem?_of_mem hy;exact (hl2 i y hi).2.2
      obtain ⟨l, hl, hlw, hlk⟩ := hL;refine ⟨.mk n s nl l u, repT_iff.2 ⟨_, _, _, rfl, hn64, ho, hl, hu⟩, ?_, .mk huk hlk⟩;rw [tw]; omega
end
end Go.Kq

namespace Go.Kq
open Go
def Inv (f : Rd) (ver : Int) (fl : Bool) (ap : V → List UInt8) (out : List UInt8) : Prop :=
  ∀ rest nl, (nl = true → out ++ rest = []) → ∃ x, f ver fl ⟨out ++ rest, nl, false⟩ = some (x, ⟨rest, nl, false⟩) ∧ ap x = out
def InvL (f : Rd) (ver : Int) (fl : Bool) (gs : List (V → List UInt8)) (out : List UInt8) : Prop :=
  ∀ rest nl, (nl = true → out ++ rest = []) → ∃ xs, f ver fl ⟨out ++ rest, nl, false⟩ = some (.l xs, ⟨rest, nl, false⟩) ∧ apAll gs xs = out
theorem invl_nil {ver : Int} {fl : Bool} : InvL rdSt0 ver fl [] [] := fun rest nl _ => ⟨[], rfl, rfl⟩
theorem invl_cons {f g : Rd} {ver : Int} {fl : Bool} {a : V → List UInt8} {gs : List (V → List UInt8)} {o1 o2 : List UInt8} (h1 : Inv f ver fl a o1) (h2 : InvL g ver fl gs o2) : InvL (rdCons f g) ver fl (a :: gs) (o1 ++ o2) := by
  intro rest nl hn;obtain ⟨x, hx, hax⟩ := h1 (o2 ++ rest) nl (by rw [← List.append_assoc]; exact hn);obtain ⟨xs, hxs, haxs⟩ := h2 rest nl (fun h => by have := hn h; simp only [List.append_eq_nil_iff] at this ⊢; exact ⟨this.1.2, this.2⟩);refine ⟨x :: xs, ?_, by simp only [apAll, hax, haxs]⟩;rw [List.append_assoc];simp only [rdCons, hx, hxs, consV]
theorem inv_st {f : Rd} {ver : Int} {fl : Bool} {gs : List (V → List UInt8)} {o : List UInt8} (h : InvL f ver fl gs o) : Inv f ver fl (apSt gs) o := by
  intro rest nl hn;obtain ⟨xs, h1, h2⟩ := h rest nl hn;exact ⟨.l xs, h1, h2⟩
theorem inv_if {p : Int → Bool} {dv : V} {f : Rd} {ver : Int} {fl : Bool} {a : V → List UInt8} {o : List UInt8} (h : p ver = true → Inv f ver fl a o) : Inv (rdIf p dv f) ver fl (fun x => if p ver then a x else []) (if p ver then o else []) := by
  intro rest nl hn
  by_cases hp : p ver = true
  · simp only [hp, if_true] at hn ⊢;obtain ⟨x, h1, h2⟩ := h hp rest nl hn;exact ⟨x, by simp only [rdIf, hp, if_true]; exact h1, h2⟩
  have hp : p ver = false := by simpa using hp
  exact ⟨dv, by simp [rdIf, hp], by simp [hp]⟩
theorem inv_two {g1 g2 : RSt → V × RSt} {ver : Int} {fl : Bool} {a1 a2 : V → List UInt8} {o1 o2 : List UInt8} (h1 : fl = true → Inv (rdOne fun _ _ => g1) ver fl a1 o1) (h2 : fl = false → Inv (rdOne fun _ _ => g2) ver fl a2 o2) :
    Inv (rdOne fun _ fl st => if fl then g1 st else g2 st) ver fl (fun x => if fl then a1 x else a2 x) (if fl then o1 else o2) := by
  intro rest nl hn
  cases fl with
  | true => exact h1 rfl rest nl hn
  | false => exact h2 rfl rest nl hn
theorem u8_mod (n : Nat) : (UInt8.ofNat n).toNat = n % 256 := by simp
theorem beNat_f2 (i : Int) : ((Lib.beNat (fixedW i 2) : Nat) : Int) = i % 65536 := by
  simp only [fixedW, be2, u8_mod, Nat.reduceMul, Nat.reducePow]; omega
theorem beNat_f4 (i : Int) : ((Lib.beNat (fixedW i 4) : Nat) : Int) = i % 4294967296 := by
  simp only [fixedW, be4, u8_mod, Nat.reduceMul, Nat.reducePow]; omega
theorem rdTake_app {k : Nat} {o rest : List UInt8} {nl : Bool} (h : o.length = k) : rdTake k ⟨o ++ rest, nl, false⟩ = (some o, ⟨rest, nl, false⟩) := by
  subst h;simp [rdTake]
theorem rdNum_app {kd : IntKind} {k : Nat} {i : Int} {rest : List UInt8} {nl : Bool} : rdNum kd k ⟨fixedW i k ++ rest, nl, false⟩ = (kd.wrap (Lib.beNat (fixedW i k)), ⟨rest, nl, false⟩) := by
  simp only [rdNum, rdTake_app (fixedW_length i k)]
theorem inv_num {kd : IntKind} {k : Nat} {i : Int} {ver : Int} {fl : Bool} (h : fixedW (kd.wrap (Lib.beNat (fixedW i k))) k = fixedW i k) : Inv (rdOne fun _ _ => gNum kd k) ver fl (apInt k) (fixedW i k) := by
  intro rest nl _;refine ⟨.n (kd.wrap (Lib.beNat (fixedW i k))), ?_, h⟩;simp only [rdOne, gNum, rdNum_app]
theorem inv_i32 {i ver : Int} {fl : Bool} : Inv (rdOne fun _ _ => gNum .i32 4) ver fl (apInt 4) (fixedW i 4) := inv_num (by rw [fixedW_w32, beNat_f4, fixedW_mod4])
theorem rdSpan_app {o rest : List UInt8} {l : Int} {nl : Bool} (h : l = o.length) (hn : nl = true → o ++ rest = []) : ∃ y, rdSpan l ⟨o ++ rest, nl, false⟩ = (y, ⟨rest, nl, false⟩) ∧ y.getD [] = o ∧ (nl = false → y = some o) := by
  subst h
  cases nl with
  | true =>
    have := hn rfl;simp only [List.append_eq_nil_iff] at this;obtain ⟨rfl, rfl⟩ := this;exact ⟨none, by simp [rdSpan], rfl, by simp⟩
  | false =>
    refine ⟨some o, ?_, rfl, fun _ => rfl⟩;have h1 : ¬ (((o ++ rest).length : Int) < (o.length : Int) ∨ (o.length : Int) < 0) := by rw [List.length_append]; omega
    simp only [rdSpan, if_neg h1];simp
theorem nl_false {nl : Bool} {o r : List UInt8} (h : nl = true → o ++ r = []) (ho : o ≠ []) : nl = false := by
  cases nl with
  | false => rfl
  | true => exact absurd (List.append_eq_nil_iff.1 (h rfl)).1 ho
theorem fixedW_ne {i : Int} {k : Nat} (hk : 0 < k) : fixedW i k ≠ [] := by
  intro h; have := fixedW_length i k; rw [h] at this; simp at this; omega
theorem rd16 {n : Nat} (h : n ≤ 32767) {rest : List UInt8} {nl : Bool} : rdNum .i16 2 ⟨fixedW (n : Int) 2 ++ rest, nl, false⟩ = ((n : Int), ⟨rest, nl, false⟩) := by
  rw [rdNum_app, beNat_f2]
  congr 1
  simp [IntKind.wrap, IntKind.signed, IntKind.bits]; omega
theorem rd32 {n : Nat} (h : n ≤ 2147483647) {rest : List UInt8} {nl : Bool} : rdNum .i32 4 ⟨fixedW (n : Int) 4 ++ rest, nl, false⟩ = ((n : Int), ⟨rest, nl, false⟩) := by
  rw [rdNum_app, beNat_f4]
  congr 1
  simp [IntKind.wrap, IntKind.signed, IntKind.bits]; omega
theorem inv_str {s : List UInt8} (h : s.length ≤ 32767) {ver : Int} {fl : Bool} : Inv (rdOne fun _ _ => gStr) ver fl apStr (fixedW s.length 2 ++ s) := by
  intro rest nl hn;have hnl := nl_false hn (by simp [fixedW_ne]);subst hnl;obtain ⟨y, h1, h2, _⟩ := rdSpan_app (o := s) (rest := rest) (l := s.length) (nl := false) rfl (by simp);refine ⟨.s s, ?_, rfl⟩;simp only [rdOne, gStr, rdString, List.append_assoc, rd16 h, h1, h2]
theorem uvGo_uvW : ∀ (k n : Nat) (rest : List UInt8), n * 8 < 128 ^ (k + 1) → uvGo (k + 1) (uvW n ++ rest) = some (n, (uvW n).length)
  | 0, n, rest, h => by
    have hn : n < 16 := by simp at h; omega
    rw [uvW, if_neg (by omega)];have h1 : (UInt8.ofNat n).toNat = n := by rw [u8_mod]; omega
    simp [uvGo, h1]
    omega
  | k + 1, n, rest, h => by
    rw [uvW]
    split
    · rename_i hn
      have h1 : (UInt8.ofNat (n % 128 + 128)).toNat = n % 128 + 128 := by rw [u8_mod]; omega
      have hp : 128 ^ (k + 1 + 1) = 128 * 128 ^ (k + 1) := by rw [Nat.pow_succ]; omega
      rw [hp] at h;have ih := uvGo_uvW k (n / 128) rest (by omega);rw [List.cons_append];simp only [uvGo, h1, ih];simp
      rw [if_neg (by omega)]; congr 2; omega
    have h1 : (UInt8.ofNat n).toNat = n := by rw [u8_mod]; omega
    simp [uvGo, h1]
    omega
theorem rdUv_app {n : Nat} (h : n < 4294967296) {rest : List UInt8} {nl : Bool} : rdUv ⟨uvW n ++ rest, nl, false⟩ = (n, ⟨rest, nl, false⟩) := by
  have h1 : uv (uvW n ++ rest) = some (n, (uvW n).length) := uvGo_uvW 4 n rest (by simp; omega);simp [rdUv, h1]
theorem uvW_ne (n : Nat) : uvW n ≠ [] := by
  intro h; have := uvW_pos n; rw [h] at this; simp at this
theorem inv_cstr {s : List UInt8} (h : s.length ≤ 32767) {ver : Int} {fl : Bool} : Inv (rdOne fun _ _ => gCStr) ver fl apCStr (uvW (s.length + 1) ++ s) := by
  intro rest nl hn;have hnl := nl_false hn (by simp [uvW_ne]);subst hnl;obtain ⟨y, h1, h2, _⟩ := rdSpan_app (o := s) (rest := rest) (l := s.length) (nl := false) rfl (by simp);refine ⟨.s s, ?_, rfl⟩;have e : ((s.length + 1 : Nat) : Int) - 1 = s.length := by omega
  simp only [rdOne, gCStr, rdCString, List.append_assoc, rdUv_app (show s.length + 1 < 4294967296 by omega), e, h1, h2]
theorem uvW_zero : uvW 0 = [0] := by rw [uvW]; rfl
theorem rdMany_app {f : Rd} {ver : Int} {fl : Bool} {a : V → List UInt8} : ∀ (os : List (List UInt8)) (rest : List UInt8), (∀ o ∈ os, Inv f ver fl a o) →
    ∃ xs, rdMany f ver fl os.length ⟨os.flatten ++ rest, false, false⟩ = some (xs, ⟨rest, false, false⟩) ∧ xs.length = os.length ∧ (xs.map a).flatten = os.flatten
  | [], rest, _ => ⟨[], rfl, rfl, rfl⟩
  | o :: os, rest, h => by
    obtain ⟨x, h1, h2⟩ := h o (by simp) (os.flatten ++ rest) false (by simp);obtain ⟨xs, h3, h4, h5⟩ := rdMany_app os rest fun o ho => h o (by simp [ho]);refine ⟨x :: xs, ?_, by simp [h4], by simp [h2, h5]⟩;simp only [List.flatten_cons, List.append_assoc, List.length_cons, rdMany, h1, h3]
theorem flatten_len {os : List (List UInt8)} (h : ∀ o ∈ os, 1 ≤ o.length) : os.length ≤ os.flatten.length := by
  induction os with
  | nil => simp
  | cons o os ih =>
    have h1 := h o (by simp);have h2 := ih fun o ho => h o (by simp [ho]);simp only [List.flatten_cons, List.length_append, List.length_cons]; omega
def LenI (len : RSt → V × RSt) (lo : List UInt8) (n : Nat) : Prop := lo ≠ [] ∧ ∀ rest : List UInt8, n ≤ rest.length → len ⟨lo ++ rest, false, false⟩ = (.n n, ⟨rest, false, false⟩)
theorem len_fixed {n : Nat} (h : n ≤ 32767) : LenI gALen (fixedW n 4) n := by
  refine ⟨fixedW_ne (by omega), fun rest hr => ?_⟩;have h0 : ¬ ((rest.length : Int) < (n : Int)) := by omega
  simp only [gALen, rdArrayLen, rd32 (show n ≤ 2147483647 by omega), h0, if_false]
theorem len_uv {n : Nat} (h : n ≤ 32767) : LenI gCALen (uvW (n + 1)) n := by
  refine ⟨uvW_ne _, fun rest hr => ?_⟩;have h0 : ¬ ((rest.length : Int) < (n : Int)) := by omega
  have e : IntKind.i32.wrap (IntKind.i32.wrap ((n + 1 : Nat) : Int) - 1) = (n : Int) := by
    simp [IntKind.wrap, IntKind.signed, IntKind.bits]; omega
  simp only [gCALen, rdCArrayLen, rdUv_app (show n + 1 < 4294967296 by omega), e, h0, if_false]
theorem inv_arr {len : Int → Bool → RSt → V × RSt} {f : Rd} {ver : Int} {fl : Bool} {a : V → List UInt8} {la : Nat → List UInt8} {lo : List UInt8} {os : List (List UInt8)} (hl : LenI (len ver fl) lo os.length) (hla : la os.length = lo) (ho : ∀ o ∈ os, Inv f ver fl a o) (h1 : ∀ o ∈ os, 1 ≤ o.length) :
    Inv (rdArr len f) ver fl (fun x => la x.items.length ++ (x.items.map a).flatten) (lo ++ os.flatten) := by
  intro rest nl hn;have hnl := nl_false hn (by simp [hl.1]);subst hnl;have h2 := hl.2 (os.flatten ++ rest) (by rw [List.length_append]; have := flatten_len h1; omega);obtain ⟨xs, h3, h4, h5⟩ := rdMany_app os rest ho;simp only [rdArr, List.append_assoc, h2]
  by_cases h0 : os.length = 0
  · have : os = [] := List.eq_nil_of_length_eq_zero h0;subst this;exact ⟨.nil, by simp, by simp [V.items, ← hla]⟩
  refine ⟨.l xs, ?_, by simp [V.items, h4, h5, hla]⟩;have h6 : (0 : Int) < os.length := by omega
  have h7 : os ≠ [] := by rintro rfl; exact h0 rfl
  simp [h7, h3]
end Go.Kq

namespace Go.Kq
open Go
structure TagsOk (l : List (Nat × List UInt8)) : Prop where
  rise : l.Pairwise fun a b => a.1 < b.1
  key : ∀ p ∈ l, p.1 < 4294967296
  few : ∀ p ∈ l, p.2.length ≤ 32767
  len : l.length < 4294967296
def vTag (p : Nat × List UInt8) : Nat × V := (p.1, .s p.2)
theorem rdTagsGo_app : ∀ (l : List (Nat × List UInt8)) (x : V) (rest : List UInt8), (∀ p ∈ l, p.1 < 4294967296 ∧ p.2.length ≤ 32767) → l.Pairwise (fun a b => a.1 < b.1) → (∀ q ∈ tagKv x, ∀ p ∈ l, q.1 < p.1) →
    ∃ y, rdTagsGo l.length x ⟨tagsW l ++ rest, false, false⟩ = (y, ⟨rest, false, false⟩) ∧ tagKv y = tagKv x ++ l.map vTag
  | [], x, rest, _, _, _ => ⟨x, rfl, by simp⟩
  | p :: l, x, rest, h, hp, hx => by
    obtain ⟨h1, h2⟩ := h p (by simp);have e1 : tagsW (p :: l) ++ rest = uvW p.1 ++ (uvW p.2.length ++ (p.2 ++ (tagsW l ++ rest))) := by simp [tagsW, tagW]
    obtain ⟨y, h3, _, h4⟩ := rdSpan_app (o := p.2) (rest := tagsW l ++ rest) (l := p.2.length) (nl := false) rfl (by simp);have h5 := h4 rfl;subst h5;have hset : tagKv (tagSet x p.1 (.s p.2)) = tagKv x ++ [vTag p] := by
      rw [tagSet, tagKv, kvSet_push fun q hq => Nat.ne_of_lt (hx q hq p (by simp))]; rfl
    obtain ⟨y, h6, h7⟩ := rdTagsGo_app l (tagSet x p.1 (.s p.2)) rest (fun q hq => h q (by simp [hq])) (List.pairwise_cons.1 hp).2 (by
      intro q hq r hr;rw [hset] at hq
      rcases List.mem_append.1 hq with hq | hq
      · exact hx q hq r (by simp [hr])
      · simp [vTag] at hq; subst hq; exact (List.pairwise_cons.1 hp).1 r hr)
    refine ⟨y, ?_, by rw [h7, hset]; simp⟩;rw [e1, List.length_cons];simp only [rdTagsGo, rdUv_app h1, rdUv_app (show p.2.length < 4294967296 by omega), h3, V.oct];exact h6
theorem insKv_le {p : Nat × V} : ∀ {l : List (Nat × V)}, (∀ q ∈ l, p.1 ≤ q.1) → insKv p l = p :: l
  | [], _ => rfl
  | q :: r, h => by rw [insKv, if_pos (h q (by simp))]
theorem sortKv_id : ∀ {l : List (Nat × V)}, l.Pairwise (fun a b => a.1 < b.1) → sortKv l = l
  | [], _ => rfl
  | p :: l, h => by
    have h1 := List.pairwise_cons.1 h;show insKv p (sortKv l) = p :: l
    rw [sortKv_id h1.2, insKv_le fun q hq => Nat.le_of_lt (h1.1 q hq)]
theorem tagsT_of {y : V} {l : List (Nat × List UInt8)} (h : tagKv y = l.map vTag) (hp : l.Pairwise fun a b => a.1 < b.1) : tagsT y = l := by
  unfold tagsT;rw [h, sortKv_id (List.pairwise_map.2 hp), List.map_map];have : (fun p : Nat × V => (p.1, p.2.octs)) ∘ vTag = id := by funext p; rfl
  rw [this, List.map_id]
theorem inv_tags {l : List (Nat × List UInt8)} (h : TagsOk l) {ver : Int} : Inv rdTagsF ver true apTags (uvW l.length ++ tagsW l) := by
  intro rest nl hn;have hnl := nl_false hn (by simp [uvW_ne]);subst hnl;obtain ⟨y, h1, h2⟩ := rdTagsGo_app l .nil rest (fun p hp => ⟨h.key p hp, h.few p hp⟩) h.rise (by simp [tagKv]);have h3 : tagsT y = l := tagsT_of (by rw [h2]; simp [tagKv]) h.rise;refine ⟨y, ?_, by rw [apTags, h3]⟩;simp only [rdTagsF, if_true, rdTags, List.append_assoc, rdUv_app h.len, h1]
theorem inv_tagsF {l : List (Nat × List UInt8)} {fl : Bool} (h : fl = true → TagsOk l) {ver : Int} : Inv rdTagsF ver fl (fun x => if fl then apTags x else []) (if fl then uvW l.length ++ tagsW l else []) := by
  cases fl with
  | true => exact inv_tags (h rfl)
  | false => intro rest nl _; exact ⟨.nil, by simp [rdTagsF], rfl⟩
theorem insAt_spec {out : List (Nat × List UInt8)} {k : Nat} (h : out.Pairwise fun a b => a.1 < b.1) : (∀ p ∈ out.take (insAt out k), p.1 < k) ∧ (∀ p ∈ out.drop (insAt out k), k ≤ p.1) := by
  induction out with
  | nil => simp [insAt]
  | cons q out ih =>
    have h1 := List.pairwise_cons.1 h
    by_cases hq : q.1 < k
    · have e : insAt (q :: out) k = insAt out k + 1 := by simp [insAt, List.takeWhile_cons, hq]
      rw [e];obtain ⟨i1, i2⟩ := ih h1.2;exact ⟨by intro p hp; rcases List.mem_cons.1 (by simpa using hp) with rfl | hp; exact hq; exact i1 p hp, by simpa using i2⟩
    have e : insAt (q :: out) k = 0 := by simp [insAt, List.takeWhile_cons, hq]
    rw [e];refine ⟨by simp, ?_⟩;intro p hp
    rcases List.mem_cons.1 (by simpa using hp) with rfl | hp
    · omega
    have := h1.1 p hp; omega
theorem insTag_rise {least : Nat} {out : List (Nat × List UInt8)} {t : Nat × List UInt8} (h : out.Pairwise fun a b => a.1 < b.1) : (insTag least out t).Pairwise fun a b => a.1 < b.1 := by
  unfold insTag
  split
  · exact h
  split
  · exact h
  rename_i hne
  obtain ⟨i1, i2⟩ := insAt_spec (k := t.1) h;have hd : ∀ p ∈ out.drop (insAt out t.1), t.1 < p.1 := by
    intro p hp;have h2 := i2 p hp
    rcases Nat.lt_or_ge t.1 p.1 with h3 | h3
    · exact h3
    exfalso
    have hpe : p.1 = t.1 := by omega
    cases hdr : out.drop (insAt out t.1) with
    | nil => rw [hdr] at hp; simp at hp
    | cons q r =>
      have hq : out[insAt out t.1]? = some q := by
        have := congrArg (fun l => l[0]?) hdr
        simpa using this
      have hpw := List.Pairwise.sublist (List.drop_sublist (insAt out t.1) out) h;rw [hdr] at hpw hp;have hq2 := i2 q (by rw [hdr]; simp)
      rcases List.mem_cons.1 hp with rfl | hp
      · exact hne (by rw [hq]; simp [hpe])
      have := (List.pairwise_cons.1 hpw).1 p hp; omega
  rw [List.pairwise_append];refine ⟨h.sublist (List.take_sublist _ _), List.pairwise_cons.2 ⟨hd, h.sublist (List.drop_sublist _ _)⟩, ?_⟩;intro a ha b hb;have h1 := i1 a ha
  rcases List.mem_cons.1 hb with rfl | hb
  · exact h1
  have := hd b hb; omega
theorem insTag_mem {least : Nat} {out : List (Nat × List UInt8)} {t p : Nat × List UInt8} (h : p ∈ insTag least out t) : p ∈ out ∨ p = t := by
  unfold insTag at h
  split at h
  · exact .inl h
  split at h
  · exact .inl h
  rcases List.mem_append.1 h with h | h
  · exact .inl (List.mem_of_mem_take h)
  rcases List.mem_cons.1 h with rfl | h
  · exact .inr rfl
  exact .inl (List.mem_of_mem_drop h)
theorem foldl_ins {least : Nat} : ∀ (u out : List (Nat × List UInt8)), out.Pairwise (fun a b => a.1 < b.1) → (u.foldl (insTag least) out).Pairwise (fun a b => a.1 < b.1) ∧ (∀ p ∈ u.foldl (insTag least) out, p ∈ out ∨ p ∈ u) ∧ (u.foldl (insTag least) out).length ≤ out.length + u.length
  | [], out, h => ⟨h, fun p hp => .inl hp, by simp⟩
  | t :: u, out, h => by
    obtain ⟨h1, h2, h3⟩ := foldl_ins u (insTag least out t) (insTag_rise h);refine ⟨h1, fun p hp => ?_, ?_⟩
    · rcases h2 p hp with h | h
      · rcases insTag_mem h with h | h
        · exact .inl h
        exact .inr (by simp [h])
      exact .inr (by simp [h])
    have := insTag_len least out t;simp only [List.foldl_cons, List.length_cons]; omega
theorem unks_ok {fs : List Fd} {t : T} (hk : ∀ p ∈ t.u, p.1 < 4294967296) : TagsOk (unksW fs t) := by
  obtain ⟨h1, h2, h3⟩ := foldl_ins (least := knownW fs) (t.u.take 32767) [] (by simp);refine ⟨?_, ?_, ?_, ?_⟩
  · exact List.pairwise_map.2 h1
  · intro p hp;obtain ⟨q, hq, rfl⟩ := List.mem_map.1 hp
    rcases h2 q hq with h | h
    · simp at h
    exact hk q (List.mem_of_mem_take h)
  · intro p hp;obtain ⟨q, hq, rfl⟩ := List.mem_map.1 hp;simp [wholeS]; omega
  unfold unksW unknownW;rw [List.length_map];simp at h3
  omega
end Go.Kq

namespace Go.Kq
open Go
def bodyL : List Fd → Int → Bool → List T → Nat → List UInt8
  | [], _, _, _, _ => []
  | f :: fs, ver, flex, ts, i => (if f.has ver then fieldW f ver flex (atT ts i) else []) ++ bodyL fs ver flex ts (i + 1)
theorem bodyW_eq : ∀ (fs : List Fd) (ver : Int) (flex : Bool) (ts : List T) (j : Nat), (∀ f ∈ fs, f.tag < 0) → bodyW fs ver (fieldsW fs ver flex ts j) fs.length = bodyL fs ver flex ts j
  | [], _, _, _, _, _ => rfl
  | f :: fs, ver, flex, ts, j, h => by
    have ih := bodyW_eq fs ver flex ts (j + 1) fun g hg => h g (by simp [hg]);have hf := h f (by simp);rw [bodyL, ← ih, bodyW, List.length_cons, List.range_succ_eq_map, List.flatMap_cons, List.flatMap_map, fieldsW];simp [bodyW, hf]
theorem partW_flat {fs : List Fd} {ver : Int} {flex : Bool} {t : T} (h : ∀ f ∈ fs, f.tag < 0) : partW fs ver flex t = bodyL fs ver flex t.l 0 ++ (if flex then uvW (unksW fs t).length ++ tagsW (unksW fs t) else []) := by
  have hk : knownsW fs t (fieldsW fs ver flex t.l 0) = [] := by simp [knownsW, knownW_free h]
  have hp : ∀ l : List (Nat × List UInt8), l.flatMap pairW = tagsW l := fun l => by
    simp only [tagsW, List.flatMap]; congr 1
  rw [partW, joinW, hk, bodyW_eq _ _ _ _ _ h]
  cases flex <;> simp [hp]
section
variable {ver : Int} {flex : Bool} {t : T} {nul of : Int} {sub : T → List UInt8}
theorem fieldV_i8 : fieldV 1 nul of sub ver flex t = fixedW t.n 1 := by simp [fieldV, valueW, widthW]
theorem fieldV_i32 : fieldV 3 nul of sub ver flex t = fixedW t.n 4 := by simp [fieldV, valueW, widthW]
theorem nullW_no (h : nul < 0) : nullW nul ver t = false := by
  have : ¬ nul ≥ 0 := by omega
  simp [nullW, this]
theorem fieldV_str (h : nullW nul ver t = false) : fieldV 8 nul of sub ver flex t = if flex then uvW ((wholeS t.s).length + 1) ++ wholeS t.s else fixedW (wholeS t.s).length 2 ++ wholeS t.s := by
  cases flex <;> simp [fieldV, valueW, countedW, h]
theorem wholeS_len (s : List UInt8) : (wholeS s).length ≤ 32767 := by simp [wholeS]; omega
end
end Go.Kq

namespace Go.Kq
open Go
theorem uvW_le5 {n : Nat} (h : n < 4294967296) : (uvW n).length ≤ 5 := uvW_le 5 n (by omega) (by simp only [Nat.reducePow]; omega)
mutual
/-- So many octets a piece. -/
def kF : Fd → Nat
  | .mk _ _ _ _ _ _ _ sub => kFs sub + 40
def kFs : List Fd → Nat
  | [] => 0
  | f :: fs => kF f + kFs fs
end
mutual
/-- No field is a tag. -/
def freeF : Fd → Bool
  | .mk _ _ _ _ tag _ _ sub => decide (tag < 0) && freeFs sub
def freeFs : List Fd → Bool
  | [] => true
  | f :: fs => freeF f && freeFs fs
end
theorem freeFs_tag : ∀ {fs : List Fd}, freeFs fs = true → ∀ f ∈ fs, f.tag < 0
  | [], _, _, h => by simp at h
  | g :: fs, h, f, hf => by
    rw [freeFs, Bool.and_eq_true] at h
    rcases List.mem_cons.1 hf with rfl | hf
    · cases f; simp [freeF] at h; exact h.1.1
    exact freeFs_tag h.2 f hf
theorem tw_pos (t : T) : 1 ≤ tw t := by cases t; rw [tw]; omega
theorem tw_eq (t : T) : tw t = 1 + t.s.length + tws t.l + tagWt t.u := by cases t; rw [tw]; rfl
theorem KeysOk.u {t : T} (h : KeysOk t) : ∀ p ∈ t.u, p.1 < 4294967296 := by cases h; assumption
theorem KeysOk.l {t : T} (h : KeysOk t) : ∀ y ∈ t.l, KeysOk y := by cases h; assumption
theorem KeysOk.zero : KeysOk .zero := .mk (by simp) (by simp)
theorem KeysOk.at {l : List T} (h : ∀ y ∈ l, KeysOk y) (i : Nat) : KeysOk (atT l i) := by
  unfold atT
  cases hi : l[i]? with
  | none => exact .zero
  | some y => exact h y (List.mem_of_getElem? hi)
theorem counted_le {flex null : Bool} {n size : Nat} (h : n ≤ 32767) (hs : size ≤ 4) : (countedW flex null n size).length ≤ 5 := by
  unfold countedW;have := uvW_le5 (n := n + 1) (by omega)
  split
  · simp
  split
  · omega
  split <;> simp only [fixedW_length] <;> omega
theorem value_le {kind : Int} {sub : T → List UInt8} {null flex : Bool} {t : T} {S : Nat} (hS : (sub t).length ≤ S * tw t) : (valueW kind sub null flex t).length ≤ (S + 19) * tw t := by
  have h1 := tw_pos t;have h2 := tw_eq t;rw [Nat.add_mul];have h3 : (if null then [] else wholeS t.s).length ≤ t.s.length := by cases null <;> simp [wholeS]; omega
  have h4 : (if null then [] else wholeS t.s).length ≤ 32767 := by cases null <;> simp [wholeS]; omega
  unfold valueW
  split
  · simp; omega
  split
  · simp only [uuidW, List.length_append, List.length_take, List.length_replicate]; omega
  split
  · rw [List.length_append]; have := counted_le (flex := flex) (null := null) (size := 2) h4 (by omega); omega
  split
  · rw [List.length_append]; have := counted_le (flex := flex) (null := null) (size := 4) h4 (by omega); omega
  split
  · omega
  have : widthW kind ≤ 8 := by unfold widthW; repeat' split <;> try omega
  rw [fixedW_length]; omega
theorem tws_take (l : List T) (n : Nat) : ((l.take n).map tw).sum ≤ tws l := by
  rw [tws_sum]
  induction l generalizing n with
  | nil => simp
  | cons y l ih =>
    cases n with
    | zero => simp
    | succ n => have := ih n; simp only [List.take_succ_cons, List.map_cons, List.sum_cons]; omega
theorem flat_le {f : T → List UInt8} {S : Nat} : ∀ {l : List T}, (∀ y ∈ l, (f y).length ≤ S * tw y) → (l.flatMap f).length ≤ S * (l.map tw).sum
  | [], _ => by simp
  | y :: l, h => by
    have h1 := h y (by simp);have h2 := flat_le (f := f) (S := S) (l := l) fun z hz => h z (by simp [hz]);simp only [List.flatMap_cons, List.length_append, List.map_cons, List.sum_cons, Nat.mul_add]; omega
theorem fieldV_le {kind nul of : Int} {sub : T → List UInt8} {ver : Int} {flex : Bool} {t : T} {S : Nat} (hk : KeysOk t) (hS : ∀ y, KeysOk y → (sub y).length ≤ S * tw y) : (fieldV kind nul of sub ver flex t).length ≤ (S + 20) * tw t := by
  have h1 := tw_pos t;have h2 := tw_eq t;unfold fieldV
  split
  · rw [List.length_append];have h3 : (thingsW (nullW nul ver t) t).length ≤ 32767 := by unfold thingsW; split <;> simp; omega
    have h4 := counted_le (flex := flex) (null := nullW nul ver t) (size := 4) h3 (by omega);have h5 : ((thingsW (nullW nul ver t) t).flatMap (valueW of sub false flex)).length ≤ (S + 19) * ((thingsW (nullW nul ver t) t).map tw).sum := by
      refine flat_le fun y hy => value_le (hS y ?_);unfold thingsW at hy
      split at hy
      · simp at hy
      exact hk.l y (List.mem_of_mem_take hy)
    have h6 : ((thingsW (nullW nul ver t) t).map tw).sum ≤ tws t.l := by
      unfold thingsW
      split
      · simp
      exact tws_take _ _
    have h7 := Nat.mul_le_mul_left (S + 19) (show ((thingsW (nullW nul ver t) t).map tw).sum ≤ tw t - 1 by omega);have h8 : (S + 20) * tw t = (S + 20) * (tw t - 1) + (S + 20) := by
      conv => lhs; rw [show tw t = (tw t - 1) + 1 from by omega, Nat.mul_succ]
    have h9 : (S + 20) * (tw t - 1) = (S + 19) * (tw t - 1) + (tw t - 1) := by rw [Nat.succ_mul (S + 19)]
    omega
  split
  · have := hS t hk;rw [Nat.add_mul]
    split
    · simp; omega
    simp only [List.length_cons]; omega
  have := value_le (kind := kind) (null := nullW nul ver t) (flex := flex) (hS t hk);rw [Nat.add_mul] at this ⊢;omega
theorem tagWt_app (a b : List (Nat × List UInt8)) : tagWt (a ++ b) = tagWt a + tagWt b := by simp [tagWt]
theorem tagWt_ins (least : Nat) (out : List (Nat × List UInt8)) (t : Nat × List UInt8) : tagWt (insTag least out t) ≤ tagWt out + (t.2.length + 1) := by
  unfold insTag
  split
  · omega
  split
  · omega
  have h1 : tagWt out = tagWt (out.take (insAt out t.1)) + tagWt (out.drop (insAt out t.1)) := by rw [← tagWt_app, List.take_append_drop]
  rw [tagWt_app];have h2 : tagWt (t :: out.drop (insAt out t.1)) = t.2.length + 1 + tagWt (out.drop (insAt out t.1)) := by simp [tagWt]
  omega
theorem tagWt_foldl (least : Nat) : ∀ (u out : List (Nat × List UInt8)), tagWt (u.foldl (insTag least) out) ≤ tagWt out + tagWt u
  | [], out => by simp
  | t :: u, out => by
    have h1 := tagWt_ins least out t;have h2 := tagWt_foldl least u (insTag least out t);have h3 : tagWt (t :: u) = t.2.length + 1 + tagWt u := by simp [tagWt]
    rw [List.foldl_cons]; omega
theorem tagWt_take : ∀ (u : List (Nat × List UInt8)) (n : Nat), tagWt (u.take n) ≤ tagWt u
  | [], n => by simp
  | p :: u, 0 => by simp [tagWt]
  | p :: u, n + 1 => by have := tagWt_take u n; simp [tagWt] at this ⊢; omega
theorem tagWt_whole : ∀ u : List (Nat × List UInt8), tagWt (u.map fun p => (p.1, wholeS p.2)) ≤ tagWt u
  | [] => by simp
  | p :: u => by
    have := tagWt_whole u;simp [tagWt, wholeS] at this ⊢; omega
theorem unksW_wt {fs : List Fd} {t : T} : tagWt (unksW fs t) ≤ tagWt t.u := by
  unfold unksW unknownW;have h1 := tagWt_whole ((t.u.take 32767).foldl (insTag (knownW fs)) []);have h2 := tagWt_foldl (knownW fs) (t.u.take 32767) [];have h3 := tagWt_take t.u 32767;have h4 : tagWt [] = 0 := rfl;omega
theorem tagsW_le : ∀ {l : List (Nat × List UInt8)}, (∀ p ∈ l, p.1 < 4294967296 ∧ p.2.length ≤ 32767) → (tagsW l).length ≤ 10 * tagWt l
  | [], _ => by simp [tagsW]
  | p :: l, h => by
    have h1 := tagsW_le (l := l) fun q hq => h q (by simp [hq]);obtain ⟨h2, h3⟩ := h p (by simp);have h4 := uvW_le5 h2;have h5 := uvW_le5 (n := p.2.length) (by omega);simp [tagsW, tagW, tagWt] at h1 ⊢
    omega
theorem bodyL_le {ver : Int} {flex : Bool} : ∀ {fs : List Fd} {ts : List T} {i : Nat}, (∀ f ∈ fs, ∀ y, KeysOk y → (fieldW f ver flex y).length ≤ kF f * tw y) → (∀ y ∈ ts, KeysOk y) → (bodyL fs ver flex ts i).length ≤ kFs fs * (1 + tws (ts.drop i))
  | [], ts, i, _, _ => by simp [bodyL]
  | f :: fs, ts, i, h, hk => by
    have h1 := bodyL_le (fs := fs) (ts := ts) (i := i + 1) (fun g hg => h g (by simp [hg])) hk;have h2 : (if f.has ver then fieldW f ver flex (atT ts i) else []).length ≤ kF f * tw (atT ts i) := by
      split
      · exact h f (by simp) _ (KeysOk.at hk i)
      simp
    have h3 : tw (atT ts i) + tws (ts.drop (i + 1)) ≤ 1 + tws (ts.drop i) := by
      unfold atT
      cases hi : ts[i]? with
      | none =>
        have : ts.length ≤ i := by simpa using hi
        rw [List.drop_of_length_le this, List.drop_of_length_le (by omega)];have e : tw T.zero = 1 := rfl;simp only [Option.getD_none]; rw [e]; omega
      | some y =>
        obtain ⟨hl, rfl⟩ := List.getElem?_eq_some_iff.1 hi;rw [List.drop_eq_getElem_cons hl, tws];simp only [Option.getD_some]; omega
    have h4 : kF f * tw (atT ts i) ≤ kF f * (1 + tws (ts.drop i)) := Nat.mul_le_mul_left _ (by omega);have h5 : kFs fs * (1 + tws (ts.drop (i + 1))) ≤ kFs fs * (1 + tws (ts.drop i)) := Nat.mul_le_mul_left _ (by have := tw_pos (atT ts i); omega);rw [bodyL, List.length_append, kFs, Nat.add_mul]; omega
theorem part_of_fields {fs : List Fd} {ver : Int} {flex : Bool} {t : T} (hf : freeFs fs = true) (hk : KeysOk t) (h : ∀ f ∈ fs, ∀ y, KeysOk y → (fieldW f ver flex y).length ≤ kF f * tw y) : (partW fs ver flex t).length ≤ (kFs fs + 20) * tw t := by
  rw [partW_flat (freeFs_tag hf), List.length_append];have h1 := bodyL_le (i := 0) h hk.l;have h2 := tw_eq t;have hu := unks_ok (fs := fs) hk.u;have h3 : (if flex then uvW (unksW fs t).length ++ tagsW (unksW fs t) else []).length ≤ 5 + 10 * tagWt t.u := by
    split
    · have := uvW_le5 hu.len;have := tagsW_le (l := unksW fs t) fun p hp => ⟨hu.key p hp, hu.few p hp⟩;have := unksW_wt (fs := fs) (t := t);rw [List.length_append]; omega
    simp
  rw [List.drop_zero] at h1;have h4 : kFs fs * (1 + tws t.l) ≤ kFs fs * tw t := Nat.mul_le_mul_left _ (by omega);rw [Nat.add_mul]; omega
mutual
theorem fieldW_le : ∀ (f : Fd), freeF f = true → ∀ (ver : Int) (flex : Bool) (t : T), KeysOk t → (fieldW f ver flex t).length ≤ kF f * tw t
  | .mk kind fr to nul tag df of sub, h, ver, flex, t, hk => by
    rw [freeF, Bool.and_eq_true] at h;rw [fieldW_eq, kF];exact fieldV_le (S := kFs sub + 20) hk fun y hy => part_of_fields h.2 hy (fieldsW_le sub h.2 ver flex)
theorem fieldsW_le : ∀ (fs : List Fd), freeFs fs = true → ∀ (ver : Int) (flex : Bool), ∀ f ∈ fs, ∀ y, KeysOk y → (fieldW f ver flex y).length ≤ kF f * tw y
  | [], _, _, _, f, hf => by simp at hf
  | g :: fs, h, ver, flex, f, hf => by
    rw [freeFs, Bool.and_eq_true] at h;intro y hy
    by_cases e : f = g
    · rw [e]; exact fieldW_le g h.1 ver flex y hy
    exact fieldsW_le fs h.2 ver flex f (by rcases List.mem_cons.1 hf with hf | hf; exact absurd hf e; exact hf) y hy
end
theorem partW_le {fs : List Fd} (hf : freeFs fs = true) {ver : Int} {flex : Bool} {t : T} (hk : KeysOk t) : (partW fs ver flex t).length ≤ (kFs fs + 20) * tw t := part_of_fields hf hk (fieldsW_le fs hf ver flex)
theorem small_of {fs : List Fd} {t : T} (hf : freeFs fs = true) (hk : KeysOk t) (hw : tw t ≤ 1048576) (hK : kFs fs + 20 ≤ 2048) : KeysOk t ∧ ∀ ver flex, (partW fs ver flex t).length ≤ 2147483648 := by
  refine ⟨hk, fun ver flex => ?_⟩;have h1 := partW_le hf hk (ver := ver) (flex := flex);have h2 := Nat.mul_le_mul hK hw;omega
end Go.Kq

namespace Go.Kq
open Go
theorem app_pos {l1 l2 : List UInt8} (h1 : 1 ≤ l1.length) : 1 ≤ (l1 ++ l2).length := by rw [List.length_append]; omega
end Go.Kq

namespace Go.Kq
open Go
section
variable {ver : Int} {fl : Bool} {y t : T} {fr to nul tag df of : Int} {sub : List Fd}
theorem invb_cons {f : Fd} {fs : List Fd} {r g : Rd} {a : V → List UInt8} {gs : List (V → List UInt8)} {ts : List T} {i : Nat} {tl : List UInt8} (h1 : Inv r ver fl a (if f.has ver then fieldW f ver fl (atT ts i) else [])) (h2 : InvL g ver fl gs (bodyL fs ver fl ts (i + 1) ++ tl)) :
    InvL (rdCons r g) ver fl (a :: gs) (bodyL (f :: fs) ver fl ts i ++ tl) := by
  rw [bodyL, List.append_assoc]; exact invl_cons h1 h2
theorem invb_nil {g : Rd} {gs : List (V → List UInt8)} {ts : List T} {i : Nat} {tl : List UInt8} (h : InvL g ver fl gs tl) : InvL g ver fl gs (bodyL [] ver fl ts i ++ tl) := h
theorem inv_tagend {fs : List Fd} (hk : KeysOk t) : InvL (rdCons rdTagsF rdSt0) ver fl [fun x => if fl then apTags x else []] (if fl then uvW (unksW fs t).length ++ tagsW (unksW fs t) else []) := by
  have h := invl_cons (inv_tagsF (fl := fl) (ver := ver) fun _ => unks_ok (fs := fs) hk.u) invl_nil
  rwa [List.append_nil] at h
theorem inv_part {fs : List Fd} {g : Rd} {gs : List (V → List UInt8)} (hf : freeFs fs = true) (h : InvL g ver fl gs (bodyL fs ver fl t.l 0 ++ (if fl then uvW (unksW fs t).length ++ tagsW (unksW fs t) else []))) : InvL g ver fl gs (partW fs ver fl t) := by
  rw [partW_flat (freeFs_tag hf)]; exact h
theorem inv_has {f : Fd} {r : Rd} {a : V → List UInt8} (hh : f.has ver = true) (h : Inv r ver fl a (fieldW f ver fl y)) : Inv r ver fl a (if f.has ver then fieldW f ver fl y else []) := by rw [if_pos hh]; exact h
theorem inv_gate {f : Fd} {r : Rd} {a : V → List UInt8} {p : Int → Bool} {dv : V} (hp : f.has ver = p ver) (h : Inv r ver fl a (fieldW f ver fl y)) : Inv (rdIf p dv r) ver fl (fun x => if p ver then a x else []) (if f.has ver then fieldW f ver fl y else []) := by
  rw [hp]; exact inv_if fun _ => h
theorem has_all {kind : Int} (hv : 0 ≤ ver) (h1 : fr ≤ 0) (h2 : to < 0) : Fd.has (.mk kind fr to nul tag df of sub) ver = true := by
  show (decide (fr ≤ ver) && (decide (to < 0) || decide (ver ≤ to))) = true
  simp only [Bool.and_eq_true, Bool.or_eq_true, decide_eq_true_eq]; omega
theorem has_ge {kind : Int} (h2 : to < 0) : Fd.has (.mk kind fr to nul tag df of sub) ver = decide (ver ≥ fr) := by
  show (decide (fr ≤ ver) && (decide (to < 0) || decide (ver ≤ to))) = _
  rw [Bool.eq_iff_iff];simp only [Bool.and_eq_true, Bool.or_eq_true, decide_eq_true_eq]; omega
theorem fixedW_b1 (i : Int) : fixedW i 1 = [UInt8.ofNat (i % 256).toNat] := by simp [fixedW]
theorem inv_i8 {i : Int} : Inv (rdOne fun _ _ => gI8) ver fl (apInt 1) (fixedW i 1) := by
  intro rest nl _;refine ⟨.n (IntKind.i8.wrap (((UInt8.ofNat (i % 256).toNat).toNat : Nat) : Int)), ?_, ?_⟩
  · simp [rdOne, gI8, fixedW_b1]
  simp only [apInt, fixedW_b1, u8_mod]
  congr 2
  simp [IntKind.wrap, IntKind.signed, IntKind.bits]; split <;> omega
theorem uuidW_len (s : List UInt8) : (uuidW s).length = 16 := by simp only [uuidW, List.length_append, List.length_take, List.length_replicate]; omega
theorem invf_i8 : Inv (rdOne fun _ _ => gI8) ver fl (apInt 1) (fieldW (.mk 1 fr to nul tag df of sub) ver fl y) := by rw [fieldW_eq, show Fd.kind (.mk 1 fr to nul tag df of sub) = 1 from rfl, fieldV_i8]; exact inv_i8
theorem invf_i32 : Inv (rdOne fun _ _ => gNum .i32 4) ver fl (apInt 4) (fieldW (.mk 3 fr to nul tag df of sub) ver fl y) := by rw [fieldW_eq, show Fd.kind (.mk 3 fr to nul tag df of sub) = 3 from rfl, fieldV_i32]; exact inv_i32
theorem invf_str (hn : nul < 0) : Inv (rdOne fun _ fl st => if fl then gCStr st else gStr st) ver fl (fun x => if fl then apCStr x else apStr x) (fieldW (.mk 8 fr to nul tag df of sub) ver fl y) := by
  rw [fieldW_eq, show Fd.kind (.mk 8 fr to nul tag df of sub) = 8 from rfl, fieldV_str (nullW_no (show Fd.nul (.mk 8 fr to nul tag df of sub) < 0 from hn))]; exact inv_two (fun _ => inv_cstr (wholeS_len _)) (fun _ => inv_str (wholeS_len _))
theorem invf_arr {ge : Rd} {ga : V → List UInt8} (hn : nul < 0) (he : ∀ z ∈ y.l, Inv ge ver fl ga (valueW of (partW sub ver fl) false fl z)) (h1 : ∀ z, 1 ≤ (valueW of (partW sub ver fl) false fl z).length) :
    Inv (rdArr (fun _ fl st => if fl then gCALen st else gALen st) ge) ver fl (fun x => (if fl then apCLen x.items.length else apLen x.items.length) ++ (x.items.map ga).flatten) (fieldW (.mk 11 fr to nul tag df of sub) ver fl y) := by
  have e : fieldW (.mk 11 fr to nul tag df of sub) ver fl y = (if fl then uvW ((y.l.take 32767).length + 1) else fixedW (y.l.take 32767).length 4) ++ ((y.l.take 32767).map (valueW of (partW sub ver fl) false fl)).flatten := by
    rw [fieldW_eq];have h0 : nullW nul ver y = false := nullW_no hn;show fieldV 11 nul of (partW sub ver fl) ver fl y = _
    simp only [fieldV, if_true, h0, thingsW, List.flatMap]
    cases fl <;> simp [countedW]
  rw [e];have hl : (y.l.take 32767).length ≤ 32767 := by simp; omega
  refine inv_arr (la := fun n => if fl then apCLen n else apLen n) ?_ ?_ ?_ ?_
  · rw [List.length_map]
    cases fl
    · exact len_fixed hl
    exact len_uv hl
  · rw [List.length_map]; cases fl <;> rfl
  · intro o ho;obtain ⟨z, hz, rfl⟩ := List.mem_map.1 ho;exact he z (List.mem_of_mem_take hz)
  intro o ho;obtain ⟨z, hz, rfl⟩ := List.mem_map.1 ho;exact h1 z
theorem inv_el {ge : Rd} {gs : List (V → List UInt8)} {s : T → List UInt8} (h : InvL ge ver fl gs (s y)) : Inv ge ver fl (apSt gs) (valueW 10 s false fl y) := by
  have e : valueW 10 s false fl y = s y := by simp [valueW]
  rw [e]; exact inv_st h
theorem inv_el_i32 {s : T → List UInt8} : Inv (rdOne fun _ _ => gNum .i32 4) ver fl (apInt 4) (valueW 3 s false fl y) := by
  have e : valueW 3 s false fl y = fixedW y.n 4 := by simp [valueW, widthW]
  rw [e]; exact inv_i32
theorem counted_pos {null : Bool} {n size : Nat} (h : 0 < size) : 1 ≤ (countedW fl null n size).length := by
  unfold countedW
  split
  · simp
  split
  · exact uvW_pos _
  split <;> simp only [fixedW_length] <;> omega
theorem widthW_pos (k : Int) : 0 < widthW k := by unfold widthW; repeat' split <;> try omega
theorem value_pos {kind : Int} {s : T → List UInt8} {null : Bool} (h : kind ≠ 10) : 1 ≤ (valueW kind s null fl y).length := by
  unfold valueW
  split
  · simp
  split
  · rw [uuidW_len]; omega
  split
  · exact app_pos (counted_pos (by omega))
  split
  · exact app_pos (counted_pos (by omega))
  rw [fixedW_length]; exact widthW_pos kind
theorem value_pos10 {s : T → List UInt8} {null : Bool} (h : 1 ≤ (s y).length) : 1 ≤ (valueW 10 s null fl y).length := by
  have e : valueW 10 s null fl y = s y := by simp [valueW]
  rw [e]; exact h
theorem fieldW_pos {kind : Int} (h : kind ≠ 10) : 1 ≤ (fieldW (.mk kind fr to nul tag df of sub) ver fl y).length := by
  rw [fieldW_eq];show 1 ≤ (fieldV kind nul of (partW sub ver fl) ver fl y).length
  unfold fieldV
  split
  · exact app_pos (counted_pos (by omega))
  rw [if_neg (by intro e; exact h e.1)]; exact value_pos h
theorem body_head {f : Fd} {fs : List Fd} {ts : List T} {i : Nat} (hh : f.has ver = true) (h : 1 ≤ (fieldW f ver fl (atT ts i)).length) : 1 ≤ (bodyL (f :: fs) ver fl ts i).length := by
  rw [bodyL, if_pos hh]; exact app_pos h
theorem part_pos {fs : List Fd} (hf : freeFs fs = true) (h : 1 ≤ (bodyL fs ver fl t.l 0).length) : 1 ≤ (partW fs ver fl t).length := by
  rw [partW_flat (freeFs_tag hf)]; exact app_pos h
end
end Go.Kq

namespace Go.Kq
open Go
def IsN (g : Rd) (n : Nat) : Prop := ∀ ver fl st xs s', g ver fl st = some (.l xs, s') → xs.length = n
theorem isN_nil : IsN rdSt0 0 := by
  intro ver fl st xs s' h;simp [rdSt0] at h
  simp [h.1]
theorem isN_cons {f g : Rd} {n : Nat} (hl : IsL g) (h : IsN g n) : IsN (rdCons f g) (n + 1) := by
  intro ver fl st xs s' hh;unfold rdCons at hh
  split at hh
  · simp at hh
  split at hh
  · simp at hh
  rename_i y1 s1 h1
  obtain ⟨ys, rfl⟩ := hl _ _ _ _ _ h1;have h2 := h _ _ _ _ _ h1;simp [consV] at hh
  rw [← hh.1]; simp [h2]
theorem dd_plain {g : Rd} {fl : Int → Bool} {gs : List (V → List UInt8)} {d : List V → List V} {tell : V → T} {ver : Int} {W : List UInt8} {n : Nat} (h : InvL g ver (fl ver) gs W) (hn : IsN g n) : ∃ xs : List V, xs.length = n ∧ doorResD g fl d tell ver W = (tell (.l (d (.n ver :: xs))), true) := by
  obtain ⟨xs, h1, h2⟩ := h [] W.isEmpty (by intro h; simpa using h);rw [List.append_nil] at h1;exact ⟨xs, hn _ _ _ _ _ h1, by simp [doorResD, h1, dV, consV]⟩
end Go.Kq

namespace Go.Kq
open Go Go.Proofs
def gNLen (b : Bool) (n : Nat) : List UInt8 := if b then fixedW (-1) 4 else fixedW n 4
def gCNLen (b : Bool) (n : Nat) : List UInt8 := if b then uvW 0 else uvW (n + 1)
def apNLen (x : V) : List UInt8 := gNLen x.isNil x.items.length
def apCNLen (x : V) : List UInt8 := gCNLen x.isNil x.items.length
section
variable {ver : Int} {fl : Bool} {y : T} {fr to nul tag df of : Int} {sub : List Fd}
theorem rd_null (fl : Bool) (rest : List UInt8) (nl : Bool) : (if fl then gCALen else gALen) ⟨(if fl then [0] else fixedW (-1) 4) ++ rest, nl, false⟩ = (.n (-1), ⟨rest, nl, false⟩) := by
  cases fl
  · have : IntKind.i32.wrap ((Lib.beNat (fixedW (-1) 4) : Nat) : Int) = -1 := by rw [beNat_f4]; rfl
    have h0 : ¬ ((rest.length : Int) < -1) := by omega
    simp [gALen, rdArrayLen, rdNum_app, this, h0]
  have e : IntKind.i32.wrap (IntKind.i32.wrap ((0 : Nat) : Int) - 1) = -1 := by decide
  have h0 : ¬ ((rest.length : Int) < -1) := by omega
  rw [show (if true = true then [0] else fixedW (-1) 4 : List UInt8) = uvW 0 from by rw [uvW_zero]; rfl];simp only [if_true, gCALen, rdCArrayLen, rdUv_app (show 0 < 4294967296 by omega), e, h0, if_false]
theorem inv_arrN {ge : Rd} {ver : Int} {fl : Bool} {a : V → List UInt8} {vn : Int} {lo : List UInt8} {os : List (List UInt8)} (hv : 0 ≤ ver) (hvn : vn ≤ 0)
    (hlo : lo = if fl then uvW (os.length + 1) else fixedW os.length 4) (hl : LenI (if fl then gCALen else gALen) lo os.length) (ho : ∀ o ∈ os, Inv ge ver fl a o) (h1 : ∀ o ∈ os, 1 ≤ o.length) :
    Inv (rdArrN vn (fun _ fl st => if fl then gCALen st else gALen st) ge) ver fl (fun x => (if fl then apCNLen x else apNLen x) ++ (x.items.map a).flatten) (lo ++ os.flatten) := by
  intro rest nl hn;have hnl := nl_false hn (by simp [hl.1]);subst hnl;have h2 := hl.2 (os.flatten ++ rest) (by rw [List.length_append]; have := flatten_len h1; omega);have h2' : (if fl then gCALen ⟨lo ++ (os.flatten ++ rest), false, false⟩ else gALen ⟨lo ++ (os.flatten ++ rest), false, false⟩) = (.n os.length, ⟨os.flatten ++ rest, false, false⟩) := by
    rw [← h2]; cases fl <;> rfl
  obtain ⟨xs, h3, h4, h5⟩ := rdMany_app os rest ho;simp only [rdArrN, List.append_assoc, h2']
  by_cases h0 : os.length = 0
  · have : os = [] := List.eq_nil_of_length_eq_zero h0;subst this;refine ⟨.l [], by simp, ?_⟩;rw [hlo]; cases fl <;> simp [V.items, V.isNil, apCNLen, apNLen, gCNLen, gNLen]
  refine ⟨.l xs, ?_, ?_⟩
  · have h6 : (0 : Int) < os.length := by omega
    have h7 : os ≠ [] := by rintro rfl; exact h0 rfl
    simp [h7, h3]
  rw [hlo]; cases fl <;> simp [V.items, V.isNil, apCNLen, apNLen, gCNLen, gNLen, h4, h5]
theorem invf_arrN {ge : Rd} {ga : V → List UInt8} {vn : Int} (hv : 0 ≤ ver) (hvn : vn ≤ 0) (he : ∀ z ∈ y.l, Inv ge ver fl ga (valueW of (partW sub ver fl) false fl z)) (h1 : ∀ z, 1 ≤ (valueW of (partW sub ver fl) false fl z).length) :
    Inv (rdArrN vn (fun _ fl st => if fl then gCALen st else gALen st) ge) ver fl (fun x => (if fl then apCNLen x else apNLen x) ++ (x.items.map ga).flatten) (fieldW (.mk 11 fr to nul tag df of sub) ver fl y) := by
  rw [fieldW_eq]
  cases h0 : nullW nul ver y with
  | true =>
    have e : fieldV (Fd.mk 11 fr to nul tag df of sub).kind (Fd.mk 11 fr to nul tag df of sub).nul (Fd.mk 11 fr to nul tag df of sub).of (partW (Fd.mk 11 fr to nul tag df of sub).sub ver fl) ver fl y = if fl then [0] else fixedW (-1) 4 := by
      show fieldV 11 nul of (partW sub ver fl) ver fl y = _
      simp only [fieldV, if_true, h0, thingsW]
      cases fl <;> simp [countedW]
    rw [e];intro rest nl hn;have hr := rd_null fl rest nl;have hr' : (if fl then gCALen ⟨(if fl then [0] else fixedW (-1) 4) ++ rest, nl, false⟩ else gALen ⟨(if fl then [0] else fixedW (-1) 4) ++ rest, nl, false⟩) = (.n (-1), ⟨rest, nl, false⟩) := by rw [← hr]; cases fl <;> rfl
    refine ⟨.nil, ?_, ?_⟩
    · simp only [rdArrN, hr'];have hq : decide (ver < vn) = false := decide_eq_false (by omega);simp [hq]
    cases fl <;> simp [V.items, V.isNil, apCNLen, apNLen, gCNLen, gNLen, uvW_zero]
  | false =>
    have e : fieldV (Fd.mk 11 fr to nul tag df of sub).kind (Fd.mk 11 fr to nul tag df of sub).nul (Fd.mk 11 fr to nul tag df of sub).of (partW (Fd.mk 11 fr to nul tag df of sub).sub ver fl) ver fl y = (if fl then uvW ((y.l.take 32767).length + 1) else fixedW (y.l.take 32767).length 4) ++ ((y.l.take 32767).map (valueW of (partW sub ver fl) false fl)).flatten := by
      show fieldV 11 nul of (partW sub ver fl) ver fl y = _
      simp only [fieldV, if_true, h0, thingsW, List.flatMap]
      cases fl <;> simp [countedW]
    rw [e];have hl : (y.l.take 32767).length ≤ 32767 := by simp; omega
    refine inv_arrN hv hvn (by rw [List.length_map]) ?_ ?_ ?_
    · rw [List.length_map]
      cases fl
      · exact len_fixed hl
      exact len_uv hl
    · intro o ho;obtain ⟨z, hz, rfl⟩ := List.mem_map.1 ho;exact he z (List.mem_of_mem_take hz)
    intro o ho;obtain ⟨z, hz, rfl⟩ := List.mem_map.1 ho;exact h1 z
end
end Go.Kq

namespace Go.Kq
open Go Go.Proofs
variable {P : Program} {TT TL S TS : TypeId} {N sv st si m n k o kf id id2 : Nat}
theorem app_num2 {kd : IntKind} {TE Ti : TypeId} (hT : TreeTys P TT TL) (hTE : scal P TE = true) (hi1 : intOf P TE kd = true) (hi2 : intOf P Ti .i64 = true) (hk64 : fits64 kd = true)
    {t0 t1 t2 t3 t4 t5 t6 t7 t8 t9 t10 t11 t12 t13 t14 t15 t16 t17 t18 t19 t20 : TypeId} {p0 p1 p2 p3 p4 p5 p6 p7 p8 p9 p10 p11 p12 p13 p14 p15 p16 p17 p18 p19 p20 : String} {e0 e1 e2 e3 e4 e5 e6 e7 e8 e9 e10 e11 e12 e13 e14 e15 e16 e17 e18 e19 e20 : Array Edge}
    (he : edgeOk 0 [e0, e1, e2, e3, e4, e5, e6, e7, e8, e9, e10, e11, e12, e13, e14, e15, e16, e17, e18, e19, e20] [[], [0], [], [2], [3], [4], [5], [], [7], [8], [9], [], [10, 11], [12], [13], [14], [15], [6, 16], [1], [18], [0, 1, 2, 3, 4, 5, 6, 7, 8, 9, 10, 11, 12, 13, 14, 15, 16, 17, 18, 19]] = true)
    (hS : fieldOf P S kf o = true) (hTS0 : sliceN P TS (Ty.size (.int kd)) = true) (hscl : scal P TS = true)
    (hb : (decide (sv < n) && decide (st < n) && decide (si < n) && decide (m ≤ n) && decide (n + 20 ≤ N)) = true) :
    AppStep P N sv st si m (Code.region id ⟨[oF n TT st 3 t0 p0 e0, oL (n + 1) TL n t1 p1 e1, oF (n + 2) TT st 3 t2 p2 e2, oL (n + 3) TL (n + 2) t3 p3 e3, ⟨some (n + 4), .indexAddr TL (.tmp (n + 3)) (.const (.int .i64 k)), t4, p4, e4, none⟩, oF (n + 5) TT (n + 4) 3 t5 p5 e5, oL (n + 6) TL (n + 5) t6 p6 e6,
      oM (n + 7) sv t7 p7 e7, ⟨some (n + 8), .nilCheck (.tmp (n + 7)), t8, p8, e8, none⟩, oF (n + 9) S (n + 8) kf t9 p9 e9, oL (n + 10) TS (n + 9) t10 p10 e10,
      oM (n + 11) si t11 p11 e11, ⟨some (n + 12), .indexAddr TS (.tmp (n + 10)) (.tmp (n + 11)), t12, p12, e12, none⟩, oL (n + 13) TE (n + 12) t13 p13 e13, ⟨some (n + 14), .convert TE Ti (.tmp (n + 13)), t14, p14, e14, none⟩, ⟨some (n + 15), .build TT #[(0, .tmp (n + 14))], t15, p15, e15, none⟩, ⟨some (n + 16), .buildSlice TL 1 #[(0, .tmp (n + 15))], t16, p16, e16, none⟩, ⟨some (n + 17), .call ⟨.builtin .append, #[.tmp (n + 6), .tmp (n + 16)], #[TL, TL]⟩, t17, p17, e17, none⟩, ⟨some (n + 18), .indexAddr TL (.tmp (n + 1)) (.const (.int .i64 k)), t18, p18, e18, none⟩, oF (n + 19) TT (n + 18) 3 t19 p19 e19, oS TL (n + 19) (n + 17) t20 p20 e20]⟩ true) k o (.int kd) tNum := by
  intro e K Q a w ts s1 b lv l x j y hN hsv hst hsi hm hy hlo hx hj hk hll hK;obtain ⟨et, es, hTS⟩ := sliceN_is hTS0;simp only [Bool.and_eq_true, decide_eq_true_eq] at hb;obtain ⟨⟨⟨⟨b1, b2⟩, b3⟩, b4⟩, b5⟩ := hb;obtain ⟨c, hc, hrc⟩ := hx.one rfl;obtain ⟨q, cap, rfl, hq, _, hel⟩ := arr_cell hrc;have hjl : j < x.items.length := (List.getElem?_eq_some_iff.1 hj).1;obtain ⟨qa, rfl⟩ : ∃ qa, q = some qa := by
    cases q with
    | some qa => exact ⟨qa, rfl⟩
    | none => cases x <;> simp [V.isNil] at hq; simp [V.items] at hjl
  obtain ⟨sb, so, rfl, hB, hels⟩ := hel _ rfl;obtain ⟨ce, hce, hcl, iy, rfl, rfl, hy1, hy2⟩ := hels j y hj;have hi : -9223372036854775808 ≤ iy ∧ iy ≤ 9223372036854775807 := by
    simp only [fits64, Bool.and_eq_true, decide_eq_true_eq] at hk64; exact ⟨by omega, by omega⟩
  have hBs := hm.bs sb hB;have hs01 : e.s0 ≤ s1 := hm.s0;have hs1 : s1 ≤ w.heap.size := hm.top;have hsp : ∀ r ∈ spare lv 5, From s1 w r.b := hlo.spare_in;have hpb : e.pb < e.s0 := hm.ps;have hfp : ∀ w', Fr (spare lv 5) w w' → w'.cell? ⟨e.pb, e.po + o, none⟩ = some (.slice (some ⟨sb, so, none⟩) x.items.length cap) := fun w' hf' => hf'.cell hc (fun r hr => .inl (by have := hsp r hr; unfold From at this; omega));have hzero := hT.zero;refine wp_drawE (os := [oF n TT st 3 t0 p0 e0, oL (n + 1) TL n t1 p1 e1, oF (n + 2) TT st 3 t2 p2 e2, oL (n + 3) TL (n + 2) t3 p3 e3, ⟨some (n + 4), .indexAddr TL (.tmp (n + 3)) (.const (.int .i64 k)), t4, p4, e4, none⟩, oF (n + 5) TT (n + 4) 3 t5 p5 e5, oL (n + 6) TL (n + 5) t6 p6 e6,
      oM (n + 7) sv t7 p7 e7, ⟨some (n + 8), .nilCheck (.tmp (n + 7)), t8, p8, e8, none⟩, oF (n + 9) S (n + 8) kf t9 p9 e9, oL (n + 10) TS (n + 9) t10 p10 e10,
      oM (n + 11) si t11 p11 e11, ⟨some (n + 12), .indexAddr TS (.tmp (n + 10)) (.tmp (n + 11)), t12, p12, e12, none⟩, oL (n + 13) TE (n + 12) t13 p13 e13, ⟨some (n + 14), .convert TE Ti (.tmp (n + 13)), t14, p14, e14, none⟩, ⟨some (n + 15), .build TT #[(0, .tmp (n + 14))], t15, p15, e15, none⟩, ⟨some (n + 16), .buildSlice TL 1 #[(0, .tmp (n + 15))], t16, p16, e16, none⟩, ⟨some (n + 17), .call ⟨.builtin .append, #[.tmp (n + 6), .tmp (n + 16)], #[TL, TL]⟩, t17, p17, e17, none⟩, ⟨some (n + 18), .indexAddr TL (.tmp (n + 1)) (.const (.int .i64 k)), t18, p18, e18, none⟩, oF (n + 19) TT (n + 18) 3 t19 p19 e19])
    [spC [] (.pointer (some ⟨e.tb, 0 + 3, none⟩)), spC [0] (.slice (some ⟨e.lb, 0, none⟩) e.n e.n), spC [] (.pointer (some ⟨e.tb, 0 + 3, none⟩)), spC [2] (.slice (some ⟨e.lb, 0, none⟩) e.n e.n),
      spC [3] (.pointer (some ⟨e.lb, 0 + (k : Int).toNat * 5, none⟩)), spC [4] (.pointer (some ⟨e.lb, 0 + (k : Int).toNat * 5 + 3, none⟩)), spC [5] lv,
      spC [] (.pointer (some ⟨e.pb, e.po, none⟩)), spC [7] (.pointer (some ⟨e.pb, e.po, none⟩)), spC [8] (.pointer (some ⟨e.pb, e.po + o, none⟩)), spC [9] (.slice (some ⟨sb, so, none⟩) x.items.length cap),
      spC [] (.int .i64 j), spC [10, 11] (.pointer (some ⟨sb, so + (j : Int).toNat * Ty.size (.int kd), none⟩)), spC [12] (.int kd iy), spC [13] (.int .i64 iy), spR [14] (fun v w' => ∃ cs : List Value, v = .agg cs.toArray ∧ RepT w' (From w.heap.size w') cs (tNum (.n iy))),
      spR [15] (fun v w' => ∃ (b : Nat) (cs : List Value), v = .slice (some ⟨b, 0, none⟩) 1 1 ∧ w.heap.size ≤ b ∧ w'.rangeAt b 0 cs ∧ RepT w' (From w.heap.size w') cs (tNum (.n iy))),
      spW [6, 16] (fun v w' => LOwn w' (From s1 w') v (l ++ [tNum (.n iy)])),
      spC [1] (.pointer (some ⟨e.lb, 0 + (k : Int).toNat * 5, none⟩)), spC [18] (.pointer (some ⟨e.lb, 0 + (k : Int).toNat * 5 + 3, none⟩))] n (spare lv 5) hT.mixed he (by simp [shape]) rfl
    (by simp [spC, spR, spW]) (by simp; omega)
    ⟨lCc _ _ _, lCc _ _ _, lCc _ _ _, lCc _ _ _, lCc _ _ _, lCc _ _ _, lCc _ _ _, lCc _ _ _, lCc _ _ _, lCc _ _ _, lCc _ _ _, lCc _ _ _, lCc _ _ _, lCc _ _ _, lCc _ _ _, ?_, ?_, ?_, lCc _ _ _, lCc _ _ _, trivial⟩ ?_ ?_
  · rintro v w1 w2 hf12 ⟨cs, h1, h2⟩;exact ⟨cs, h1, h2.kept hf12 (fun r hr hF => by have := hsp r hr; unfold From at this hF; omega) (From.mono hf12.size)⟩
  · rintro v w1 w2 hf12 ⟨b, cs, h1, h2, h3, h4⟩;exact ⟨b, cs, h1, h2, hf12.range h3 (fun r hr => .inl (by have := hsp r hr; unfold From at this; omega)), h4.kept hf12 (fun r hr hF => by have := hsp r hr; unfold From at this hF; omega) (From.mono hf12.size)⟩
  · intro v w1 w2 hf12 h1;have hf12 : Fr [] w1 w2 := hf12;have h1 : LOwn w1 (From s1 w1) v (l ++ [tNum (.n iy)]) := h1;exact h1.kept hf12 (by simp) (From.mono hf12.size)
  · refine ⟨op_c fun a' w' hk' hf' hd' K' hK' => ?_, op_c fun a' w' hk' hf' hd' K' hK' => ?_, op_c fun a' w' hk' hf' hd' K' hK' => ?_, op_c fun a' w' hk' hf' hd' K' hK' => ?_, op_c fun a' w' hk' hf' hd' K' hK' => ?_,
      op_c fun a' w' hk' hf' hd' K' hK' => ?_, op_c fun a' w' hk' hf' hd' K' hK' => ?_, op_c fun a' w' hk' hf' hd' K' hK' => ?_, op_c fun a' w' hk' hf' hd' K' hK' => ?_, op_c fun a' w' hk' hf' hd' K' hK' => ?_,
      op_c fun a' w' hk' hf' hd' K' hK' => ?_, op_c fun a' w' hk' hf' hd' K' hK' => ?_, op_c fun a' w' hk' hf' hd' K' hK' => ?_, op_c fun a' w' hk' hf' hd' K' hK' => ?_, op_c fun a' w' hk' hf' hd' K' hK' => ?_, op_r fun a' w' hk' hf' hd' K' hK' => ?_, op_r fun a' w' hk' hf' hd' K' hK' => ?_,
      op_w fun a' w' hk' hf' hd' K' hK' => ?_, op_c fun a' w' hk' hf' hd' K' hK' => ?_, op_c fun a' w' hk' hf' hd' K' hK' => ?_, trivial⟩
    · exact wFa (hT.flat.field (by decide)) (by rw [eTm, hk'.get st b2, hst]) hK'
    · exact wp_load hT.scl (by rw [eTm]; exact hd'.c 0 (by simp) rfl) ((hm.kept hf' (fun r hr => (hsp r hr).1)).tree 3 _ rfl) hK'
    · exact wFa (hT.flat.field (by decide)) (by rw [eTm, hk'.get st b2, hst]) hK'
    · exact wp_load hT.scl (by rw [eTm]; exact hd'.c 2 (by simp) rfl) ((hm.kept hf' (fun r hr => (hsp r hr).1)).tree 3 _ rfl) hK'
    · exact wp_indexAddr hT.sl (by rw [eTm]; exact hd'.c 3 (by simp) rfl) rfl (by omega) (by omega) hK'
    · exact wFa (hT.flat.field (by decide)) (by rw [eTm]; exact hd'.c 4 (by simp) rfl) hK'
    · obtain ⟨es, h4, rfl, _⟩ := (hm.kept hf' (fun r hr => (hsp r hr).1)).els k _ hy;refine wp_load hT.scl (by rw [eTm]; exact hd'.c 5 (by simp) rfl) ?_ hK';have := h4 3 lv rfl
      simpa using this
    · rw [wp_move, eTm, hk'.get sv b1, hsv]; exact hK'
    · exact wp_nilCheck (by rw [eTm]; exact hd'.c 7 (by simp) rfl) hK'
    · exact wFa hS (by rw [eTm]; exact hd'.c 8 (by simp) rfl) hK'
    · exact wp_load hscl (by rw [eTm]; exact hd'.c 9 (by simp) rfl) (hfp w' hf') hK'
    · rw [wp_move, eTm, hk'.get si b3, hsi]; exact hK'
    · exact wp_indexAddr hTS (by rw [eTm]; exact hd'.c 10 (by simp) rfl) (by rw [eTm]; exact hd'.c 11 (by simp) rfl) (by omega) (by omega) hK'
    · exact wp_load hTE (by rw [eTm]; exact hd'.c 12 (by simp) rfl) (by have := (hf'.range hce (fun r hr => .inl (by have := hsp r hr; unfold From at this; omega))) 0 _ rfl; simpa [Ty.size] using this) hK'
    · refine wp_convert hi1 hi2 (by rw [eTm]; exact hd'.c 13 (by simp) rfl) ?_;rw [wrap64 hi]; exact hK'
    · exact wp_build1 hT.flat (by decide) (by rw [eTm]; exact hd'.c 14 (by simp) rfl) rfl (hK' _ _ ⟨_, rfl, repT_num hi⟩ (Fr.refl _ _))
    · obtain ⟨cs, h1, h2⟩ := hd'.at (d := 15) (by simp) rfl;have hwf := hf'.size;refine wp_slice1 hT.sl hzero rfl (by omega) (cs := cs) (by rw [eTm, h1]; rfl) h2.length fun _ => ?_;have hal := Fr.alloc [] w' (.cells cs.toArray TT);exact hK' _ _ ⟨_, cs, rfl, hwf, range_new w' cs.toArray TT (0, 0), h2.kept hal (by simp) (From.mono hal.size)⟩ hal
    · obtain ⟨bb, cs, h1, h2, h3, h4⟩ := hd'.at (d := 16) (by simp) rfl;have hlv : get a' (n + 6) = lv := hd'.c 6 (by simp) rfl;have hwf := hf'.size;obtain ⟨flat, ho1, ho2⟩ := hlo.spares hf' (A' := From s1 w') (From.mono hf'.size);have hc4 := h4.length;refine wp_append (A := From s1 w') (z := zT) hT.sl hzero rfl (by rw [eTm, hlv]) (by rw [eTm, h1]) ho1 (by omega) (news := cs) (by omega) h3 h4.ones (by omega) (by simp only [maxLen]; omega) ?_;intro v' w2 hf2 ho' hbk;refine hK' _ _ ?_ hf2;have hf2s := hf2.size;refine LOwn.app (A' := From s1 w2) ho2 ho1 hf2 ?_ hbk (fun b hb => ⟨From.mono hf2s b hb, hb.2⟩) h4 ?_
      · obtain ⟨ha, hb⟩ := ho';refine ⟨ha, hb.imp (fun h => h) ?_⟩;rintro ⟨g', o', cap', hg', hrest⟩;refine ⟨g', o', cap', ?_, hrest⟩
        rcases hg' with hg' | hg'
        · exact From.mono hf2s _ hg'
        exact ⟨by have := hg'.1; omega, hg'.2⟩
      intro b hb;refine ⟨⟨by have := hb.1; omega, hb.2⟩, fun hbl => ?_⟩;have := (hlo.blk_in hbl).2;have := hb.1;omega
    · exact wp_indexAddr hT.sl (by rw [eTm]; exact hd'.c 1 (by simp) rfl) rfl (by omega) (by omega) hK'
    exact wFa (hT.flat.field (by decide)) (by rw [eTm]; exact hd'.c 18 (by simp) rfl) hK'
  intro a' w' hk' hf' hd';have h17 : get a' (n + 19) = .pointer (some ⟨e.lb, k * 5 + 3, none⟩) := by
    have := hd'.c (nd' := [18]) (x := .pointer (some ⟨e.lb, 0 + (k : Int).toNat * 5 + 3, none⟩)) 19 (by simp) rfl;rw [this]; simp
  have h15 : LOwn w' (From s1 w') (get a' (n + 17)) (l ++ [tNum (.n iy)]) := hd'.at (d := 17) (by simp) rfl;have hmw := hm.kept hf' (fun r hr => (hsp r hr).1);have hth : w'.there e.lb (k * 5) 5 := there_part hmw.thL (by omega) (by omega);refine wp_store hT.scl (by rw [eTm, h17]) rfl h15.one (there_part hth (by omega) (by omega)) ?_;obtain ⟨h5, h6⟩ := hmw.setL hk hy h15.one;refine hK _ _ _ (hk'.mono b4) ⟨spare lv 5, fun r hr => (hsp r hr).1, ?_⟩ h5 (h15.kept h6 ?_ (From.mono h6.size))
  · refine (hf'.mono (l' := ⟨e.lb, k * 5, k * 5 + 5⟩ :: spare lv 5) (fun r hr => Rng.in_self (List.mem_cons_of_mem _ hr))).trans h6 ?_;intro r hr; simp at hr; subst hr; exact Rng.in_self (by simp)
  intro r hr hF; simp at hr; subst hr; have := hF.1; have := hm.ls; simp only at *; omega
theorem app_num1 {kd : IntKind} {TE Ti : TypeId} (hT : TreeTys P TT TL) (hTE : scal P TE = true) (hi1 : intOf P TE kd = true) (hi2 : intOf P Ti .i64 = true) (hk64 : fits64 kd = true) {zt : Array Value} (hzt : zt.toList = zT)
    {t0 t1 t2 t3 t4 t5 t6 t7 t8 t9 t10 t11 t12 t13 t14 t15 t16 t17 t18 t19 t20 t21 : TypeId} {p0 p1 p2 p3 p4 p5 p6 p7 p8 p9 p10 p11 p12 p13 p14 p15 p16 p17 p18 p19 p20 p21 : String} {e0 e1 e2 e3 e4 e5 e6 e7 e8 e9 e10 e11 e12 e13 e14 e15 e16 e17 e18 e19 e20 e21 : Array Edge}
    (he : edgeOk 0 [e0, e1, e2, e3, e4, e5, e6, e7, e8, e9, e10, e11, e12, e13, e14, e15, e16, e17, e18, e19] [[], [0], [1], [2], [3], [], [5], [6], [7], [], [8, 9], [10], [11], [12], [4], [], [0, 1, 2, 3, 4, 5, 6, 7, 8, 9, 10, 11, 12, 13, 14, 15], [0, 1, 2, 3, 4, 5, 6, 7, 8, 9, 10, 11, 12, 13, 14, 15, 16], [0, 1, 2, 3, 4, 5, 6, 7, 8, 9, 10, 11, 12, 13, 14, 15, 16, 17], [0, 1, 2, 3, 4, 5, 6, 7, 8, 9, 10, 11, 12, 13, 14, 15, 16, 17, 18]] = true)
    (hS : fieldOf P S kf o = true) (hTS0 : sliceN P TS (Ty.size (.int kd)) = true) (hscl : scal P TS = true)
    (hb : (decide (sv < n) && decide (st < n) && decide (si < n) && decide (m ≤ n) && decide (n + 20 ≤ N)) = true) :
    AppStep P N sv st si m (.seq (Code.region id ⟨[oF n TT st 3 t0 p0 e0, oL (n + 1) TL n t1 p1 e1, ⟨some (n + 2), .indexAddr TL (.tmp (n + 1)) (.const (.int .i64 k)), t2, p2, e2, none⟩, oF (n + 3) TT (n + 2) 3 t3 p3 e3, oL (n + 4) TL (n + 3) t4 p4 e4,
      oM (n + 5) sv t5 p5 e5, ⟨some (n + 6), .nilCheck (.tmp (n + 5)), t6, p6, e6, none⟩, oF (n + 7) S (n + 6) kf t7 p7 e7, oL (n + 8) TS (n + 7) t8 p8 e8,
      oM (n + 9) si t9 p9 e9, ⟨some (n + 10), .indexAddr TS (.tmp (n + 8)) (.tmp (n + 9)), t10, p10, e10, none⟩, oL (n + 11) TE (n + 10) t11 p11 e11, ⟨some (n + 12), .convert TE Ti (.tmp (n + 11)), t12, p12, e12, none⟩, ⟨some (n + 13), .build TT #[(0, .tmp (n + 12))], t13, p13, e13, none⟩, ⟨some (n + 14), .call ⟨.builtin .len, #[.tmp (n + 4)], #[TL]⟩, t14, p14, e14, none⟩, ⟨some (n + 15), .buildSlice TL 1 #[(0, .const (.agg zt))], t15, p15, e15, none⟩, ⟨some (n + 16), .call ⟨.builtin .append, #[.tmp (n + 4), .tmp (n + 15)], #[TL, TL]⟩, t16, p16, e16, none⟩, ⟨some (n + 17), .indexAddr TL (.tmp (n + 1)) (.const (.int .i64 k)), t17, p17, e17, none⟩, oF (n + 18) TT (n + 17) 3 t18 p18 e18, oS TL (n + 18) (n + 16) t19 p19 e19]⟩ true)
      (Code.region id2 ⟨[⟨some (n + 19), .indexAddr TL (.tmp (n + 16)) (.tmp (n + 14)), t20, p20, e20, none⟩, oS TT (n + 19) (n + 13) t21 p21 e21]⟩ false)) k o (.int kd) tNum := by
  intro e K Q a w ts s1 b lv l x j y hN hsv hst hsi hm hy hlo hx hj hk hll hK;obtain ⟨et, es, hTS⟩ := sliceN_is hTS0;simp only [Bool.and_eq_true, decide_eq_true_eq] at hb;obtain ⟨⟨⟨⟨b1, b2⟩, b3⟩, b4⟩, b5⟩ := hb;obtain ⟨c, hc, hrc⟩ := hx.one rfl;obtain ⟨q, cap, rfl, hq, _, hel⟩ := arr_cell hrc;have hjl : j < x.items.length := (List.getElem?_eq_some_iff.1 hj).1;obtain ⟨qa, rfl⟩ : ∃ qa, q = some qa := by
    cases q with
    | some qa => exact ⟨qa, rfl⟩
    | none => cases x <;> simp [V.isNil] at hq; simp [V.items] at hjl
  obtain ⟨sb, so, rfl, hB, hels⟩ := hel _ rfl;obtain ⟨ce, hce, hcl, iy, rfl, rfl, hy1, hy2⟩ := hels j y hj;have hi : -9223372036854775808 ≤ iy ∧ iy ≤ 9223372036854775807 := by
    simp only [fits64, Bool.and_eq_true, decide_eq_true_eq] at hk64; exact ⟨by omega, by omega⟩
  have hBs := hm.bs sb hB;have hs01 : e.s0 ≤ s1 := hm.s0;have hs1 : s1 ≤ w.heap.size := hm.top;have hpb : e.pb < e.s0 := hm.ps;have hzero := hT.zero;have hloc := hlo;obtain ⟨flat0, ho0, hel0⟩ := hloc;have hlvq : ∃ lq lcap, lv = .slice lq l.length lcap := by
    obtain ⟨_, h | ⟨g', o', cap', _, h, _⟩⟩ := ho0
    · exact ⟨none, 0, by rw [h.1, h.2]⟩
    exact ⟨_, _, h⟩
  obtain ⟨lq, lcap, hlv0⟩ := hlvq;have hztc : (Value.agg zt).cells = zT.toArray := by show zt = zT.toArray; rw [← hzt]
  refine wp_seq_k fun K1 hK1 => ?_;refine wp_drawR (os := [oF n TT st 3 t0 p0 e0, oL (n + 1) TL n t1 p1 e1, ⟨some (n + 2), .indexAddr TL (.tmp (n + 1)) (.const (.int .i64 k)), t2, p2, e2, none⟩, oF (n + 3) TT (n + 2) 3 t3 p3 e3, oL (n + 4) TL (n + 3) t4 p4 e4,
      oM (n + 5) sv t5 p5 e5, ⟨some (n + 6), .nilCheck (.tmp (n + 5)), t6, p6, e6, none⟩, oF (n + 7) S (n + 6) kf t7 p7 e7, oL (n + 8) TS (n + 7) t8 p8 e8,
      oM (n + 9) si t9 p9 e9, ⟨some (n + 10), .indexAddr TS (.tmp (n + 8)) (.tmp (n + 9)), t10, p10, e10, none⟩, oL (n + 11) TE (n + 10) t11 p11 e11, ⟨some (n + 12), .convert TE Ti (.tmp (n + 11)), t12, p12, e12, none⟩, ⟨some (n + 13), .build TT #[(0, .tmp (n + 12))], t13, p13, e13, none⟩, ⟨some (n + 14), .call ⟨.builtin .len, #[.tmp (n + 4)], #[TL]⟩, t14, p14, e14, none⟩, ⟨some (n + 15), .buildSlice TL 1 #[(0, .const (.agg zt))], t15, p15, e15, none⟩])
    (rest := [⟨some (n + 16), .call ⟨.builtin .append, #[.tmp (n + 4), .tmp (n + 15)], #[TL, TL]⟩, t16, p16, e16, none⟩, ⟨some (n + 17), .indexAddr TL (.tmp (n + 1)) (.const (.int .i64 k)), t17, p17, e17, none⟩, oF (n + 18) TT (n + 17) 3 t18 p18 e18, oS TL (n + 18) (n + 16) t19 p19 e19])
    [spC [] (.pointer (some ⟨e.tb, 0 + 3, none⟩)), spC [0] (.slice (some ⟨e.lb, 0, none⟩) e.n e.n),
      spC [1] (.pointer (some ⟨e.lb, 0 + (k : Int).toNat * 5, none⟩)), spC [2] (.pointer (some ⟨e.lb, 0 + (k : Int).toNat * 5 + 3, none⟩)), spC [3] lv,
      spC [] (.pointer (some ⟨e.pb, e.po, none⟩)), spC [5] (.pointer (some ⟨e.pb, e.po, none⟩)), spC [6] (.pointer (some ⟨e.pb, e.po + o, none⟩)), spC [7] (.slice (some ⟨sb, so, none⟩) x.items.length cap),
      spC [] (.int .i64 j), spC [8, 9] (.pointer (some ⟨sb, so + (j : Int).toNat * Ty.size (.int kd), none⟩)), spC [10] (.int kd iy), spC [11] (.int .i64 iy), spR [12] (fun v w' => ∃ cs : List Value, v = .agg cs.toArray ∧ RepT w' (From w.heap.size w') cs (tNum (.n iy))),
      spC [4] (.int .i64 l.length), spR [] (fun v w' => ∃ (b : Nat), v = .slice (some ⟨b, 0, none⟩) 1 1 ∧ w.heap.size ≤ b ∧ w'.rangeAt b 0 zT)] n [] hT.mixed he (by simp [shape]) rfl
    (by simp [spC, spR]) (by simp; omega)
    ⟨lCc _ _ _, lCc _ _ _, lCc _ _ _, lCc _ _ _, lCc _ _ _, lCc _ _ _, lCc _ _ _, lCc _ _ _, lCc _ _ _, lCc _ _ _, lCc _ _ _, lCc _ _ _, lCc _ _ _, ?_, lCc _ _ _, ?_, trivial⟩ ?_ ?_
  · rintro v w1 w2 hf12 ⟨cs, h1, h2⟩;have hf12 : Fr [] w1 w2 := hf12;exact ⟨cs, h1, h2.kept hf12 (by simp) (From.mono hf12.size)⟩
  · rintro v w1 w2 hf12 ⟨b, h1, h2, h3⟩;have hf12 : Fr [] w1 w2 := hf12;exact ⟨b, h1, h2, hf12.range h3 .nil⟩
  · refine ⟨op_c fun a' w' hk' hf' hd' K' hK' => ?_, op_c fun a' w' hk' hf' hd' K' hK' => ?_, op_c fun a' w' hk' hf' hd' K' hK' => ?_, op_c fun a' w' hk' hf' hd' K' hK' => ?_, op_c fun a' w' hk' hf' hd' K' hK' => ?_,
      op_c fun a' w' hk' hf' hd' K' hK' => ?_, op_c fun a' w' hk' hf' hd' K' hK' => ?_, op_c fun a' w' hk' hf' hd' K' hK' => ?_, op_c fun a' w' hk' hf' hd' K' hK' => ?_, op_c fun a' w' hk' hf' hd' K' hK' => ?_,
      op_c fun a' w' hk' hf' hd' K' hK' => ?_, op_c fun a' w' hk' hf' hd' K' hK' => ?_, op_c fun a' w' hk' hf' hd' K' hK' => ?_, op_r fun a' w' hk' hf' hd' K' hK' => ?_, op_c fun a' w' hk' hf' hd' K' hK' => ?_, op_r fun a' w' hk' hf' hd' K' hK' => ?_, trivial⟩
    · exact wFa (hT.flat.field (by decide)) (by rw [eTm, hk'.get st b2, hst]) hK'
    · exact wp_load hT.scl (by rw [eTm]; exact hd'.c 0 (by simp) rfl) ((hm.kept hf' (by simp)).tree 3 _ rfl) hK'
    · exact wp_indexAddr hT.sl (by rw [eTm]; exact hd'.c 1 (by simp) rfl) rfl (by omega) (by omega) hK'
    · exact wFa (hT.flat.field (by decide)) (by rw [eTm]; exact hd'.c 2 (by simp) rfl) hK'
    · obtain ⟨es, h4, rfl, _⟩ := (hm.kept hf' (by simp)).els k _ hy;refine wp_load hT.scl (by rw [eTm]; exact hd'.c 3 (by simp) rfl) ?_ hK';have := h4 3 lv rfl
      simpa using this
    · rw [wp_move, eTm, hk'.get sv b1, hsv]; exact hK'
    · exact wp_nilCheck (by rw [eTm]; exact hd'.c 5 (by simp) rfl) hK'
    · exact wFa hS (by rw [eTm]; exact hd'.c 6 (by simp) rfl) hK'
    · exact wp_load hscl (by rw [eTm]; exact hd'.c 7 (by simp) rfl) (hf'.cell hc .nil) hK'
    · rw [wp_move, eTm, hk'.get si b3, hsi]; exact hK'
    · exact wp_indexAddr hTS (by rw [eTm]; exact hd'.c 8 (by simp) rfl) (by rw [eTm]; exact hd'.c 9 (by simp) rfl) (by omega) (by omega) hK'
    · exact wp_load hTE (by rw [eTm]; exact hd'.c 10 (by simp) rfl) (by have := (hf'.range hce .nil) 0 _ rfl; simpa [Ty.size] using this) hK'
    · refine wp_convert hi1 hi2 (by rw [eTm]; exact hd'.c 11 (by simp) rfl) ?_;rw [wrap64 hi]; exact hK'
    · exact wp_build1 hT.flat (by decide) (by rw [eTm]; exact hd'.c 12 (by simp) rfl) rfl (hK' _ _ ⟨_, rfl, repT_num hi⟩ (Fr.refl _ _))
    · have hlv : get a' (n + 4) = lv := hd'.c 4 (by simp) rfl;exact wp_len hT.sl (by rw [eTm, hlv, hlv0]) hK'
    have hwf := hf'.size;refine wp_slice1 hT.sl hzero rfl (by omega) (cs := zT) (by rw [eCo, hztc]) rfl fun _ => ?_;have hal := Fr.alloc [] w' (.cells zT.toArray TT);exact hK' _ _ ⟨_, rfl, hwf, range_new w' zT.toArray TT (0, 0)⟩ hal
  intro a' w' hk' hf' hd';obtain ⟨cs, hv11, hr11⟩ := hd'.at (d := 13) (by simp) rfl;obtain ⟨bb, hv13, hbb, hz13⟩ := hd'.at (d := 15) (by simp) rfl;have hlv : get a' (n + 4) = lv := hd'.c (nd' := [3]) 4 (by simp) rfl;have g1 : get a' (n + 1) = .slice (some ⟨e.lb, 0, none⟩) e.n e.n := hd'.c (nd' := [0]) 1 (by simp) rfl;have g12 : get a' (n + 14) = .int .i64 l.length := hd'.c (nd' := [4]) 14 (by simp) rfl;have hsz := hk'.size;have hwf := hf'.size;have hmw := hm.kept hf' (by simp);have hlo' := hlo.kept hf' (by simp) (A' := From s1 w') (From.mono hwf);have hloc := hlo';obtain ⟨flat, ho1, ho2⟩ := hloc;have hlb : ∀ b, blk lv = some b → b < w.heap.size := fun b hb => (hlo.blk_in hb).2;refine wC (wp_append (A := From s1 w') (z := zT) hT.sl hzero rfl (by rw [eTm, hlv]) (by rw [eTm, hv13]) ho1 (by omega) (news := zT) rfl hz13 (repT_zero (w := w') (A := fun _ => False)).ones (by omega) (by simp only [maxLen]; omega) ?_);intro v' w2 hf2 ho' hbk;have hf2s := hf2.size;have hsp : ∀ r ∈ spare lv 5, From s1 w' r.b := hlo'.spare_in;have hsp2 : ∀ r ∈ spare lv 5, r.b < w.heap.size := fun r hr => (hlo.spare_in r hr).2;have hlo2 : LOwn w2 (From s1 w2) v' (l ++ [.zero]) := by
    refine LOwn.app (A' := From s1 w2) ho2 ho1 hf2 ?_ hbk (fun b hb => ⟨From.mono hf2s b hb, hb.2⟩) (C := fun _ => False) repT_zero (fun _ h => h.elim);obtain ⟨ha, hb⟩ := ho';refine ⟨ha, hb.imp (fun h => h) ?_⟩;rintro ⟨g', o', cap', hg', hrest⟩;refine ⟨g', o', cap', ?_, hrest⟩
    rcases hg' with hg' | hg'
    · exact From.mono hf2s _ hg'
    exact ⟨by have := hg'.1; omega, hg'.2⟩
  have hr2 : RepT w2 (fun b => From w.heap.size w2 b ∧ blk v' ≠ some b) cs (tNum (.n iy)) := by
    refine hr11.kept hf2 (fun r hr hF => by have := hsp2 r hr; have := hF.1; omega) (fun b hb => ⟨From.mono hf2s b hb, fun hbl => ?_⟩)
    rcases hbk with h | h
    · rw [h] at hbl; have := hlb b hbl; have := hb.1; omega
    rw [h] at hbl; simp at hbl; have := hb.2; omega
  have hm2 := hmw.kept hf2 (fun r hr => (hsp r hr).1);rw [wCo];have hn15 : n + 16 < a'.tmps.size := by omega
  refine wp_indexAddr hT.sl (by rw [eTm, gR, g1]) rfl (by omega) (by omega) ?_;refine wC (wFa (hT.flat.field (k := 3) (by decide)) (by rw [eTm, gQ]) ?_);rw [wCo];have hth : w2.there e.lb (k * 5) 5 := there_part hm2.thL (by omega) (by omega);refine wp_store hT.scl (b := e.lb) (o := k * 5 + 3) (v := v') (by rw [eTm, gQ]; simp) (by rw [eTm, gR, gR, gPs hn15]) hlo2.one (there_part hth (by omega) (by omega)) ?_;obtain ⟨h5, h6⟩ := hm2.setL hk hy hlo2.one;have h6s := h6.size;generalize w2.setCell ⟨e.lb, k * 5 + 3, none⟩ v' = w3 at h5 h6 h6s ⊢;generalize ha3 : ((a'.put (some (n + 16)) v').put (some (n + 17)) (.pointer (some ⟨e.lb, 0 + (k : Int).toNat * 5, none⟩))).put (some (n + 18)) (.pointer (some ⟨e.lb, 0 + (k : Int).toNat * 5 + 3, none⟩)) = a3;have k3 : Kept (n + 16) a' a3 := by subst ha3; exact ((Kept.put0 (Nat.le_refl _) _).put (by omega) _).put (by omega) _
  have g14 : get a3 (n + 16) = v' := by subst ha3; rw [gR, gR, gPs hn15]
  have hlbs : e.lb < s1 := by have := hm.ls; omega
  have hnlb : ∀ r ∈ [(⟨e.lb, k * 5, k * 5 + 5⟩ : Rng)], ∀ s, s1 ≤ s → ¬ s ≤ r.b := by
    intro r hr s hs; simp at hr; subst hr; simp only; omega
  have hlo3 := hlo2.kept h6 (A' := From s1 w3) (fun r hr hF => hnlb r hr s1 (Nat.le_refl _) hF.1) (From.mono h6s);have hr3 : RepT w3 (fun b => From w.heap.size w3 b ∧ blk v' ≠ some b) cs (tNum (.n iy)) := hr2.kept h6 (fun r hr hF => hnlb r hr _ hs1 hF.1.1) (fun b hb => ⟨From.mono h6s b hb.1, hb.2⟩);rw [wpl_nil];refine hK1 (a3.put none undef) w3 ?_;rw [pNo];obtain ⟨g', o', cap', hv', hg', hth', hlo4⟩ := hlo3.setLast hr3 (fun b hb => ⟨⟨by have := hb.1.1; omega, hb.1.2⟩, hb.2⟩);have hs3 := k3.size;refine wp_reg ?_;refine wC (wp_indexAddr (k1 := .i64) (i := l.length) hT.sl (by rw [eTm, g14, hv']) (by rw [eTm, k3.get (n + 14) (by omega), g12]) (by omega) (by omega) ?_);rw [wCo];have hcl5 := hr3.length;refine wp_storeFlat hT.flat (cs := cs) (b := g') (o := o' + l.length * 5) (by rw [hcl5]; rfl) (by rw [eTm, gQ]; simp) (by rw [eTm, gR, k3.get (n + 13) (by omega), hv11]) hr3.ones (by rw [hcl5]; exact hth') ?_;have hf4 := Fr.sets g' cs w3 (o' + l.length * 5);rw [hcl5] at hf4;have hgs : s1 ≤ g' := hg'.1;have hsz4 := hf4.size;refine hK _ _ v' ?_ ⟨spare lv 5 ++ [⟨g', o' + l.length * 5, o' + l.length * 5 + 5⟩], ?_, ?_⟩ (h5.kept hf4 (by intro r hr; simp at hr; subst hr; exact hgs)) (hlo4.kept (Fr.refl [] _) (by simp) (From.mono hsz4))
  · exact ((hk'.mono b4).trans (k3.mono (by omega))).trans ((Kept.put0 (by omega) _))
  · intro r hr
    rcases List.mem_append.1 hr with h | h
    · exact (hsp r h).1
    simp at h; subst h; exact hgs
  have f1 : Fr (⟨e.lb, k * 5, k * 5 + 5⟩ :: (spare lv 5 ++ [⟨g', o' + l.length * 5, o' + l.length * 5 + 5⟩])) w w2 := (hf'.nil (l := _)).tr (hf2.mono (fun r hr => Rng.in_self (List.mem_cons_of_mem _ (List.mem_append_left _ hr))));have f2 : Fr (⟨e.lb, k * 5, k * 5 + 5⟩ :: (spare lv 5 ++ [⟨g', o' + l.length * 5, o' + l.length * 5 + 5⟩])) w w3 := f1.trans h6 (by intro r hr; simp at hr; subst hr; exact Rng.in_self (by simp));refine f2.trans hf4 ?_;intro r hr; simp at hr; subst hr; exact Rng.in_self (by simp)
end Go.Kq
