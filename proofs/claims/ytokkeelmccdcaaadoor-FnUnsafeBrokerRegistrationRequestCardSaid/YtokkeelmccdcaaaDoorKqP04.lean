/- A part of the library: rules of reasoning about the program's operations and what its shared functions do. -/
import Derived.Test.YtokkeelmccdcaaaDoorKqP03
import Derived.Laws.IdiomCopy
import Derived.Lib.SortBridge
import Derived.Sort.LotA
import Derived.Shelf.GgSortFunc.Whole
import Derived.Shelf.GgSortFunc.Tiny
import Derived.Test.YtokkeelmccdcaaaDoorKqP01
import Derived.Below
import Derived.ChangeSame
import Derived.ChangeSlices
import Derived.ChangeArms
import Derived.LaidLaws
import Derived.OpenShut
import Derived.WideKeyArgs
import Derived.WalkKit
import Derived.ProofKit
import Derived.Test.YtokkeelmccdcaaaDoorKqP02
set_option linter.unusedVariables false
set_option linter.unusedSimpArgs false
namespace Go.Kq
open Go Go.Proofs
theorem text_m {P : Program} {f : FuncId} {fn : Func} {T9 T22 T26 T116 : TypeId} {i0 i1 i2 i3 : Nat}
    {t0 t1 t2 t3 t4 t5 t6 t7 t8 t9 t10 : TypeId} {p0 p1 p2 p3 p4 p5 p6 p7 p8 p9 p10 : String} {e0 e1 e2 e3 e4 e5 e6 e7 e8 e9 e10 : Array Edge}
    (hf : P.funcs[f]? = some fn) (hname : (fn.name == "runtime.NumGoroutine") = false) (hres : fn.results = #[.cell 2 T26]) (hN : fn.ntmps = 11)
    (hbody : fn.body = some (.seq (Code.region i0 ⟨[⟨some 2, .alloc T26, t0, p0, e0, none⟩]⟩ false) (.seq (.seq (Code.region i1 ⟨[oM 3 0 t1 p1 e1, ⟨some 4, .binOp .eql T116 (.tmp 3) (.const (.pointer none)) T116, t2, p2, e2, none⟩]⟩ false) (.cond (.tmp 4) (.seq (Code.region i2 ⟨[⟨some 5, .build T26 #[(2, .const (.bool true))], t3, p3, e3, none⟩,
    oS T26 2 5 t4 p4 e4]⟩ false) .ret) .skip)) (.seq (Code.region i3 ⟨[oM 6 0 t5 p5 e5, ⟨some 7, .nilCheck (.tmp 6), t6, p6, e6, none⟩,
    oL 8 T9 7 t7 p7 e7, ⟨some 9, .convert T9 T22 (.tmp 8), t8, p8, e8, none⟩, ⟨some 10, .build T26 #[(1, .tmp 9)], t9, p9, e9, none⟩,
    oS T26 2 10 t10 p10 e10]⟩ false) .ret))))
    (hT : Flat P T26 zT) (h116 : ptrTy P T116 = true) (h9 : strTy P T9 = true) (h9s : scal P T9 = true) (h22 : byteSl P T22 = true) : FnT P f .pstr tText := by
  refine ⟨enters_of hf hname hbody, ?_⟩;intro w B v x hx;obtain ⟨q, rfl⟩ : ∃ q, v = .pointer q := by
    rcases hx with ⟨h, _⟩ | ⟨b, o, s, _, h, _⟩ <;> (simp at h; exact ⟨_, h⟩)
  refine calls_of_wp hf hbody ?_;generalize ha0 : ({ tmps := #[Value.pointer q] ++ Array.replicate (fn.ntmps - #[Value.pointer q].size) undef, defers := [] } : Act) = a0;have hsz : a0.tmps.size = 11 := by subst ha0; simp [hN]
  have hd0 : a0.defers = [] := by subst ha0; rfl
  have g0 : get a0 0 = .pointer q := by subst ha0; exact gAr rfl
  refine wT fun K1 hK1 => ?_;refine wC (wp_alloc hT.zero ?_);rw [wpl_nil];have f1 := Fr.alloc [] w (.cells (Value.agg zT.toArray).cells T26);have th1 : (w.alloc (.cells (Value.agg zT.toArray).cells T26)).there w.heap.size 0 5 := there_new w zT.toArray T26;have sz1 := size_alloc w (.cells (Value.agg zT.toArray).cells T26);generalize w.alloc (.cells (Value.agg zT.toArray).cells T26) = w1 at f1 th1 sz1 ⊢;have k1 : Kept 2 a0 (a0.put (some 2) (.pointer (some ⟨w.heap.size, 0, none⟩))) := Kept.put0 (by omega) _;have q2 : get (a0.put (some 2) (.pointer (some ⟨w.heap.size, 0, none⟩))) 2 = .pointer (some ⟨w.heap.size, 0, none⟩) := gQ;generalize a0.put (some 2) (.pointer (some ⟨w.heap.size, 0, none⟩)) = a1 at k1 q2 ⊢;have hz1 := k1.size;refine hK1 a1 w1 (tUp ?_);refine then_id (wp_seq_k fun K2 hK2 => ?_);refine wS fun K3 hK3 => ?_;rw [wCo, wp_move, eTm, k1.get 0 (by omega), g0, wCo];refine wp_eqlPtrNil h116 (q := q) (by rw [eTm, gQ]) ?_;rw [wpl_nil];have k2 : Kept 3 a1 ((a1.put (some 3) (.pointer q)).put (some 4) (.bool q.isNone)) := (Kept.put0 (by omega) _).put (by omega) _;have q4 : get ((a1.put (some 3) (.pointer q)).put (some 4) (.bool q.isNone)) 4 = .bool q.isNone := gQ;generalize (a1.put (some 3) (.pointer q)).put (some 4) (.bool q.isNone) = a2 at k2 q4 ⊢;have hz2 := k2.size;have r2 : get a2 2 = .pointer (some ⟨w.heap.size, 0, none⟩) := by rw [k2.get 2 (by omega), q2]
  have hd2 : a2.defers = [] := by rw [k2.defers, k1.defers, hd0]
  refine hK3 a2 w1 ?_;refine wp_cond_split (t := q.isNone) (by rw [eTm, q4]) (fun hq => ?_) fun hq => wp_skip (hK2 a2 w1 (tUp ?_))
  · obtain rfl : q = none := by simpa using hq
    obtain rfl : x = .nil := by
      rcases hx with ⟨_, h⟩ | ⟨b, o, s, _, h, _⟩
      · exact h
      simp at h
    refine wS fun K4 hK4 => ?_;refine wC (wp_build1 hT (k := 2) (v := .bool true) (by decide) rfl rfl ?_);refine wC (wp_storeFlat hT (cs := zT.set 2 (.bool true)) (b := w.heap.size) (o := 0) rfl (by rw [eTm, gR, r2]) (by rw [eTm, gQ]) (by simp [zT, Value.oneCell']) th1 ?_);rw [pNo, wpl_nil];have f2 := Fr.sets w.heap.size (zT.set 2 (.bool true)) w1 0;have rg := World.rangeAt_setCells_same w1 w.heap.size 0 (zT.set 2 (.bool true)) th1;generalize w1.setCells w.heap.size 0 (zT.set 2 (.bool true)) = w2 at f2 rg ⊢;have sz2 := f2.size;refine hK4 _ w2 (wp_ret ?_);refine ⟨(dZ hd2), _, results_cell hres hT (by rfl) (by rw [gR, r2]) rg, ⟨_, rfl, ?_, ?_⟩⟩
    · exact f1.trans f2 (by intro r hr; simp at hr; subst hr; exact .inl (Nat.le_refl _))
    exact RepT.nil (by omega) .nil (.inl ⟨.inl rfl, rfl⟩)
  obtain ⟨qa, rfl⟩ : ∃ qa, q = some qa := by cases q with | none => simp at hq | some qa => exact ⟨qa, rfl⟩
  obtain ⟨b, o, s, hB, hqa, hcs, rfl, hsl⟩ : ∃ b o, ∃ s : ByteArray, B b ∧ qa = ⟨b, o, none⟩ ∧ w.cell? ⟨b, o, none⟩ = some (.string s) ∧ x = .s s.data.toList ∧ s.data.toList.length ≤ 4294967296 := by
    rcases hx with ⟨h, _⟩ | ⟨b, o, s, h1, h2, h3, h4, h5⟩
    · simp at h
    simp at h2; exact ⟨b, o, s, h1, h2, h3, h4, h5⟩
  subst hqa;refine wT fun K4 hK4 => ?_;rw [wCo, wp_move, eTm, k2.get 0 (by omega), k1.get 0 (by omega), g0, wCo];refine wp_nilCheck (q := ⟨b, o, none⟩) (by rw [eTm, gQ]) ?_;refine wC (wp_load h9s (b := b) (o := o) (v := .string s) (by rw [eTm, gQ]) (f1.cell hcs .nil) ?_);refine wC (wp_toBytes hsl h9 h22 (by rw [eTm, gQ]) ?_);intro y w2 f2 hy;have sz2 := f2.size;refine wC (wp_build1 hT (k := 1) (v := y) (by decide) (by rw [eTm, gQ]) hy.one ?_);rw [wCo];have th2 : w2.there w.heap.size 0 5 := f2.there th1;refine wp_storeFlat hT (cs := zT.set 1 y) (b := w.heap.size) (o := 0) rfl (by rw [eTm, gR, gR, gR, gR, gR, r2]) (by rw [eTm, gQ]) (by have := hy.one; simp [zT, Value.oneCell']; exact this) th2 ?_;rw [pNo, wpl_nil];have f3 := Fr.sets w.heap.size (zT.set 1 y) w2 0;have rg := World.rangeAt_setCells_same w2 w.heap.size 0 (zT.set 1 y) th2;generalize w2.setCells w.heap.size 0 (zT.set 1 y) = w3 at f3 rg ⊢;have sz3 := f3.size;refine hK4 _ w3 (wp_ret ?_);refine ⟨(by simp only [dPu]; exact hd2), _, results_cell hres hT (by rfl) (by rw [gR, gR, gR, gR, gR, r2]) rg, ⟨_, rfl, ?_, ?_⟩⟩
  · exact (f1.tr f2).trans f3 (by intro r hr; simp at hr; subst hr; exact .inl (Nat.le_refl _))
  exact repT_str (hy.kept f3 (by intro r hr hF; simp at hr; subst hr; have := hF.1; simp only at this; omega) (fun b hb => ⟨by have := hb.1; omega, by have := hb.2; omega⟩))
theorem bool_m {P : Program} {f : FuncId} {fn : Func} {T26 : TypeId} {i0 i1 i2 i3 : Nat}
    {t0 t1 t2 t3 t4 t5 : TypeId} {p0 p1 p2 p3 p4 p5 : String} {e0 e1 e2 e3 e4 e5 : Array Edge}
    (hf : P.funcs[f]? = some fn) (hname : (fn.name == "runtime.NumGoroutine") = false) (hres : fn.results = #[.cell 2 T26]) (hN : fn.ntmps = 6)
    (hbody : fn.body = some (.seq (Code.region i0 ⟨[⟨some 2, .alloc T26, t0, p0, e0, none⟩]⟩ false) (.seq (.seq (Code.region i1 ⟨[oM 3 0 t1 p1 e1]⟩ false) (.cond (.tmp 3) (.seq (Code.region i2 ⟨[⟨some 4, .build T26 #[(0, .const (.int .i64 1))], t2, p2, e2, none⟩,
    oS T26 2 4 t3 p3 e3]⟩ false) .ret) .skip)) (.seq (Code.region i3 ⟨[⟨some 5, .build T26 #[], t4, p4, e4, none⟩,
    oS T26 2 5 t5 p5 e5]⟩ false) .ret))))
    (hT : Flat P T26 zT) : FnT P f .bool tBool := by
  refine ⟨enters_of hf hname hbody, ?_⟩;intro w B v x hx;obtain ⟨t, hv, rfl⟩ := hx;simp at hv
  subst hv;refine calls_of_wp hf hbody ?_;generalize ha0 : ({ tmps := #[Value.bool t] ++ Array.replicate (fn.ntmps - #[Value.bool t].size) undef, defers := [] } : Act) = a0;have hsz : a0.tmps.size = 6 := by subst ha0; simp [hN]
  have hd0 : a0.defers = [] := by subst ha0; rfl
  have g0 : get a0 0 = .bool t := by subst ha0; exact gAr rfl
  refine wT fun K1 hK1 => ?_;refine wC (wp_alloc hT.zero ?_);rw [wpl_nil];have f1 := Fr.alloc [] w (.cells (Value.agg zT.toArray).cells T26);have th1 : (w.alloc (.cells (Value.agg zT.toArray).cells T26)).there w.heap.size 0 5 := there_new w zT.toArray T26;have sz1 := size_alloc w (.cells (Value.agg zT.toArray).cells T26);generalize w.alloc (.cells (Value.agg zT.toArray).cells T26) = w1 at f1 th1 sz1 ⊢;have k1 : Kept 2 a0 (a0.put (some 2) (.pointer (some ⟨w.heap.size, 0, none⟩))) := Kept.put0 (by omega) _;have q2 : get (a0.put (some 2) (.pointer (some ⟨w.heap.size, 0, none⟩))) 2 = .pointer (some ⟨w.heap.size, 0, none⟩) := gQ;generalize a0.put (some 2) (.pointer (some ⟨w.heap.size, 0, none⟩)) = a1 at k1 q2 ⊢;have hz1 := k1.size;refine hK1 a1 w1 (tUp ?_);refine then_id (wp_seq_k fun K2 hK2 => ?_);refine wS fun K3 hK3 => ?_;rw [wCo, wp_move, eTm, k1.get 0 (by omega), g0, wpl_nil];have k2 : Kept 3 a1 (a1.put (some 3) (.bool t)) := Kept.put0 (by omega) _;have q3 : get (a1.put (some 3) (.bool t)) 3 = .bool t := gQ;generalize a1.put (some 3) (.bool t) = a2 at k2 q3 ⊢;have hz2 := k2.size;have r2 : get a2 2 = .pointer (some ⟨w.heap.size, 0, none⟩) := by rw [k2.get 2 (by omega), q2]
  have hd2 : a2.defers = [] := by rw [k2.defers, k1.defers, hd0]
  refine hK3 a2 w1 ?_;refine wp_cond_split (t := t) (by rw [eTm, q3]) (fun hq => ?_) fun hq => wp_skip (hK2 a2 w1 (tUp ?_))
  · subst hq;refine wS fun K4 hK4 => ?_;refine wC (wp_build1 hT (k := 0) (v := .int .i64 1) (by decide) rfl rfl ?_);refine wC (wp_storeFlat hT (cs := zT.set 0 (.int .i64 1)) (b := w.heap.size) (o := 0) rfl (by rw [eTm, gR, r2]) (by rw [eTm, gQ]) (by simp [zT, Value.oneCell']) th1 ?_);rw [pNo, wpl_nil];have f2 := Fr.sets w.heap.size (zT.set 0 (.int .i64 1)) w1 0;have rg := World.rangeAt_setCells_same w1 w.heap.size 0 (zT.set 0 (.int .i64 1)) th1;generalize w1.setCells w.heap.size 0 (zT.set 0 (.int .i64 1)) = w2 at f2 rg ⊢;refine hK4 _ w2 (wp_ret ?_);refine ⟨(dZ hd2), _, results_cell hres hT (by rfl) (by rw [gR, r2]) rg, ⟨_, rfl, ?_, ?_⟩⟩
    · exact f1.trans f2 (by intro r hr; simp at hr; subst hr; exact .inl (Nat.le_refl _))
    exact repT_num (by omega)
  obtain rfl : t = false := by simpa using hq
  refine wT fun K4 hK4 => ?_;refine wC (wp_build0 hT ?_);refine wC (wp_storeFlat hT (cs := zT) (b := w.heap.size) (o := 0) rfl (by rw [eTm, gR, r2]) (by rw [eTm, gQ]) (by simp [zT, Value.oneCell']) th1 ?_);rw [pNo, wpl_nil];have f2 := Fr.sets w.heap.size zT w1 0;have rg := World.rangeAt_setCells_same w1 w.heap.size 0 zT th1;generalize w1.setCells w.heap.size 0 zT = w2 at f2 rg ⊢;refine hK4 _ w2 (wp_ret ?_);refine ⟨(dZ hd2), _, results_cell hres hT (by rfl) (by rw [gR, r2]) rg, ⟨_, rfl, ?_, ?_⟩⟩
  · exact f1.trans f2 (by intro r hr; simp at hr; subst hr; exact .inl (Nat.le_refl _))
  exact repT_zero
end Go.Kq

namespace Go.Kq
open Go Go.Proofs
def uuid0 : List UInt8 := List.replicate 16 0
def gUuid (st : RSt) : V × RSt := (.s ((rdSpan 16 st).1.getD uuid0), (rdSpan 16 st).2)
theorem uuid_len (st : RSt) : ((rdSpan 16 st).1.getD uuid0).length = 16 ∧ ∀ y, (rdSpan 16 st).1 = some y → y.length = 16 := by
  unfold rdSpan
  split
  · simp [uuid0]
  rename_i h
  split
  · simp [uuid0]
  simp; omega
def zU : List Value := octets uuid0
def rowB (P : Program) (t : TypeId) (z : List Value) : Bool :=
  (match P.info? t with | some i => (i.size == z.length) && (match i.zero with | some (.agg c) => valsEq c.toList z | _ => false) | none => false) &&
  (match P.underlying t with | some (.array n e) => (n == z.length) && szIs P e 1 | _ => false)
structure RowT (P : Program) (t : TypeId) (z : List Value) : Prop where
  zero : zeroOf P t (.agg z.toArray)
  size : (P.info? t).map (·.size) = some z.length
  row : ∃ e i, P.underlying t = some (.array z.length e) ∧ P.info? e = some i ∧ i.size = 1
theorem rowB_is {P : Program} {t : TypeId} {z : List Value} (h : rowB P t z = true) : RowT P t z := by
  simp only [rowB, Bool.and_eq_true] at h;obtain ⟨h1, h2⟩ := h;have h3 : zeroOf P t (.agg z.toArray) ∧ (P.info? t).map (·.size) = some z.length := by
    cases hi : P.info? t with
    | none => simp [hi] at h1
    | some i =>
      simp only [hi, Bool.and_eq_true, beq_iff_eq] at h1
      cases hz : i.zero with
      | none => simp [hz] at h1
      | some v =>
        simp only [hz] at h1;obtain ⟨h0, h1⟩ := h1
        cases v <;> simp only [] at h1 <;> first | (simp at h1; done) | skip
        rename_i c
        have := valsEq_eq h1;refine ⟨⟨i, hi, ?_⟩, by simp [h0]⟩;rw [hz, ← this]
  refine ⟨h3.1, h3.2, ?_⟩
  cases hu : P.underlying t with
  | none => simp [hu] at h2
  | some d =>
    cases d <;> simp only [hu] at h2 <;> first | (simp at h2; done) | skip
    rename_i n e
    simp only [Bool.and_eq_true, beq_iff_eq] at h2;obtain ⟨i, h4, h5⟩ := szIs_eq h2.2;exact ⟨e, i, by rw [h2.1], h4, h5⟩
section
variable {P : Program} {a : Act} {w : World} {K : Act → World → Prop} {Q : Exit → Act → World → Prop} {d : Option Tmp} {t : TypeId} {p : String} {af : Array Edge} {g : Option (Nat × Bool)}
theorem wp_loadRow {s : TypeId} {z : List Value} {x : Operand} {b o : Nat} {cs : List Value} (h : RowT P s z) (hl : cs.length = z.length) (hx : a.eval x = .pointer (some ⟨b, o, none⟩)) (hc : w.rangeAt b o cs)
    (k : K (a.put d (.agg cs.toArray)) w) : OW P ⟨d, .load s x, t, p, af, g⟩ a w K Q := by
  obtain ⟨_, hs, e, i, hu, _⟩ := h;exact ⟨wp_load_mid s x rfl b o hx cs _ hc hu rfl (by rw [hs, hl]) k⟩
theorem wp_storeRow {s : TypeId} {z : List Value} {x y : Operand} {b o : Nat} {cs : List Value} (h : RowT P s z) (hl : cs.length = z.length) (hx : a.eval x = .pointer (some ⟨b, o, none⟩)) (hy : a.eval y = .agg cs.toArray)
    (h1 : ∀ u ∈ cs, u.oneCell' = true) (ht : w.there b o cs.length) (k : K (a.put d undef) (w.setCells b o cs)) : OW P ⟨d, .store s x y, t, p, af, g⟩ a w K Q := by
  constructor
  refine wp_store_mid s x y rfl b o cs.toArray hx hy (by simpa using ht) (by rw [h.size, ← hl]; simp) (by simpa using h1) ?_
  simpa using k
theorem wp_sliceRow {s : TypeId} {z : List Value} {x : Operand} {b o : Nat} (h : RowT P s z) (hx : a.eval x = .pointer (some ⟨b, o, none⟩)) (hz : 0 < z.length)
    (k : K (a.put d (.slice (some ⟨b, o, none⟩) z.length z.length)) w) : OW P ⟨d, .slice s x none none none, t, p, af, g⟩ a w K Q := by
  obtain ⟨_, hs, e, i, hu, hi, hs1⟩ := h;have hz0 : z.length ≠ 0 := by omega
  refine wp_val (v := .slice (some ⟨b, o, none⟩) z.length z.length) (w' := w) ?_ k;simp [execOp, hx, Instr.sliceAt, Instr.sureAddr, Instr.sliceBounds, run_underlying hu, sizeOf, typeInfo, hi, hs1, hz0, add_addr]
end
theorem results_row {P : Program} {fn : Func} {t : Nat} {T : TypeId} {z : List Value} {a : Act} {w : World} {b o : Nat} {cs : List Value} (h : fn.results = #[.cell t T]) (hT : RowT P T z) (hl : cs.length = z.length) (ha : get a t = .pointer (some ⟨b, o, none⟩)) (hc : w.rangeAt b o cs) :
    (results fn a.tmps).run P w = .ok (.agg cs.toArray) w := by
  obtain ⟨_, hs, e, i, hu, _⟩ := hT;have hr := run_loadVar_mid (P := P) w b o T cs _ hc hu rfl (by rw [hs, hl]);have ha' : a.tmps[t]?.getD undef = .pointer (some ⟨b, o, none⟩) := by rw [← Array.getD_eq_getD_getElem?]; exact ha
  simp only [results, h];simp [ha', asAddr, hr]
theorem RW.kept2 {w w' : World} {rb sb : Nat} {st : RSt} {l : List Rng} (h : RW w rb sb st) (hf : Fr l w w') (hl : ∀ r ∈ l, r.b ≠ rb) (hs : st.xs ≠ [] → ∀ r ∈ l, r.b ≠ sb) : RW w' rb sb st := by
  obtain ⟨h1, h2, sv, h3, h4⟩ := h;refine ⟨h1, hf.there h2, sv, hf.range h3 (fun r hr => .inl (hl r hr)), ?_⟩
  rcases h4 with h4 | ⟨h4, o, cap, h5, h6, h7⟩
  · exact .inl h4
  refine .inr ⟨h4, o, cap, h5, h6, ?_⟩
  by_cases hx : st.xs = []
  · rw [hx]; intro j u hj; simp [octets] at hj
  exact hf.range h7 (fun r hr => .inl (hs hx r hr))
structure UuidM (P : Program) (f : FuncId) : Prop where
  enters : Enters P f
  call : ∀ w rb sb st, RW w rb sb st → Calls P f #[.pointer (some ⟨rb, 0, none⟩)] w fun e w' => e = .returned (.agg (octets ((rdSpan 16 st).1.getD uuid0)).toArray) ∧ RW w' rb sb (gUuid st).2 ∧ Fr [⟨rb, 0, 2⟩] w w'
theorem octets_one (l : List UInt8) : ∀ u ∈ octets l, u.oneCell' = true := by intro u hu; simp [octets] at hu; obtain ⟨c, _, rfl⟩ := hu; rfl
set_option maxRecDepth 10000 in
theorem uuid_m {P : Program} {f : FuncId} {fn : Func} {et T22 T141 : TypeId} {f279 : FuncId} {a0 : Array TypeId} {i0 i1 i2 i3 : Nat}
    {t0 t1 t2 t3 t4 t5 t6 t7 : TypeId} {p0 p1 p2 p3 p4 p5 p6 p7 : String} {e0 e1 e2 e3 e4 e5 e6 e7 : Array Edge}
    (hf : P.funcs[f]? = some fn) (hname : (fn.name == "runtime.NumGoroutine") = false) (hres : fn.results = #[.cell 2 T141]) (hN : fn.ntmps = 9)
    (hbody : fn.body = some (.seq (Code.region i0 ⟨[⟨some 2, .alloc T141, t0, p0, e0, none⟩]⟩ false) (.seq (Code.region i1 ⟨[⟨some 3, .alloc T141, t1, p1, e1, none⟩]⟩ false) (.seq (Code.region i2 ⟨[⟨some 4, .slice T141 (.tmp 3) none none none, t2, p2, e2, none⟩,
    oM 5 0 t3 p3 e3,
    oC 6 f279 #[(.tmp 5), (.const (.int .i64 16))] a0 t4 p4 e4, ⟨some 7, .call ⟨.builtin .copy, #[(.tmp 4), (.tmp 6)], #[T22, T22]⟩, t5, p5, e5, none⟩]⟩ true) (.seq (Code.region i3 ⟨[oL 8 T141 3 t6 p6 e6,
    oS T141 2 8 t7 p7 e7]⟩ false) .ret)))))
    (he : edgeOk 0 [e2, e3, e4, e5] [[], [], [1], [0, 1, 2]] = true) (hm : P.follows .mixedOrders = true)
    (hT : RowT P T141 zU) (h22 : sliceOf P T22 et 1 1 = true) (hsp : SpanM P f279) : UuidM P f := by
  refine ⟨enters_of hf hname hbody, ?_⟩;intro w rb sb st h;have hul := uuid_len st;have hrb : rb < w.heap.size := by obtain ⟨q, cap, c0, _⟩ := h.slice; exact lt_of_cell c0
  refine calls_of_wp hf hbody ?_;generalize ha0 : ({ tmps := #[Value.pointer (some ⟨rb, 0, none⟩)] ++ Array.replicate (fn.ntmps - #[Value.pointer (some ⟨rb, 0, none⟩)].size) undef, defers := [] } : Act) = b0;have hsz : b0.tmps.size = 9 := by subst ha0; simp [hN]
  have hd0 : b0.defers = [] := by subst ha0; rfl
  have g0 : get b0 0 = .pointer (some ⟨rb, 0, none⟩) := by subst ha0; exact gAr rfl
  refine wT fun K1 hK1 => ?_;refine wC (wp_alloc hT.zero ?_);rw [wpl_nil];have f1 := Fr.alloc [] w (.cells (Value.agg zU.toArray).cells T141);have th1 : (w.alloc (.cells (Value.agg zU.toArray).cells T141)).there w.heap.size 0 16 := there_new w zU.toArray T141;have sz1 := size_alloc w (.cells (Value.agg zU.toArray).cells T141);generalize w.alloc (.cells (Value.agg zU.toArray).cells T141) = w1 at f1 th1 sz1 ⊢;have k1 : Kept 2 b0 (b0.put (some 2) (.pointer (some ⟨w.heap.size, 0, none⟩))) := Kept.put0 (by omega) _;have q2 : get (b0.put (some 2) (.pointer (some ⟨w.heap.size, 0, none⟩))) 2 = .pointer (some ⟨w.heap.size, 0, none⟩) := gQ;generalize b0.put (some 2) (.pointer (some ⟨w.heap.size, 0, none⟩)) = b1 at k1 q2 ⊢;have hz1 := k1.size;refine hK1 b1 w1 (tUp ?_);refine wT fun K2 hK2 => ?_;refine wC (wp_alloc hT.zero ?_);rw [wpl_nil];have f2 := Fr.alloc [] w1 (.cells (Value.agg zU.toArray).cells T141);have th2 : (w1.alloc (.cells (Value.agg zU.toArray).cells T141)).there w1.heap.size 0 16 := there_new w1 zU.toArray T141;have rg2 : (w1.alloc (.cells (Value.agg zU.toArray).cells T141)).rangeAt w1.heap.size 0 zU := range_new w1 zU.toArray T141 (0, 0);have sz2 := size_alloc w1 (.cells (Value.agg zU.toArray).cells T141);generalize w1.alloc (.cells (Value.agg zU.toArray).cells T141) = w2 at f2 th2 rg2 sz2 ⊢;have k2 : Kept 3 b1 (b1.put (some 3) (.pointer (some ⟨w1.heap.size, 0, none⟩))) := Kept.put0 (by omega) _;have q3 : get (b1.put (some 3) (.pointer (some ⟨w1.heap.size, 0, none⟩))) 3 = .pointer (some ⟨w1.heap.size, 0, none⟩) := gQ;generalize b1.put (some 3) (.pointer (some ⟨w1.heap.size, 0, none⟩)) = b2 at k2 q3 ⊢;have hz2 := k2.size;have g02 : get b2 0 = .pointer (some ⟨rb, 0, none⟩) := by rw [k2.get 0 (by omega), k1.get 0 (by omega), g0]
  have g22 : get b2 2 = .pointer (some ⟨w.heap.size, 0, none⟩) := by rw [k2.get 2 (by omega), q2]
  have hd2 : b2.defers = [] := by rw [k2.defers, k1.defers, hd0]
  have f02 : Fr [] w w2 := f1.tr f2;have h2 : RW w2 rb sb st := h.kept f02 (by simp);refine hK2 b2 w2 (tUp ?_);refine then_id (wp_seq_k fun K3 hK3 => ?_);refine wp_drawE (os := [⟨some 4, .slice T141 (.tmp 3) none none none, t2, p2, e2, none⟩, oM 5 0 t3 p3 e3, oC 6 f279 #[(.tmp 5), (.const (.int .i64 16))] a0 t4 p4 e4])
    [spC [] (.slice (some ⟨w1.heap.size, 0, none⟩) 16 16), spC [] (.pointer (some ⟨rb, 0, none⟩)), spW [1] (fun v w' => Octs w' (· = sb) v (rdSpan 16 st).1 ∧ RW w' rb sb (rdSpan 16 st).2)] 4 [⟨rb, 0, 2⟩] hm he (by simp [shape]) rfl (by simp [spC, spW]) (by simp; omega)
    ⟨lCc _ _ _, lCc _ _ _, ?_, trivial⟩ ?_ ?_
  · rintro v w1 w2 hf12 ⟨h1, h2⟩;have hf12 : Fr [] w1 w2 := hf12;exact ⟨h1.kept hf12 (by simp) (fun _ h => h), h2.kept hf12 (by simp)⟩
  · refine ⟨op_c fun a' w' hk' hf' hd' K' hK' => ?_, op_c fun a' w' hk' hf' hd' K' hK' => ?_, op_w0 fun a' w' hk' hf' hd' K' hK' => ?_, trivial⟩
    · exact wp_sliceRow hT (by rw [eTm, hk'.get 3 (by omega), q3]) (by simp [zU, uuid0, octets]) hK'
    · rw [wp_move, eTm, hk'.get 0 (by omega), g02]; exact hK'
    have h1 : get a' 5 = .pointer (some ⟨rb, 0, none⟩) := hd'.c (nd' := []) 1 (by simp) rfl
    refine wp_calls (R := fun v w2 => (Octs w2 (· = sb) v (rdSpan 16 st).1 ∧ RW w2 rb sb (rdSpan 16 st).2) ∧ Fr [⟨rb, 0, 2⟩] w' w2) hsp.enters (vs := #[.pointer (some ⟨rb, 0, none⟩), .int .i64 16]) (by simp only [List.map_toArray, List.map_cons, List.map_nil, eTm, eCo]; rw [h1])
      ((hsp.call w' rb sb st 16 (h2.kept hf' (by simp))).mono (by rintro e' w' ⟨x, rfl, h1, h2, h3⟩; exact ⟨_, rfl, ⟨h1, h2⟩, h3⟩)) (fun x' w2 h => hK' x' w2 h.1 h.2)
  intro b3 w3 hk3 hf3 hd3
  obtain ⟨ho3, hr3⟩ : Octs w3 (· = sb) (get b3 6) (rdSpan 16 st).1 ∧ RW w3 rb sb (rdSpan 16 st).2 := hd3.at (d := 2) (by simp) rfl;have hs4 : get b3 4 = .slice (some ⟨w1.heap.size, 0, none⟩) 16 16 := hd3.c (nd' := []) 0 (by simp) rfl;have hz3 := hk3.size;have sz3 := hf3.size;have hne : ∀ r ∈ [(⟨rb, 0, 2⟩ : Rng)], r.b ≠ w1.heap.size := by intro r hr; simp at hr; subst hr; simp only; have := f1.size; omega
  have th3 : w3.there w1.heap.size 0 16 := hf3.there th2;have rg3 : w3.rangeAt w1.heap.size 0 zU := hf3.range rg2 (fun r hr => .inl (hne r hr));have f03 : Fr [⟨rb, 0, 2⟩] w w3 := f02.nil.tr hf3
  -- what the copy does
  have hcopy : ∀ (K' : Act → World → Prop) (Q' : Exit → Act → World → Prop), (∀ w4, Fr [⟨w1.heap.size, 0, 16⟩] w3 w4 → w4.rangeAt w1.heap.size 0 (octets ((rdSpan 16 st).1.getD uuid0)) → ∀ v, K' (b3.put (some 7) v) w4) → OW P ⟨some 7, .call ⟨.builtin .copy, #[(.tmp 4), (.tmp 6)], #[T22, T22]⟩, t5, p5, e5, none⟩ b3 w3 K' Q' := by
    intro K' Q' hK';obtain ⟨hu, i, z0, hi, hs, hby, hzz, hsz0⟩ := under_slice h22;have hs1 : (P.info? et).map (·.size) = some 1 := by simp [hi, hs]
    rcases ho3 with ⟨hv, hn⟩ | ⟨b, o, cap, l, rfl, hv, hc, hr, hl⟩
    · rw [hn] at hK';have hr := run_copy_none (P := P) w3 T22 T22 t5 et (some ⟨w1.heap.size, 0, none⟩) none 16 16 0 0 hu hs1 rfl;refine wp_val (v := goInt 0) (w' := w3) ?_ (hK' w3 (Fr.refl _ _) rg3 _);simp only [execOp, resolve, invoke, builtin, eTm, List.map_toArray, List.map_cons, List.map_nil, hs4, hv, hr, Sem.run_bind, Result.andThen_ok, Sem.run_pure]
    have hl16 := hul.2 l hl;rw [hl] at hK';have hol : (octets l).length = 16 := by rw [lOc, hl16]
    have hr' := run_copy_cells (P := P) w3 T22 T22 t5 et w1.heap.size 0 16 16 ⟨b, o, none⟩ l.length cap (octets l) hu hs1 (by rw [hol, hl16]; rfl) (fun j v hj => by rw [Addr.add_mid]; exact hr j v hj)
      (fun j hj => by have := (th3 j (by omega)).1; exact this) (fun j hj => (th3 j (by omega)).2) (octets_one l)
    have fs := Fr.sets w1.heap.size (octets l) w3 0;have rs := World.rangeAt_setCells_same w3 w1.heap.size 0 (octets l) (by rw [hol]; exact th3);rw [hol] at fs;refine wp_val (v := goInt (octets l).length) (w' := w3.setCells w1.heap.size 0 (octets l)) ?_ (hK' _ fs rs _);simp only [execOp, resolve, invoke, builtin, eTm, List.map_toArray, List.map_cons, List.map_nil, hs4, hv, hr', Sem.run_bind, Result.andThen_ok, Sem.run_pure]
  refine hcopy _ _ fun w4 f4 rg4 v => ?_;have k4 : Kept 4 b2 (b3.put (some 7) v) := hk3.put (by omega) _;generalize b3.put (some 7) v = b4 at k4 ⊢;have hz4 := k4.size;have sz4 := f4.size;refine hK3 b4 w4 (tUp ?_);have ho16 : (octets ((rdSpan 16 st).1.getD uuid0)).length = 16 := by rw [lOc, hul.1]
  generalize hoc : octets ((rdSpan 16 st).1.getD uuid0) = oc at *;have hoc1 : ∀ u ∈ oc, u.oneCell' = true := by rw [← hoc]; exact octets_one _
  refine wT fun K5 hK5 => ?_;refine wC (wp_loadRow hT (cs := oc) (b := w1.heap.size) (o := 0) (by rw [ho16]; rfl) (by rw [eTm, k4.get 3 (by omega), q3]) rg4 ?_);rw [wCo];have hne1 : ∀ r ∈ [(⟨w1.heap.size, 0, 16⟩ : Rng)], r.b ≠ w.heap.size := by intro r hr; simp at hr; subst hr; simp only; omega
  have th4 : w4.there w.heap.size 0 16 := f4.there (hf3.there (f2.there th1));refine wp_storeRow hT (cs := oc) (b := w.heap.size) (o := 0) (by rw [ho16]; rfl) (by rw [eTm, gR, k4.get 2 (by omega), g22]) (by rw [eTm, gQ]) hoc1 (by rw [ho16]; exact th4) ?_;rw [pNo, wpl_nil];have f5 := Fr.sets w.heap.size oc w4 0;have rg5 := World.rangeAt_setCells_same w4 w.heap.size 0 oc (by rw [ho16]; exact th4);generalize w4.setCells w.heap.size 0 oc = w5 at f5 rg5 ⊢;refine hK5 _ w5 (wp_ret ?_);have f35 : Fr [] w w5 ∨ True := .inr trivial;have hf45 : Fr [⟨w1.heap.size, 0, 16⟩, ⟨w.heap.size, 0, 0 + oc.length⟩] w3 w5 := by
    refine (f4.mono (l' := [⟨w1.heap.size, 0, 16⟩, ⟨w.heap.size, 0, 0 + oc.length⟩]) ?_).trans f5 ?_
    · intro r hr; simp at hr; subst hr; exact Rng.in_self (by simp)
    intro r hr; simp at hr; subst hr; exact .inr ⟨⟨w.heap.size, 0, 0 + oc.length⟩, by simp, rfl, by simp, by simp⟩
  refine ⟨by simp only [dPu]; rw [k4.defers, hd2], _, results_row hres hT (by rw [ho16]; rfl) (by rw [gR, k4.get 2 (by omega), g22]) rg5, rfl, ?_, ?_⟩
  · have hw3 : w3.heap.size ≤ w5.heap.size := hf45.size;have hsbw : (rdSpan 16 st).2.xs ≠ [] → sb < w.heap.size := fun hx => by
      have hne : st.xs ≠ [] := by
        intro e; apply hx;unfold rdSpan; rw [e]; simp [RSt.fail]
      obtain ⟨_, _, _, _, _, _, _, hs, _⟩ := h.some hne;exact hs
    exact RW.kept2 hr3 hf45 (by intro r hr; simp at hr; rcases hr with rfl | rfl <;> simp only <;> omega) (by
      intro hx r hr; have := hsbw hx; simp at hr; rcases hr with rfl | rfl <;> simp only <;> omega)
  refine f03.trans hf45 ?_;intro r hr; simp at hr
  rcases hr with rfl | rfl
  · exact .inl (by simp only; omega)
  exact .inl (Nat.le_refl _)
theorem fld_uuid {P : Program} {ge : Nat} {cx : Cx} {m id id2 n n1 v o : Nat} {f : FuncId} {S T k : Nat} {dv : V} {ats : Array TypeId} {t1 t2 t3 t4 t5 t6 t7 t8 : TypeId} {p1 p2 p3 p4 p5 p6 p7 p8 : String} {e1 e2 e3 e4 e5 e6 e7 e8 : Array Edge}
    (hf : UuidM P f) (hT : RowT P T zU) (hF : fieldOf P S k o = true)
    (hb : (decide (n < cx.N) && decide (v < n) && decide (m ≤ v) && decide (v < n1) && decide (n1 + 3 < cx.N) && cx.below m) = true) :
    Fld P ge cx m (Code.seq (Code.region id ⟨[oC n f #[.tmp cx.tb] ats t1 p1 e1, ⟨some v, .alloc T, t2, p2, e2, none⟩, oS T v n t3 p3 e3]⟩ false)
      (Code.region id2 ⟨[⟨some n1, .move (.tmp cx.ts), t4, p4, e4, none⟩, oL (n1 + 1) T v t5 p5 e5, ⟨some (n1 + 2), .nilCheck (.tmp n1), t6, p6, e6, none⟩,
        oF (n1 + 3) S (n1 + 2) k t7 p7 e7, oS T (n1 + 3) (n1 + 1) t8 p8 e8]⟩ false)) o .uuid dv (rdOne fun _ _ => gUuid) := by
  intro e pb po K Q a w st hs hm ht hz hk hq;simp only [Bool.and_eq_true, decide_eq_true_eq] at hb;obtain ⟨⟨⟨⟨⟨b1, b2⟩, b3⟩, b4⟩, b5⟩, b6⟩ := hb;have hsz := hs.size;have hul := uuid_len st;have hgu : gUuid st = (.s ((rdSpan 16 st).1.getD uuid0), (gUuid st).2) := rfl;have hpw : pb < w.heap.size := there_lt ht (by simp [Ty.size]);refine wS fun K1 hK1 => ?_;rw [wCo];refine wp_calls (R := fun x w' => x = .agg (octets ((rdSpan 16 st).1.getD uuid0)).toArray ∧ RW w' e.rb e.sb (gUuid st).2 ∧ Fr [⟨e.rb, 0, 2⟩] w w') hf.enters (vs := #[.pointer (some ⟨e.rb, 0, none⟩)])
    (by simp only [List.map_toArray, List.map_cons, List.map_nil, eTm]; rw [hs.b])
    ((hf.call w e.rb e.sb st hm.rw).mono (by rintro e' w' ⟨rfl, h⟩; exact ⟨_, rfl, rfl, h⟩)) ?_
  rintro x w1 ⟨rfl, hrw, f1⟩;generalize hl : (rdSpan 16 st).1.getD uuid0 = l at *;have hl16 : l.length = 16 := hul.1;have ho16 : (octets l).length = 16 := by rw [lOc, hl16]
  have szw1 := f1.size;refine wC (wp_alloc hT.zero ?_);rw [wCo];have fa := Fr.alloc [] w1 (.cells (Value.agg zU.toArray).cells T);have tha : (w1.alloc (.cells (Value.agg zU.toArray).cells T)).there w1.heap.size 0 16 := there_new w1 zU.toArray T;have sza := size_alloc w1 (.cells (Value.agg zU.toArray).cells T);generalize w1.alloc (.cells (Value.agg zU.toArray).cells T) = w2 at fa tha sza ⊢;refine wp_storeRow hT (cs := octets l) (b := w1.heap.size) (o := 0) (by rw [ho16]; rfl) (by rw [eTm, gQ]) (by rw [eTm, gR, gQ]) (octets_one l) (by rw [ho16]; exact tha) ?_;rw [pNo, wpl_nil];have fs := Fr.sets w1.heap.size (octets l) w2 0;have rs := World.rangeAt_setCells_same w2 w1.heap.size 0 (octets l) (by rw [ho16]; exact tha);generalize w2.setCells w1.heap.size 0 (octets l) = w3 at fs rs ⊢;have f13 : Fr [] w1 w3 := fa.trans fs (by intro r hr; simp at hr; subst hr; exact .inl (Nat.le_refl _));have sz13 := f13.size;have k1 : Kept m a ((a.put (some n) (.agg (octets l).toArray)).put (some v) (.pointer (some ⟨w1.heap.size, 0, none⟩))) := (Kept.put0 (by omega) _).put b3 _;have gv : get ((a.put (some n) (.agg (octets l).toArray)).put (some v) (.pointer (some ⟨w1.heap.size, 0, none⟩))) v = .pointer (some ⟨w1.heap.size, 0, none⟩) := gQ;generalize ((a.put (some n) (.agg (octets l).toArray)).put (some v) (.pointer (some ⟨w1.heap.size, 0, none⟩))) = a1 at k1 gv ⊢;have hs1 := hs.kept b6 k1;have hz1 := hs1.size;refine hK1 a1 w3 ?_;refine wp_reg ?_;rw [wCo, wp_move, eTm, hs1.s, wCo];refine wp_loadRow hT (cs := octets l) (b := w1.heap.size) (o := 0) (by rw [ho16]; rfl) (by rw [eTm, gR, gv]) rs ?_;refine wC (wp_nilCheck (q := ⟨pb, po, none⟩) (by rw [eTm, gR, gQ]) ?_);refine wC (wFa (b := pb) (i := po) hF (by rw [eTm, gQ]) ?_);rw [wCo];have ht3 : w3.there pb (po + o) 16 := f13.there (f1.there ht);refine wp_storeRow hT (cs := octets l) (b := pb) (o := po + o) (by rw [ho16]; rfl) (by rw [eTm, gQ]) (by rw [eTm, gR, gR, gQ]) (octets_one l) (by rw [ho16]; exact ht3) ?_;rw [pNo, wpl_nil];have f4 := Fr.sets pb (octets l) w3 (po + o);have r4 := World.rangeAt_setCells_same w3 pb (po + o) (octets l) (by rw [ho16]; exact ht3);generalize w3.setCells pb (po + o) (octets l) = w4 at f4 r4 ⊢;rw [ho16] at f4;have hrw3 : RW w3 e.rb e.sb (gUuid st).2 := hrw.kept f13 (by simp);refine hk _ w4 (.s l) (gUuid st).2 (by simp only [rdOne]; rw [hgu]) (k1.trans ((((Kept.put0 (by omega) _).put (by omega) _).put (by omega) _).put (by omega) _)) (hrw3.kept f4 (by intro r hr; simp at hr; subst hr; exact ⟨hm.pr, hm.ps⟩)) ?_ ⟨octets l, r4, l, hl16, rfl, rfl⟩;refine ((f1.mono (l' := [⟨e.rb, 0, 2⟩, ⟨pb, po + o, po + o + Ty.uuid.size⟩]) ?_).tr f13.nil).trans f4 ?_
  · intro r hr; simp at hr; subst hr; exact .inr ⟨_, by simp, rfl, by simp, by simp⟩
  intro r hr; simp at hr; subst hr; exact .inr ⟨⟨pb, po + o, po + o + Ty.uuid.size⟩, by simp, rfl, by simp, by simp [Ty.size]⟩
def tUuid : V → T
  | .s l => .mk 0 l false [] []
  | _ => .zero
variable {P : Program} {TT TL S Tf Ti et : TypeId} {N sv st m n k o kf id : Nat}
theorem tl_uuid (hT : TreeTys P TT TL)
    {t0 t1 t2 t3 t4 t5 t6 t7 t8 t9 : TypeId} {p0 p1 p2 p3 p4 p5 p6 p7 p8 p9 : String} {e0 e1 e2 e3 e4 e5 e6 e7 e8 e9 : Array Edge}
    (he : edgeOk 0 [e0, e1, e2, e3, e4, e5, e6, e7, e8, e9] [[], [0], [], [2], [3], [4], [5], [6], [1], [0, 1, 2, 3, 4, 5, 6, 7, 8]] = true)
    (hS : fieldOf P S kf o = true) (hf : RowT P Tf zU) (h2 : sliceOf P Ti et 1 1 = true) (hz2 : zeroIs P et [.int .u8 0])
    (hb : (decide (sv < n) && decide (st < n) && decide (m ≤ n) && decide (n + 3 + 6 ≤ N)) = true) :
    Tl P N sv st m (Code.region id ⟨[oF n TT st 3 t0 p0 e0, oL (n + 1) TL n t1 p1 e1, oM (n + 2) sv t2 p2 e2, ⟨some (n + 3), .nilCheck (.tmp (n + 2)), t3, p3, e3, none⟩,
      oF (n + 4) S (n + 3) kf t4 p4 e4, ⟨some (n + 5), .slice Tf (.tmp (n + 4)) none none none, t5, p5, e5, none⟩, ⟨some (n + 6), .call ⟨.builtin .append, #[(.const (.slice none 0 0)), (.tmp (n + 5))], #[Ti, Ti]⟩, t6, p6, e6, none⟩, ⟨some (n + 7), .build TT #[(1, .tmp (n + 6))], t7, p7, e7, none⟩, ⟨some (n + 8), .indexAddr TL (.tmp (n + 1)) (.const (.int .i64 k)), t8, p8, e8, none⟩, oS TT (n + 8) (n + 7) t9 p9 e9]⟩ true) k o .uuid tUuid := by
  refine tl_draw (mid := [⟨some (n + 5), .slice Tf (.tmp (n + 4)) none none none, t5, p5, e5, none⟩, ⟨some (n + 6), .call ⟨.builtin .append, #[(.const (.slice none 0 0)), (.tmp (n + 5))], #[Ti, Ti]⟩, t6, p6, e6, none⟩, ⟨some (n + 7), .build TT #[(1, .tmp (n + 6))], t7, p7, e7, none⟩]) hT [[4], [5], [6]] he rfl rfl rfl rfl (by simp) (by simp [shape]) rfl hS hb ?_;intro e Q a w x hN hx hs0;obtain ⟨c, hc, l, hl16, rfl, rfl⟩ := hx
  have hoc : OctE w (· = e.pb) (.slice (some ⟨e.pb, e.po + o, none⟩) 16 16) l := .inl ⟨some l, .inr ⟨e.pb, e.po + o, 16, l, rfl, by rw [hl16], ⟨by omega, by omega⟩, hc, rfl⟩, rfl⟩;refine ⟨[spC [4] (.slice (some ⟨e.pb, e.po + o, none⟩) 16 16), spR [5] (fun v w => OctE w (e.A w) v l), spR [6] (fun v w => ∃ cs : List Value, v = .agg cs.toArray ∧ RepT w (e.A w) cs (.mk 0 l false [] []))], rfl, rfl,
    ⟨lCc _ _ _, lasts_r lasts_oct, lasts_r fun v w w' hf h => ?_, trivial⟩, fun tl => ?_, _, rfl, fun v w' hv _ => hv⟩
  · obtain ⟨cs, h3, h4⟩ := h;exact ⟨cs, h3, h4.kept hf (by simp) (TEnv.A_mono hf.size)⟩
  refine ⟨op_c fun a' w' hk' hf' hd' K' hK' => ?_, op_r fun a' w' hk' hf' hd' K' hK' => ?_, op_r fun a' w' hk' hf' hd' K' hK' => ?_, trivial⟩
  · exact wp_sliceRow hf (by rw [eTm]; exact hd'.c 4 (by simp) rfl) (by simp [zU, uuid0, octets]) hK'
  · refine wp_copySrc h2 hz2 (xs := l) (A := (· = e.pb)) (by rw [eTm]; exact hd'.c 5 (by simp) rfl) (hoc.kept hf' (by simp) (fun _ h => h)) (by omega) fun y w2 sb hf2 hsb hlt hsrc => hK' y w2 ?_ hf2
    rcases hsrc with ⟨h1, h2, rfl⟩ | ⟨h1, o', cap, rfl, hc', hr⟩
    · show OctE w2 _ _ _
      rw [h2]; exact OctE.nil
    have hne : l ≠ [] := by simpa using h1
    exact .inl ⟨some l, .inr ⟨sb, o', cap, l, ⟨Nat.le_trans (Nat.le_trans hs0 hf'.size) hsb, hlt hne⟩, rfl, hc', hr, rfl⟩, rfl⟩
  have ho := hd'.at (d := 6) (by simp) rfl;exact wp_build1 hT.flat (by decide) (by rw [eTm]) ho.one (hK' _ _ ⟨_, rfl, repT_str ho⟩ (Fr.refl _ _))
end Go.Kq

namespace Go.Kq
open Go Go.Proofs
def gBool (st : RSt) : V × RSt := match st.xs with
  | [] => (.n 0, .fail)
  | c :: r => (.n (if c.toNat != 0 then 1 else 0), { st with xs := r })
set_option maxRecDepth 10000 in
theorem rdbool_m {P : Program} {f : FuncId} {fn : Func} {et : TypeId}
    {T3 T4 T5 T22 T216 : TypeId}
    {i0 i1 i2 i3 i4 i5 i6 i7 : Nat}
    {t0 t1 t2 t3 t4 t5 t6 t7 t8 t9 t10 t11 t12 t13 t14 t15 t16 t17 t18 t19 t20 t21 t22 t23 t24 t25 t26 t27 t28 t29 t30 t31 t32 t33 t34 : TypeId} {p0 p1 p2 p3 p4 p5 p6 p7 p8 p9 p10 p11 p12 p13 p14 p15 p16 p17 p18 p19 p20 p21 p22 p23 p24 p25 p26 p27 p28 p29 p30 p31 p32 p33 p34 : String} {e0 e1 e2 e3 e4 e5 e6 e7 e8 e9 e10 e11 e12 e13 e14 e15 e16 e17 e18 e19 e20 e21 e22 e23 e24 e25 e26 e27 e28 e29 e30 e31 e32 e33 e34 : Array Edge}
    (hf : P.funcs[f]? = some fn) (hname : (fn.name == "runtime.NumGoroutine") = false) (hres : fn.results = #[.tmp 2]) (hN : fn.ntmps = 32)
    (hbody : fn.body = some (.seq (Code.region i0 ⟨[oA 2 (.const (.bool false)) t0 p0 e0]⟩ false) (.seq (.seq (Code.region i1 ⟨[oM 4 0 t1 p1 e1, ⟨some 5, .nilCheck (.tmp 4), t2, p2, e2, none⟩,
    oF 6 T216 5 0 t3 p3 e3,
    oL 7 T22 6 t4 p4 e4, ⟨some 8, .call ⟨.builtin .len, #[(.tmp 7)], #[T22]⟩, t5, p5, e5, none⟩, ⟨some 9, .binOp .lss T3 (.tmp 8) (.const (.int .i64 1)) T3, t6, p6, e6, none⟩]⟩ false) (.cond (.tmp 9) (.seq (Code.region i2 ⟨[oM 10 0 t7 p7 e7, ⟨some 11, .nilCheck (.tmp 10), t8, p8, e8, none⟩,
    oF 12 T216 11 1 t9 p9 e9, ⟨none, .store T4 (.tmp 12) (.const (.bool true)), t10, p10, e10, none⟩]⟩ false) (.seq (Code.region i3 ⟨[oM 13 0 t11 p11 e11, ⟨some 14, .nilCheck (.tmp 13), t12, p12, e12, none⟩,
    oF 15 T216 14 0 t13 p13 e13, ⟨none, .store T22 (.tmp 15) (.const (.slice none 0 0)), t14, p14, e14, none⟩]⟩ false) (.seq (Code.region i4 ⟨[oA 2 (.const (.bool false)) t15 p15 e15]⟩ false) .ret))) .skip)) (.seq (Code.region i5 ⟨[oM 16 0 t16 p16 e16, ⟨some 17, .nilCheck (.tmp 16), t17, p17, e17, none⟩,
    oF 18 T216 17 0 t18 p18 e18,
    oL 19 T22 18 t19 p19 e19, ⟨some 20, .indexAddr T22 (.tmp 19) (.const (.int .i64 0)), t20, p20, e20, none⟩,
    oL 21 T5 20 t21 p21 e21, ⟨some 22, .binOp .neq T5 (.tmp 21) (.const (.int .u8 0)) T5, t22, p22, e22, none⟩,
    oT 3 22 t23 p23 e23]⟩ false) (.seq (Code.region i6 ⟨[oM 23 0 t24 p24 e24,
    oM 24 0 t25 p25 e25, ⟨some 25, .nilCheck (.tmp 24), t26, p26, e26, none⟩,
    oF 26 T216 25 0 t27 p27 e27,
    oL 27 T22 26 t28 p28 e28, ⟨some 28, .slice T22 (.tmp 27) (some (.const (.int .i64 1))) none none, t29, p29, e29, none⟩, ⟨some 29, .nilCheck (.tmp 23), t30, p30, e30, none⟩,
    oF 30 T216 29 0 t31 p31 e31,
    oS T22 30 28 t32 p32 e32]⟩ false) (.seq (Code.region i7 ⟨[oM 31 3 t33 p33 e33,
    oT 2 31 t34 p34 e34]⟩ false) .ret))))))
    (hs : sliceOf P T22 et 1 1 = true) (h22 : scal P T22 = true) (h4 : scal P T4 = true) (h5 : scal P T5 = true) (hF0 : fieldOf P T216 0 0 = true) (hF1 : fieldOf P T216 1 1 = true) : MethV P f (.bool) gBool := by
  refine ⟨enters_of hf hname hbody, ?_⟩;intro w rb sb st h;generalize hg : gBool st = g;have hgone := h.gone;have hthere : w.there rb 0 2 := h.2.1;obtain ⟨q, cap, c0, c1, fz0, fz1, hrb⟩ := h.slice;refine calls_of_wp hf hbody ?_;generalize ha0 : ({ tmps := #[Value.pointer (some ⟨rb, 0, none⟩)] ++ Array.replicate (fn.ntmps - #[Value.pointer (some ⟨rb, 0, none⟩)].size) undef, defers := [] } : Act) = a0;have hsz : a0.tmps.size = 32 := by subst ha0; simp [hN]
  have hd0 : a0.defers = [] := by subst ha0; rfl
  have g0 : get a0 0 = .pointer (some ⟨rb, 0, none⟩) := by subst ha0; exact gAr rfl
  refine then_id (wp_seq_k fun K1 hK1 => ?_);refine r_const (m := 2) (by omega) (by omega) fun a1 k1 _ => hK1 a1 w (tUp ?_);have hz1 := k1.size;have g1 : get a1 0 = .pointer (some ⟨rb, 0, none⟩) := by rw [k1.get 0 (by omega), g0]
  refine then_id (wp_seq_k fun K2 hK2 => ?_);refine wS fun K3 hK3 => ?_;rw [wCo, wp_move, eTm, g1, wCo];refine wp_nilCheck (q := ⟨rb, 0, none⟩) (by rw [eTm, gQ]) ?_;refine wC (wFa (b := rb) (i := 0) hF0 (by rw [eTm, gQ]) ?_);refine wC (wp_load h22 (b := rb) (o := 0) (v := .slice q st.xs.length cap) (by rw [eTm, gQ]) c0 ?_);refine wC (wp_len hs (by rw [eTm, gQ]) ?_);refine wC (wp_lss (k1 := .i64) (i := st.xs.length) (j := 1) (by rw [eTm, gQ]) rfl ?_);rw [wpl_nil];generalize ha2 : (((((a1.put (some 4) (.pointer (some ⟨rb, 0, none⟩))).put (some 5) (.pointer (some ⟨rb, 0, none⟩))).put (some 6) (.pointer (some ⟨rb, 0 + 0, none⟩))).put (some 7) (.slice q st.xs.length cap)).put (some 8) (.int .i64 st.xs.length)).put (some 9) (.bool (decide ((st.xs.length : Int) < 1))) = a2;have k2 : Kept 4 a1 a2 := by subst ha2; exact (((((Kept.put0 (by omega) _).put (by omega) _).put (by omega) _).put (by omega) _).put (by omega) _).put (by omega) _
  have q9 : get a2 9 = .bool (decide ((st.xs.length : Int) < 1)) := by subst ha2; exact gQ
  have hz2 := k2.size;have g2 : get a2 0 = .pointer (some ⟨rb, 0, none⟩) := by rw [k2.get 0 (by omega), g1]
  have hd2 : a2.defers = [] := by rw [k2.defers, k1.defers, hd0]
  refine hK3 a2 w ?_;refine wp_cond_split (t := decide ((st.xs.length : Int) < 1)) (by rw [eTm, q9]) (fun hz => ?_) fun hz => wp_skip (hK2 a2 w (tUp ?_))
  · have hx : st.xs = [] := List.eq_nil_of_length_eq_zero (by simp at hz; omega);obtain rfl : g = (.n 0, .fail) := by rw [← hg]; simp [gBool, hx]
    refine wS fun K5 hK5 => ?_;rw [wCo, wp_move, eTm, g2, wCo];refine wp_nilCheck (q := ⟨rb, 0, none⟩) (by rw [eTm, gQ]) ?_;refine wC (wFa (b := rb) (i := 0) hF1 (by rw [eTm, gQ]) ?_);refine wC (wp_store h4 (b := rb) (o := 0 + 1) (v := .bool true) (by rw [eTm, gQ]) rfl rfl (there_part hthere (by omega) (by omega)) ?_);rw [pNo, wpl_nil];generalize ha4 : ((a2.put (some 10) (.pointer (some ⟨rb, 0, none⟩))).put (some 11) (.pointer (some ⟨rb, 0, none⟩))).put (some 12) (.pointer (some ⟨rb, 0 + 1, none⟩)) = a4;have k4 : Kept 4 a2 a4 := by subst ha4; exact ((Kept.put0 (by omega) _).put (by omega) _).put (by omega) _
    have hz4 := k4.size;refine hK5 a4 _ ?_;refine wS fun K6 hK6 => ?_;rw [wCo, wp_move, eTm, k4.get 0 (by omega), g2, wCo];refine wp_nilCheck (q := ⟨rb, 0, none⟩) (by rw [eTm, gQ]) ?_;refine wC (wFa (b := rb) (i := 0) hF0 (by rw [eTm, gQ]) ?_);refine wC (wp_store h22 (b := rb) (o := 0 + 0) (v := .slice none 0 0) (by rw [eTm, gQ]) rfl rfl (there_part ((Fr.set w rb (0 + 1) (.bool true)).there hthere) (by omega) (by omega)) ?_);rw [pNo, wpl_nil];generalize ha5 : ((a4.put (some 13) (.pointer (some ⟨rb, 0, none⟩))).put (some 14) (.pointer (some ⟨rb, 0, none⟩))).put (some 15) (.pointer (some ⟨rb, 0 + 0, none⟩)) = a5;have k5 : Kept 4 a4 a5 := by subst ha5; exact ((Kept.put0 (by omega) _).put (by omega) _).put (by omega) _
    have hz5 := k5.size;refine hK6 a5 _ ?_;refine wp_seq_k fun K7 hK7 => ?_;refine r_const (m := 2) (by omega) (by omega) fun a6 k6 g6 => hK7 a6 _ ?_;exact wp_ret ⟨by rw [k6.defers, k5.defers, k4.defers, hd2], _, results_one hres, _, rfl, by rw [g6]; exact ⟨false, rfl, rfl⟩, hgone.1, hgone.2⟩
  obtain ⟨c, r, hx⟩ : ∃ c r, st.xs = c :: r := by
    cases hx : st.xs with
    | nil => simp [hx] at hz
    | cons c r => exact ⟨c, r, rfl⟩
  have hne : st.xs ≠ [] := by rw [hx]; simp
  obtain ⟨o, cap', hc', _, _, _, _, hsb, hcap, hr, hnil⟩ := h.some hne;have hsv : (Value.slice q st.xs.length cap) = .slice (some ⟨sb, o, none⟩) st.xs.length cap' := by rw [hc'] at c0; exact (Option.some.inj c0).symm
  obtain ⟨rfl, rfl⟩ : q = some ⟨sb, o, none⟩ ∧ cap = cap' := by simpa using hsv
  have hoc : w.cell? ⟨sb, o + 0, none⟩ = some (.int .u8 c.toNat) := hr 0 _ (by rw [hx]; rfl);have hlen : 0 < st.xs.length := List.length_pos_iff.2 hne;have hc256 : c.toNat < 256 := c.toNat_lt;refine wT fun K5 hK5 => ?_;rw [wCo, wp_move, eTm, g2, wCo];refine wp_nilCheck (q := ⟨rb, 0, none⟩) (by rw [eTm, gQ]) ?_;refine wC (wFa (b := rb) (i := 0) hF0 (by rw [eTm, gQ]) ?_);refine wC (wp_load h22 (b := rb) (o := 0) (v := .slice (some ⟨sb, o, none⟩) st.xs.length cap) (by rw [eTm, gQ]) c0 ?_);refine wC (wp_indexAddr hs (b := sb) (o := o) (len := st.xs.length) (cap := cap) (k1 := .i64) (i := 0) (by rw [eTm, gQ]) rfl (by omega) (by omega) ?_);refine wC (wp_load h5 (b := sb) (o := o + 0) (v := .int .u8 c.toNat) (by rw [eTm, gQ]; simp) hoc ?_);refine wC (wp_neq (k1 := .u8) (i := (c.toNat : Int)) (j := 0) (by rw [eTm, gQ]) rfl ?_);rw [wCo];rw [wp_assign, eTm, gQ, wpl_nil];generalize ha3 : (((((((a2.put (some 16) (.pointer (some ⟨rb, 0, none⟩))).put (some 17) (.pointer (some ⟨rb, 0, none⟩))).put (some 18) (.pointer (some ⟨rb, 0 + 0, none⟩))).put (some 19) (.slice (some ⟨sb, o, none⟩) st.xs.length cap)).put (some 20) (.pointer (some ⟨sb, o + (0 : Int).toNat * 1, none⟩))).put (some 21) (.int .u8 c.toNat)).put (some 22) (.bool ((c.toNat : Int) != 0))).put (some 3) (.bool ((c.toNat : Int) != 0)) = a3;have k3 : Kept 3 a2 a3 := by subst ha3; exact (((((((Kept.put0 (by omega) _).put (by omega) _).put (by omega) _).put (by omega) _).put (by omega) _).put (by omega) _).put (by omega) _).put (by omega) _
  have q3 : get a3 3 = .bool ((c.toNat : Int) != 0) := by subst ha3; exact gQ
  have hz3 := k3.size;have g3 : get a3 0 = .pointer (some ⟨rb, 0, none⟩) := by rw [k3.get 0 (by omega), g2]
  refine hK5 a3 w (tUp ?_);refine wT fun K6 hK6 => ?_;rw [wCo, wp_move, eTm, g3, wCo, wp_move, eTm, gR, g3, wCo];refine wp_nilCheck (q := ⟨rb, 0, none⟩) (by rw [eTm, gQ]) ?_;refine wC (wFa (b := rb) (i := 0) hF0 (by rw [eTm, gQ]) ?_);refine wC (wp_load h22 (b := rb) (o := 0) (v := .slice (some ⟨sb, o, none⟩) st.xs.length cap) (by rw [eTm, gQ]) c0 ?_);refine wC (wp_sliceLo (q := some ⟨sb, o, none⟩) (len := st.xs.length) (cap := cap) (l := 1) (k1 := .i64) hs (by rw [eTm, gQ]) rfl (by omega) ?_);refine wC (wp_nilCheck (q := ⟨rb, 0, none⟩) (by rw [eTm, gR, gR, gR, gR, gR, gQ]) ?_);refine wC (wFa (b := rb) (i := 0) hF0 (by rw [eTm, gQ]) ?_);rw [wCo];generalize hvv : Value.slice (if cap = 1 then some ⟨sb, o, none⟩ else Option.map (fun y : Addr => y.add (1 * 1)) (some ⟨sb, o, none⟩)) (st.xs.length - 1) (cap - 1) = vv;have hvv' : vv = .slice (if cap = 1 then some ⟨sb, o, none⟩ else some ⟨sb, o + 1, none⟩) (st.xs.length - 1) (cap - 1) := by rw [← hvv]; simp [add_addr]
  have hone : vv.oneCell' = true := by rw [hvv']; rfl
  refine wp_store h22 (b := rb) (o := 0 + 0) (v := vv) (by rw [eTm, gQ]) (by rw [eTm, gR, gR, gQ]) hone (there_part hthere (by omega) (by omega)) ?_;rw [pNo, wpl_nil];have hon := h.on (w1 := w) (k := 1) c0 hr hcap hnil (by omega) (Fr.refl _ _) hvv';generalize ha4 : ((((((((a3.put (some 23) (.pointer (some ⟨rb, 0, none⟩))).put (some 24) (.pointer (some ⟨rb, 0, none⟩))).put (some 25) (.pointer (some ⟨rb, 0, none⟩))).put (some 26) (.pointer (some ⟨rb, 0 + 0, none⟩))).put (some 27) (.slice (some ⟨sb, o, none⟩) st.xs.length cap)).put (some 28) vv).put (some 29) (.pointer (some ⟨rb, 0, none⟩))).put (some 30) (.pointer (some ⟨rb, 0 + 0, none⟩))) = a4;have k4 : Kept 4 a3 a4 := by subst ha4; exact (((((((Kept.put0 (by omega) _).put (by omega) _).put (by omega) _).put (by omega) _).put (by omega) _).put (by omega) _).put (by omega) _).put (by omega) _
  have hz4 := k4.size;refine hK6 a4 _ (tUp ?_);refine wT fun K7 hK7 => ?_;rw [wCo, wp_move, eTm, k4.get 3 (by omega), q3, wCo];rw [wp_assign, eTm, gPs (by first | omega | (simp only [sPu]; omega)), wpl_nil];refine hK7 _ _ (wp_ret ?_);have hgr : g.2 = { st with xs := st.xs.drop 1 } := by rw [← hg]; simp [gBool, hx]
  refine ⟨by simp only [dPu]; rw [k4.defers, k3.defers, hd2], _, results_one hres, _, rfl, ?_, by rw [hgr]; exact hon.1, hon.2⟩;rw [gQ, ← hg];refine ⟨(c.toNat : Int) != 0, rfl, ?_⟩;simp [gBool, hx]
end Go.Kq

namespace Go.Kq
open Go Go.Proofs Go.Shelf
def ltN (x y : Nat) : Bool := decide (x < y)
theorem swo_ltN : Sort.SWO ltN where
  irrefl x := by simp [ltN]
  trans x y z h1 h2 := by simp only [ltN, decide_eq_true_eq] at *; omega
  ntrans x y z h1 h2 := by simp only [ltN, decide_eq_false_iff_not] at *; omega
theorem Fr.growth (w : World) (os : Array Obj) : Fr [] w (Sort.grow w os) where
  os := rfl
  tape := rfl
  output := rfl
  size := by rw [Sort.size_grow]; omega
  block k hk _ := Sort.heap_grow_old w os hk
  cells k cs T fz hk := ⟨cs, by rw [Sort.heap_grow_old w os (lt_of_block hk)]; exact hk, rfl, fun _ _ => rfl⟩
theorem Fr.drewN (w : World) (n : Nat) : Fr [] w (w.drewN n) where
  os := rfl
  tape := rfl
  output := rfl
  size := Nat.le_refl _
  block _ _ _ := rfl
  cells k cs T fz hk := ⟨cs, hk, rfl, fun _ _ => rfl⟩
structure LessM (P : Program) (g : FuncId) : Prop where
  enters : Enters P g
  call : ∀ (W : World) (ob b o c n : Nat) (G : Nat → Nat), W.cell? ⟨ob, 0, none⟩ = some (.slice (some ⟨b, o, none⟩) n c) → (∀ t, t < n → W.cell? ⟨b, o + t, none⟩ = some (.int .u32 ((G t : Nat) : Int))) → ∀ i j : Nat, i < n → j < n →
    Calls P g #[.int .i64 (i : Int), .int .i64 (j : Int), .pointer (some ⟨ob, 0, none⟩)] W fun e w' => e = .returned (.bool (decide (G i < G j))) ∧ ∃ q, w' = W.drewN q
def encK (k : Nat) : Value := .int .u32 (k : Int)
theorem u32s_enc (ks : List Nat) : u32s ks = ks.map encK := rfl
theorem sort_m {P : Program} {ρ : Ren} (L : LaysGg.n6 P ρ) {t e : TypeId} {i ie : TypeInfo} {fs g f2 f6 : FuncId} (hfs : ρ.f 6 = fs) (he : Enters P fs)
    (hi : P.info? t = some i) (hd : i.desc = .slice e) (hpk : P.packed t = false) (hie : P.info? e = some ie) (hke : ∀ w, (Extern.Rtype.kind e).run P w = .ok 10 w) (hs1 : ie.size = 1) (hp : ie.hasPointers = false) (hb : ie.bytes = 4) (hagg : ∀ w, (isAgg e).run P w = .ok false w)
    (hf2 : P.funcs.findIdx? (·.name == "internal/reflectlite" ++ ".Swapper$" ++ toString 2) = some f2) (hf6 : P.funcs.findIdx? (·.name == "internal/reflectlite" ++ ".Swapper$" ++ toString 6) = some f6)
    (gS : Bool) (hx : ∀ args W, (callFunc f6 args).run P W = ((Extern.ReflectliteSwapper.swap gS args).run P W).andThen fun v w' => .ok (.value v) w')
    (hl : LessM P g) : SortM P t fs g := by
  refine ⟨he, ?_⟩;intro w ob b o c ks hcell hr hth hne h32 hlen hks;subst hfs;have hpos : 0 < ks.length := List.length_pos_iff.2 hks;have hblk : b < w.heap.size := by
    have := hr 0 (.int .u32 (ks[0] : Nat)) (by simp [u32s, hpos]);exact lt_of_cell this
  have hH : Sort.Holds encK w b o ks.toArray := by
    intro j hj;have hj' : j < ks.length := by simpa using hj
    refine ⟨?_, (hth j hj').2⟩;have := hr j (.int .u32 (ks[j] : Nat)) (by simp [u32s, hj']);rw [this]; simp [encK, hj']
  by_cases h2 : 2 ≤ ks.length
  · have hK : Lib.swapperK ks.toArray.size ie 10 = 6 := by
      have c1 : (ks.toArray.size == 0) = false := by simp; omega
      have c2 : (ks.toArray.size == 1) = false := by simp; omega
      simp only [Lib.swapperK, c1, c2, hp, hb, Bool.false_and, Bool.false_eq_true, if_false]
    have hless : LessReads P g #[.pointer (some ⟨ob, 0, none⟩)] encK ltN b o ks.toArray.size w := by
      intro m os dk hs i j hi hj;have e1 : sortWorld encK w b o m dk os = Sort.putRow encK (Sort.grow (Sort.ahead w m) os) b o dk := by
        unfold sortWorld; rw [Sort.putRow_grow _ (Sort.ahead w m) _ b o _ hblk]
      have hHg : Sort.Holds encK (Sort.grow (Sort.ahead w m) os) b o ks.toArray := Sort.holds_grow _ _ _ b o _ hblk (Sort.holds_ahead _ _ _ _ _ _ hH);rw [show (#[Value.int .i64 (i : Int), Value.int .i64 (j : Int)] ++ #[Value.pointer (some ⟨ob, 0, none⟩)]) = #[Value.int .i64 (i : Int), Value.int .i64 (j : Int), Value.pointer (some ⟨ob, 0, none⟩)] from by simp];refine hl.call _ ob b o c ks.toArray.size (fun t => dk[t]!) ?_ (fun t ht => ?_) i j hi hj
      · rw [e1, Sort.cell?_putRow_other _ _ b o dk _ (Or.inl hne), Sort.cell?_grow _ _ _ (lt_of_cell hcell)];show w.cell? _ = _
        rw [hcell]; simp
      rw [e1]; exact Sort.cell?_putRow _ _ b o ks.toArray dk hHg hs t (by omega)
    have hS := Any.sort_Slice_sorted L t e i ie hi hd hpk hie 10 hke hs1 hagg encK (fun _ => rfl) ltN swo_ltN g #[.pointer (some ⟨ob, 0, none⟩)] hl.enters b o c ks.toArray (by simpa using h2) (by simp; omega) f6 (by rw [hK]; exact hf6) gS hx w hless hH hblk;have hsz : ks.toArray.size = ks.length := by simp
    rw [hsz] at hS;refine hS.mono ?_;rintro e w' ⟨rfl, d', n, os, hpm, hso, rfl⟩;obtain ⟨p1, _, p3⟩ := hpm;have p1' : d'.size = ks.length := by rw [p1, hsz]
    have hperm : d'.toList.Perm ks := by
      have e1 : d'.extract 0 ks.length = d' := by rw [← p1']; simp
      have e2 : ks.toArray.extract 0 ks.length = ks.toArray := by rw [← hsz]; simp
      rw [e1, e2] at p3
      simpa using p3
    have hw : Sort.grow (Sort.putRow encK (Sort.ahead w n) b o d') os = Sort.grow ((w.drewN n).setCells b o (u32s d'.toList)) os := by
      have := Lib.sorted_world encK w b o n ks.toArray d'.toList os hH (by rw [Array.length_toList, p1]);rw [Array.toArray_toList] at this;rw [this, u32s_enc]
    rw [hw];have f1 := Fr.drewN w n;have f2 := Fr.sets b (u32s d'.toList) (w.drewN n) o;have hul : (u32s d'.toList).length = ks.length := by simp [u32s, p1']
    have r2 := World.rangeAt_setCells_same (w.drewN n) b o (u32s d'.toList) (by rw [hul]; exact f1.there hth);generalize (w.drewN n).setCells b o (u32s d'.toList) = w2 at f2 r2 ⊢;have f3 := Fr.growth w2 os;refine ⟨⟨_, rfl⟩, d'.toList, hperm, ?_, f3.range r2 .nil, ?_⟩
    · rw [List.pairwise_iff_getElem];intro i j hi hj hij;have hi' : i < d'.size := by simpa using hi
      have hj' : j < d'.size := by simpa using hj
      have := hso i j (Nat.zero_le _) hij (by omega);simp only [ltN, decide_eq_false_iff_not, getElem!_pos d' i hi', getElem!_pos d' j hj'] at this;simp only [Array.getElem_toList]; omega
    refine (f1.nil (l := [⟨b, o, o + ks.length⟩])).tr (Fr.tr (b := w2) ?_ (f3.nil));rw [hul] at f2; exact f2
  have h1 : ks.length = 1 := by omega
  have hK : Lib.swapperK ks.length ie 10 = 2 := by rw [h1]; rfl
  refine (Any.sort_Slice_tiny L t e i ie hi hd hpk hie 10 hke (some ⟨b, o, none⟩) ks.length c (by omega) f2 (by rw [hK]; exact hf2) (.func g) #[] #[.pointer (some ⟨ob, 0, none⟩)] w).mono ?_;rintro e w' ⟨rfl, os, rfl⟩;have f3 := Fr.growth w os;refine ⟨⟨_, rfl⟩, ks, List.Perm.refl _, ?_, f3.range hr .nil, f3.nil⟩;obtain ⟨k, rfl⟩ := List.length_eq_one_iff.1 h1;simp
end Go.Kq

namespace Go.Kq
open Go Go.Proofs
theorem Reps.set {w : World} {A : Nat → Prop} : ∀ {tys : List Ty} {z : List Value} {xs : List V} {i : Nat} {ty : Ty} {v : Value} {x : V}, Reps w A tys z xs → tys[i]? = some ty → ty.size = 1 → Rep w A ty [v] x →
    Reps w A tys (z.set (Ty.sizes (tys.take i)) v) (xs.set i x)
  | [], z, xs, i, ty, v, x, _, hi, _, _ => by simp at hi
  | t :: ts, z, xs, i, ty, v, x, h, hi, h1, hx => by
    obtain ⟨c1, c2, y, r, rfl, rfl, h2, h3⟩ := h;have hl := h2.length
    cases i with
    | zero =>
      simp at hi; subst hi
      rw [h1] at hl;obtain ⟨c, rfl⟩ := List.length_eq_one_iff.1 hl;exact ⟨[v], c2, x, r, rfl, rfl, hx, h3⟩
    | succ i =>
      have hr := Reps.set h3 (by simpa using hi) h1 hx;refine ⟨c1, c2.set (Ty.sizes (ts.take i)) v, y, r.set i x, ?_, rfl, h2, hr⟩;rw [List.take_succ_cons, show Ty.sizes (t :: ts.take i) = t.size + Ty.sizes (ts.take i) from rfl, ← hl, List.set_append_right _ _ (by omega)]
      congr 2; omega
theorem Reps.setLt {w : World} {A : Nat → Prop} : ∀ {tys : List Ty} {z : List Value} {xs : List V} {i : Nat} {ty : Ty}, Reps w A tys z xs → tys[i]? = some ty → ty.size = 1 → Ty.sizes (tys.take i) < z.length
  | [], z, xs, i, ty, _, hi, _ => by simp at hi
  | t :: ts, z, xs, i, ty, h, hi, h1 => by
    obtain ⟨c1, c2, y, r, rfl, rfl, h2, h3⟩ := h;have hl := h2.length
    cases i with
    | zero => simp at hi; subst hi; simp [Ty.sizes]; omega
    | succ i =>
      have hr := Reps.setLt h3 (by simpa using hi) h1;rw [List.take_succ_cons, show Ty.sizes (t :: ts.take i) = t.size + Ty.sizes (ts.take i) from rfl, List.length_append]; omega
def DRun (P : Program) (N : Nat) (c : Code) (tys : List Ty) (d : List V → List V) : Prop :=
  ∀ (Q : Exit → Act → World → Prop) (a : Act) (w : World) (b o : Nat) (z : List Value) (xs : List V), a.tmps.size = N → a.defers = [] → get a 0 = .pointer (some ⟨b, o, none⟩) → w.rangeAt b o z → w.there b o z.length → Reps w NoFoot tys z xs →
    (∀ a' w' z', a'.tmps.size = N → a'.defers = [] → get a' 0 = .pointer (some ⟨b, o, none⟩) → z'.length = z.length → w'.rangeAt b o z' → w'.there b o z.length → Reps w' NoFoot tys z' (d xs) → Fr [⟨b, o, o + z.length⟩] w w' → Q .normal a' w') → c.wp P Q a w
theorem range_setAt {w : World} {b o i : Nat} {z : List Value} {v : Value} (hr : w.rangeAt b o z) (ht : w.there b o z.length) (hi : i < z.length) : (w.setCell ⟨b, o + i, none⟩ v).rangeAt b o (z.set i v) := by
  have f := Fr.set w b (o + i) v;intro j u hj
  by_cases hij : i = j
  · subst hij;rw [List.getElem?_set_self hi] at hj;simp at hj; subst hj
    exact range_set (there_part ht (by omega) (by omega))
  rw [List.getElem?_set_ne hij] at hj;exact f.cell (hr j u hj) (.cons (.inr (by simp only; omega)) .nil)
theorem DRun.one {P : Program} {N n k o i i1 : Nat} {S T : TypeId} {v : Value} {x : V} {ty : Ty} {tys : List Ty} {t1 t2 t3 t4 : TypeId} {p1 p2 p3 p4 : String} {e1 e2 e3 e4 : Array Edge}
    (hF : fieldOf P S k o = true) (hT : scal P T = true) (hi : tys[i]? = some ty) (h1 : ty.size = 1) (ho : o = Ty.sizes (tys.take i)) (hv : v.oneCell' = true) (hx : ∀ w, Rep w NoFoot ty [v] x) (hb : (decide (0 < n) && decide (n + 2 < N)) = true) :
    DRun P N (Code.region i1 ⟨[oM n 0 t1 p1 e1, ⟨some (n + 1), .nilCheck (.tmp n), t2, p2, e2, none⟩, oF (n + 2) S (n + 1) k t3 p3 e3, ⟨none, .store T (.tmp (n + 2)) (.const v), t4, p4, e4, none⟩]⟩ false) tys (fun xs => xs.set i x) := by
  intro Q a w b ob z xs hN hd h0 hz ht hr hk;simp only [Bool.and_eq_true, decide_eq_true_eq] at hb;obtain ⟨b1, b2⟩ := hb;have hlt := hr.setLt hi h1;subst ho;refine wp_reg ?_;rw [wCo, wp_move, eTm, h0, wCo];refine wp_nilCheck (q := ⟨b, ob, none⟩) (by rw [eTm, gQ]) ?_;refine wC (wFa (b := b) (i := ob) hF (by rw [eTm, gQ]) ?_);refine wC (wp_store hT (b := b) (o := ob + Ty.sizes (tys.take i)) (v := v) (by rw [eTm, gQ]) rfl hv (there_part ht (by omega) (by omega)) ?_);rw [pNo, wpl_nil];have f := Fr.set w b (ob + Ty.sizes (tys.take i)) v;have rg := range_setAt (v := v) hz ht hlt;have hr' := (hr.set hi h1 (hx w)).kept f (by intro r _ h; exact h) (fun _ h => h);generalize w.setCell ⟨b, ob + Ty.sizes (tys.take i), none⟩ v = w1 at f rg hr' ⊢;refine hk _ w1 _ (by simp only [sPu]; omega) (by simp only [dPu]; exact hd) (by rw [gR, gR, gR, h0]) (by simp) rg (f.there ht) hr' (f.mono ?_);intro r hrr; simp at hrr; subst hrr;exact .inr ⟨_, List.mem_singleton.2 rfl, rfl, by simp, by simp only; omega⟩
theorem def_sets {P : Program} {f : FuncId} {fn : Func} {N : Nat} {c : Code} {tys : List Ty} {d : List V → List V} (hf : P.funcs[f]? = some fn) (hname : (fn.name == "runtime.NumGoroutine") = false) (hr : fn.results = #[]) (hN : fn.ntmps = N) (hN0 : (decide (0 < N)) = true) (hb : fn.body = some c) (h : DRun P N c tys d) : DefM P f tys d := by
  have hN0 := of_decide_eq_true hN0;refine ⟨enters_of hf hname hb, ?_⟩;intro w b o z xs hz ht hr';refine calls_of_wp hf hb ?_;generalize ha0 : ({ tmps := #[Value.pointer (some ⟨b, o, none⟩)] ++ Array.replicate (fn.ntmps - #[Value.pointer (some ⟨b, o, none⟩)].size) undef, defers := [] } : Act) = a0;have hsz : a0.tmps.size = N := by subst ha0; simp [hN]; omega
  have hd0 : a0.defers = [] := by subst ha0; rfl
  have g0 : get a0 0 = .pointer (some ⟨b, o, none⟩) := by subst ha0; exact gAr rfl
  refine h _ a0 w b o z xs hsz hd0 g0 hz ht hr' fun a' w' z' _ d' _ _ r' _ e' f' => ?_;exact ⟨d', .tuple #[], by simp [results, hr], _, rfl, ⟨z', r', e'⟩, f'⟩
end Go.Kq

namespace Go.Kq
open Go Go.Proofs Go.ChangeShapes Go.WideShapes Go.RowKit
section
variable {H : Type} {enc : TypeId × Value → H} {P : Program}
theorem octs_of_ints {w : World} {b o : Nat} : ∀ (zs : List Int), (∀ i, i < zs.length → w.cell? ⟨b, o + i, none⟩ = some (.int .u8 (zs.getD i 0))) → (∀ n ∈ zs, (Lit.int .u8 n).wf = true) →
    w.rangeAt b o (octets (zs.map fun z => UInt8.ofNat z.toNat)) := by
  intro zs h hw j v hv;simp only [octets, List.map_map, List.getElem?_map, Option.map_eq_some_iff] at hv;obtain ⟨z, hz, rfl⟩ := hv;have hj : j < zs.length := (List.getElem?_eq_some_iff.1 hz).1;rw [h j hj];have hzz : zs.getD j 0 = z := by rw [List.getD, hz]; rfl
  have hwz := hw z (List.mem_of_getElem? hz);simp only [Lit.wf] at hwz;have hb : 0 ≤ z ∧ z ≤ 255 := by simpa [IntKind.min, IntKind.max, IntKind.signed, IntKind.bits] using hwz
  rw [hzz];simp only [Function.comp_apply, UInt8.toNat_ofNat', Option.some.injEq, Value.int.injEq, true_and];omega
theorem octets_of_arg {W : World} {base : Nat} {t e : TypeId} {v : Value} {d : DataW H} {ps : List MemPlace} (ht : P.underlying t = some (.slice e)) (he : P.underlying e = some (.int .u8)) (hc : P.cellsOf e = 1)
    (hval : Value.okWide P W .any base t v) (hd : DataW.Trod enc P W 0 (fun _ => true) true t v d ps) :
    ∃ q len cap, v = .slice q len cap ∧ (len ≤ 4294967296 → ∃ xs, OctE W (fun b => b < W.heap.size) (.slice q len cap) xs) := by
  obtain ⟨a, len, cap, rfl⟩ := okWide_slice ht hval;refine ⟨a, len, cap, rfl, fun hlen => ?_⟩;obtain ⟨fuel, hf⟩ := hd
  rcases open_ints ht he hc hf with ⟨hcs, _⟩ | ⟨a', len', cap', zs, hcs, _, hl, hm, hz, _, hcell, hwz⟩
  · simp [Value.cells] at hcs
    obtain ⟨rfl, rfl, rfl⟩ := hcs;exact ⟨[], .nil⟩
  simp [Value.cells] at hcs
  obtain ⟨rfl, rfl, rfl⟩ := hcs;simp only [if_true] at hz;obtain ⟨b, o, spot⟩ := a';have hsp : spot = none ∧ b < W.heap.size := by
    simp only [Value.okWide, ht, Cell.okWide, Cell.ok, World.has] at hval;refine ⟨hval.2.2.2.1, ?_⟩;obtain ⟨row, cells, hs, _⟩ := hval.2.2.2.2;simp only [World.shape?] at hs
    cases hb : W.heap[b]? with
    | none => simp [hb] at hs
    | some x => exact lt_of_block hb
  obtain ⟨rfl, hbl⟩ := hsp;have hr := octs_of_ints (b := b) (o := o) zs (fun i hi => by have := hcell i hi; rwa [Addr.add_lit] at this) hwz;refine ⟨(zs.take len).map fun z => UInt8.ofNat z.toNat, .inl ⟨some _, .inr ⟨b, o, cap, _, hbl, ?_, ⟨?_, ?_⟩, ?_, rfl⟩, rfl⟩⟩
  · simp; omega
  · simp; omega
  · simp; omega
  have := range_part hr 0 len
  simpa [octets_take, octets_drop, List.map_take] using this
theorem err_of_laid {W : World} {name nm : String} {d : DataW Unit} {g : Nat} {ti : TypeId} {ms : Array (String × TypeId)} (hg : P.globalNamed name = some g) (hty : (P.globals[g]?).map (·.type) = some ti) (hi : P.underlying ti = some (.interface ms))
    (h : laidMet P [(name, .iface nm d)] W) : ∃ u v, W.cell? ⟨g, 0, none⟩ = some (.iface u v) := by
  obtain ⟨ps, ⟨g', t', cs, fuel, p, q, hg', ht', hvar, hd, _, _⟩, _⟩ := h;obtain rfl := Option.some.inj (hg.symm.trans hg');obtain rfl := Option.some.inj (hty.symm.trans ht');obtain ⟨l⟩ := cs;obtain ⟨_, u, v, hl, _⟩ := iface_of_trod hi hd;have : l = [.iface u v] := by simpa using hl
  subst this;exact ⟨u, v, World.var?_cell hg hvar 0⟩
theorem trodAll_stays (hl : laidOutB P = true) {W W' : World} {base : Nat} {sp' : Nat → Bool} :
    ∀ {ts : List TypeId} {vs : List Value} {ds : List (DataW H)} {ps : List MemPlace}, (∀ t ∈ ts, P.readableRec t = true ∧ t < P.types.size) → DataW.TrodAll enc P W base (fun _ => true) true ts vs ds ps →
      (∀ p ∈ ps, W.sameAt W' p) → (∀ p ∈ ps, sp' p.block = true) → DataW.TrodAll enc P W' base sp' true ts vs ds ps
  | [], _, _, _, _, h, _, _ => by
    obtain ⟨rfl, rfl, rfl⟩ := trodAll_nil h;exact h
  | t :: ts, _, _, _, ht, h, hs, hp => by
    obtain ⟨v, vs1, d, ds1, a, b, rfl, rfl, rfl, h1, h2⟩ := trodAll_cons h;exact ⟨a, b, WideElems.Trod_stays hl (ht t (by simp)).1 (ht t (by simp)).2 h1 (fun p hp' => hs p (List.mem_append_left _ hp')) (fun p hp' => hp p (List.mem_append_left _ hp')),
      trodAll_stays hl (fun t ht' => ht t (by simp [ht'])) h2 (fun p hp' => hs p (List.mem_append_right _ hp')) (fun p hp' => hp p (List.mem_append_right _ hp')), rfl⟩
theorem post_true (hl : laidOutB P = true) {f : Func} {s : ChangeSpec} {apart fresh handsOn again : Bool} {W W' : World} {args : Array Value} {ds gs : List (DataW H)} {before p : List MemPlace} {rt : TypeId}
    (hW : DataW.Whole enc P f.params.toList s.vars apart W args.toList ds gs before) (hv : s.vars = []) (hA : DataW.TrodAll enc P W 0 (fun _ => true) true f.params.toList args.toList ds p) (hbp : before = p) (hgs : gs = [])
    (hs : s.fn H (ds ++ gs) = { results := [.lit (.bool true)], args := ds }) (hrt : f.resultTypes = #[rt]) (hb : P.underlying rt = some .bool)
    (hrd : ∀ t ∈ f.params.toList, P.readableRec t = true ∧ t < P.types.size) (hF : Fr [] W W') :
    s.post enc P f apart fresh handsOn again W args (.bool true) W' := by
  subst hbp;have hbl := hF.below;have hlt : ∀ x ∈ before, x.block < W.heap.size := fun x hx => hW.lt x hx;have hold : ∀ x ∈ before, (fun b => decide (b < W.heap.size)) x.block = true := fun x hx => by simpa using hlt x hx
  have hres : ∀ (b : Nat) (sp : Nat → Bool) (hd : Bool), DataW.TrodAll enc P W' b sp hd f.resultTypes.toList ((Value.bool true).resultList f.resultTypes.size) (s.fn H (ds ++ gs)).results [] := by
    intro b sp hd;rw [hs, hrt];exact trodAll_cons_mk (shut_bool hb true) trodAll_mk0
  have hargs : ∀ sp : Nat → Bool, (∀ x ∈ before, sp x.block = true) → DataW.TrodAll enc P W' 0 sp true f.params.toList args.toList (s.fn H (ds ++ gs)).args before := by
    intro sp hsp;rw [hs];exact trodAll_stays hl hrd hA (fun x hx => hbl.same (hlt x hx)) hsp
  have hvars : ∀ sp : Nat → Bool, DataW.TrodVars enc P W' sp s.vars (s.fn H (ds ++ gs)).vars [] := by
    intro sp;rw [hv, hs];exact (rfl : ([] : List MemPlace) = [])
  refine ⟨ds, gs, before, [], before, [], hW, hres _ _ _, hargs _ hold, hvars _, World.keptBut_mono (fun x hx => ⟨hx, ?_⟩) (hbl.frame (· ∈ before)), fun _ => ?_⟩
  · exact Or.inr (Or.inl hx)
  obtain ⟨_, _, _, _, _, hz, hn⟩ := hW;refine ⟨?_, _, _, ([] ++ before) ++ [], ⟨[] ++ before, [], trodAll_append (hargs _ (fun _ _ => rfl)) (hres _ _ _), hvars _, rfl, ?_, ?_⟩, ?_⟩
  · exact ok_one (by rw [hrt]) rfl (okWide_bool_mk hb _)
  · intro b off hp;have hin : MemPlace.cell b off ∈ before := by simpa using hp
    rw [hbl.frozen (hlt _ hin)];exact hz b off hin
  · intro ha
    simpa using hn ha
  intro x hx _
  simpa using hx
end
end Go.Kq

namespace Go.Kq
open Go Go.Proofs
theorem elt_uuid {P : Program} {ge : Nat} {cx : Cx} {m sa si id id2 n n1 v : Nat} {f : FuncId} {S T et bs : Nat} {zs : List Value} {ats : Array TypeId} {t1 t2 t3 t4 t5 t6 t7 t8 : TypeId} {p1 p2 p3 p4 p5 p6 p7 p8 : String} {e1 e2 e3 e4 e5 e6 e7 e8 : Array Edge}
    (hf : UuidM P f) (hT : RowT P T zU) (hS : sliceOf P S et 16 bs = true)
    (hb : (decide (n < cx.N) && decide (v < n) && decide (m ≤ v) && decide (v < n1) && decide (sa < m) && decide (si < m) && decide (n1 + 3 < cx.N) && cx.below m) = true) :
    Elt P ge cx m (Code.seq (Code.region id ⟨[oC n f #[.tmp cx.tb] ats t1 p1 e1, ⟨some v, .alloc T, t2, p2, e2, none⟩, oS T v n t3 p3 e3]⟩ false)
      (Code.region id2 ⟨[oM n1 sa t4 p4 e4, oM (n1 + 1) si t5 p5 e5, oL (n1 + 2) T v t6 p6 e6, ⟨some (n1 + 3), .indexAddr S (.tmp n1) (.tmp (n1 + 1)), t7, p7, e7, none⟩, oS T (n1 + 3) (n1 + 2) t8 p8 e8]⟩ false)) sa si zs .uuid (rdOne fun _ _ => gUuid) := by
  intro e pb po K Q a w st ba bo len cap i hs hm hmb hsa hsi hi ht hzs hk hq;simp only [Bool.and_eq_true, decide_eq_true_eq] at hb;obtain ⟨⟨⟨⟨⟨⟨⟨b1, b2⟩, b3⟩, b4⟩, b7⟩, b8⟩, b5⟩, b6⟩ := hb;have hsz := hs.size;have hul := uuid_len st;have hgu : gUuid st = (.s ((rdSpan 16 st).1.getD uuid0), (gUuid st).2) := rfl;have h16 : Ty.uuid.size = 16 := rfl;simp only [h16] at *;generalize hq0 : bo + i * 16 = q0 at *;have hpw : ba < w.heap.size := there_lt ht (by omega);refine wS fun K1 hK1 => ?_;rw [wCo];refine wp_calls (R := fun x w' => x = .agg (octets ((rdSpan 16 st).1.getD uuid0)).toArray ∧ RW w' e.rb e.sb (gUuid st).2 ∧ Fr [⟨e.rb, 0, 2⟩] w w') hf.enters (vs := #[.pointer (some ⟨e.rb, 0, none⟩)])
    (by simp only [List.map_toArray, List.map_cons, List.map_nil, eTm]; rw [hs.b])
    ((hf.call w e.rb e.sb st hm.rw).mono (by rintro e' w' ⟨rfl, h⟩; exact ⟨_, rfl, rfl, h⟩)) ?_
  rintro x w1 ⟨rfl, hrw, f1⟩;generalize hl : (rdSpan 16 st).1.getD uuid0 = l at *;have hl16 : l.length = 16 := hul.1;have ho16 : (octets l).length = 16 := by rw [lOc, hl16]
  have szw1 := f1.size;refine wC (wp_alloc hT.zero ?_);rw [wCo];have fa := Fr.alloc [] w1 (.cells (Value.agg zU.toArray).cells T);have tha : (w1.alloc (.cells (Value.agg zU.toArray).cells T)).there w1.heap.size 0 16 := there_new w1 zU.toArray T;have sza := size_alloc w1 (.cells (Value.agg zU.toArray).cells T);generalize w1.alloc (.cells (Value.agg zU.toArray).cells T) = w2 at fa tha sza ⊢;refine wp_storeRow hT (cs := octets l) (b := w1.heap.size) (o := 0) (by rw [ho16]; rfl) (by rw [eTm, gQ]) (by rw [eTm, gR, gQ]) (octets_one l) (by rw [ho16]; exact tha) ?_;rw [pNo, wpl_nil];have fs := Fr.sets w1.heap.size (octets l) w2 0;have rs := World.rangeAt_setCells_same w2 w1.heap.size 0 (octets l) (by rw [ho16]; exact tha);generalize w2.setCells w1.heap.size 0 (octets l) = w3 at fs rs ⊢;have f13 : Fr [] w1 w3 := fa.trans fs (by intro r hr; simp at hr; subst hr; exact .inl (Nat.le_refl _));have sz13 := f13.size;have k1 : Kept m a ((a.put (some n) (.agg (octets l).toArray)).put (some v) (.pointer (some ⟨w1.heap.size, 0, none⟩))) := (Kept.put0 (by omega) _).put b3 _;have gv : get ((a.put (some n) (.agg (octets l).toArray)).put (some v) (.pointer (some ⟨w1.heap.size, 0, none⟩))) v = .pointer (some ⟨w1.heap.size, 0, none⟩) := gQ;generalize ((a.put (some n) (.agg (octets l).toArray)).put (some v) (.pointer (some ⟨w1.heap.size, 0, none⟩))) = a1 at k1 gv ⊢;have hs1 := hs.kept b6 k1;have hz1 := hs1.size;have gsa : get a1 sa = .slice (some ⟨ba, bo, none⟩) len cap := (k1.get sa b7).trans hsa;have gsi : get a1 si = .int .i32 i := (k1.get si b8).trans hsi;refine hK1 a1 w3 ?_;refine wp_reg ?_;rw [wCo, wp_move, eTm, gsa, wCo, wp_move, eTm, gR, gsi, wCo];refine wp_loadRow hT (cs := octets l) (b := w1.heap.size) (o := 0) (by rw [ho16]; rfl) (by rw [eTm, gR, gR, gv]) rs ?_;refine wC (wp_indexAddr (k1 := .i32) (i := i) hS (b := ba) (o := bo) (len := len) (cap := cap) (by rw [eTm, gR, gR, gQ]) (by rw [eTm, gR, gQ]) (by omega) (by omega) ?_);rw [Int.toNat_natCast, hq0, wCo];have ht3 : w3.there ba q0 16 := f13.there (f1.there ht);refine wp_storeRow hT (cs := octets l) (b := ba) (o := q0) (by rw [ho16]; rfl) (by rw [eTm, gQ]) (by rw [eTm, gR, gQ]) (octets_one l) (by rw [ho16]; exact ht3) ?_;rw [pNo, wpl_nil];have f4 := Fr.sets ba (octets l) w3 q0;have r4 := World.rangeAt_setCells_same w3 ba q0 (octets l) (by rw [ho16]; exact ht3);generalize w3.setCells ba q0 (octets l) = w4 at f4 r4 ⊢;rw [ho16] at f4;have hrw3 : RW w3 e.rb e.sb (gUuid st).2 := hrw.kept f13 (by simp);refine hk _ w4 (.s l) (gUuid st).2 (by simp only [rdOne]; rw [hgu]) (k1.trans ((((Kept.put0 (by omega) _).put (by omega) _).put (by omega) _).put (by omega) _)) (hrw3.kept f4 (by intro r hr; simp at hr; subst hr; exact ⟨hmb.pr, hmb.ps⟩)) ?_ ⟨octets l, r4, l, hl16, rfl, rfl⟩;refine ((f1.mono (l' := [⟨e.rb, 0, 2⟩, ⟨ba, q0, q0 + 16⟩]) ?_).tr f13.nil).trans f4 ?_
  · intro r hr; simp at hr; subst hr; exact .inr ⟨_, by simp, rfl, by simp, by simp⟩
  intro r hr; simp at hr; subst hr; exact .inr ⟨⟨ba, q0, q0 + 16⟩, by simp, rfl, by simp, by simp⟩
end Go.Kq

namespace Go.Kq
open Go Go.Proofs
variable {P : Program} {TT TL S TS : TypeId} {N sv st si m n k o kf id id2 : Nat}
theorem app_uuid2 {TE Ti et8 : TypeId} (hT : TreeTys P TT TL) (hf : RowT P TE zU) (h2 : sliceOf P Ti et8 1 1 = true) (hz2 : zeroIs P et8 [.int .u8 0])
    {t0 t1 t2 t3 t4 t5 t6 t7 t8 t9 t10 t11 t12 t13 t14 t15 t16 t17 t18 t19 t20 : TypeId} {p0 p1 p2 p3 p4 p5 p6 p7 p8 p9 p10 p11 p12 p13 p14 p15 p16 p17 p18 p19 p20 : String} {e0 e1 e2 e3 e4 e5 e6 e7 e8 e9 e10 e11 e12 e13 e14 e15 e16 e17 e18 e19 e20 : Array Edge}
    (he : edgeOk 0 [e0, e1, e2, e3, e4, e5, e6, e7, e8, e9, e10, e11, e12, e13, e14, e15, e16, e17, e18, e19, e20] [[], [0], [], [2], [3], [4], [5], [], [7], [8], [9], [], [10, 11], [12], [13], [14], [15], [6, 16], [1], [18], [0, 1, 2, 3, 4, 5, 6, 7, 8, 9, 10, 11, 12, 13, 14, 15, 16, 17, 18, 19]] = true)
    (hS : fieldOf P S kf o = true) (hTS0 : sliceN P TS (Ty.size .uuid) = true) (hscl : scal P TS = true)
    (hb : (decide (sv < n) && decide (st < n) && decide (si < n) && decide (m ≤ n) && decide (n + 20 ≤ N)) = true) :
    AppStep P N sv st si m (Code.region id ⟨[oF n TT st 3 t0 p0 e0, oL (n + 1) TL n t1 p1 e1, oF (n + 2) TT st 3 t2 p2 e2, oL (n + 3) TL (n + 2) t3 p3 e3, ⟨some (n + 4), .indexAddr TL (.tmp (n + 3)) (.const (.int .i64 k)), t4, p4, e4, none⟩, oF (n + 5) TT (n + 4) 3 t5 p5 e5, oL (n + 6) TL (n + 5) t6 p6 e6,
      oM (n + 7) sv t7 p7 e7, ⟨some (n + 8), .nilCheck (.tmp (n + 7)), t8, p8, e8, none⟩, oF (n + 9) S (n + 8) kf t9 p9 e9, oL (n + 10) TS (n + 9) t10 p10 e10,
      oM (n + 11) si t11 p11 e11, ⟨some (n + 12), .indexAddr TS (.tmp (n + 10)) (.tmp (n + 11)), t12, p12, e12, none⟩, ⟨some (n + 13), .slice TE (.tmp (n + 12)) none none none, t13, p13, e13, none⟩, ⟨some (n + 14), .call ⟨.builtin .append, #[(.const (.slice none 0 0)), (.tmp (n + 13))], #[Ti, Ti]⟩, t14, p14, e14, none⟩, ⟨some (n + 15), .build TT #[(1, .tmp (n + 14))], t15, p15, e15, none⟩, ⟨some (n + 16), .buildSlice TL 1 #[(0, .tmp (n + 15))], t16, p16, e16, none⟩, ⟨some (n + 17), .call ⟨.builtin .append, #[.tmp (n + 6), .tmp (n + 16)], #[TL, TL]⟩, t17, p17, e17, none⟩, ⟨some (n + 18), .indexAddr TL (.tmp (n + 1)) (.const (.int .i64 k)), t18, p18, e18, none⟩, oF (n + 19) TT (n + 18) 3 t19 p19 e19, oS TL (n + 19) (n + 17) t20 p20 e20]⟩ true) k o .uuid tUuid := by
  intro e K Q a w ts s1 b lv l x j y hN hsv hst hsi hm hy hlo hx hj hk hll hK;obtain ⟨et, es, hTS⟩ := sliceN_is hTS0;simp only [Bool.and_eq_true, decide_eq_true_eq] at hb;obtain ⟨⟨⟨⟨b1, b2⟩, b3⟩, b4⟩, b5⟩ := hb;obtain ⟨c, hc, hrc⟩ := hx.one rfl;obtain ⟨q, cap, rfl, hq, _, hel⟩ := arr_cell hrc;have hjl : j < x.items.length := (List.getElem?_eq_some_iff.1 hj).1;obtain ⟨qa, rfl⟩ : ∃ qa, q = some qa := by
    cases q with
    | some qa => exact ⟨qa, rfl⟩
    | none => cases x <;> simp [V.isNil] at hq; simp [V.items] at hjl
  obtain ⟨sb, so, rfl, hB, hels⟩ := hel _ rfl;obtain ⟨ce, hce, hcl, ly, hl16, rfl, rfl⟩ := hels j y hj;have hBs := hm.bs sb hB;have hs01 : e.s0 ≤ s1 := hm.s0;have hs1 : s1 ≤ w.heap.size := hm.top;have hsp : ∀ r ∈ spare lv 5, From s1 w r.b := hlo.spare_in;have hpb : e.pb < e.s0 := hm.ps;have hfp : ∀ w', Fr (spare lv 5) w w' → w'.cell? ⟨e.pb, e.po + o, none⟩ = some (.slice (some ⟨sb, so, none⟩) x.items.length cap) := fun w' hf' => hf'.cell hc (fun r hr => .inl (by have := hsp r hr; unfold From at this; omega));have hzero := hT.zero;refine wp_drawE (os := [oF n TT st 3 t0 p0 e0, oL (n + 1) TL n t1 p1 e1, oF (n + 2) TT st 3 t2 p2 e2, oL (n + 3) TL (n + 2) t3 p3 e3, ⟨some (n + 4), .indexAddr TL (.tmp (n + 3)) (.const (.int .i64 k)), t4, p4, e4, none⟩, oF (n + 5) TT (n + 4) 3 t5 p5 e5, oL (n + 6) TL (n + 5) t6 p6 e6,
      oM (n + 7) sv t7 p7 e7, ⟨some (n + 8), .nilCheck (.tmp (n + 7)), t8, p8, e8, none⟩, oF (n + 9) S (n + 8) kf t9 p9 e9, oL (n + 10) TS (n + 9) t10 p10 e10,
      oM (n + 11) si t11 p11 e11, ⟨some (n + 12), .indexAddr TS (.tmp (n + 10)) (.tmp (n + 11)), t12, p12, e12, none⟩, ⟨some (n + 13), .slice TE (.tmp (n + 12)) none none none, t13, p13, e13, none⟩, ⟨some (n + 14), .call ⟨.builtin .append, #[(.const (.slice none 0 0)), (.tmp (n + 13))], #[Ti, Ti]⟩, t14, p14, e14, none⟩, ⟨some (n + 15), .build TT #[(1, .tmp (n + 14))], t15, p15, e15, none⟩, ⟨some (n + 16), .buildSlice TL 1 #[(0, .tmp (n + 15))], t16, p16, e16, none⟩, ⟨some (n + 17), .call ⟨.builtin .append, #[.tmp (n + 6), .tmp (n + 16)], #[TL, TL]⟩, t17, p17, e17, none⟩, ⟨some (n + 18), .indexAddr TL (.tmp (n + 1)) (.const (.int .i64 k)), t18, p18, e18, none⟩, oF (n + 19) TT (n + 18) 3 t19 p19 e19])
    [spC [] (.pointer (some ⟨e.tb, 0 + 3, none⟩)), spC [0] (.slice (some ⟨e.lb, 0, none⟩) e.n e.n), spC [] (.pointer (some ⟨e.tb, 0 + 3, none⟩)), spC [2] (.slice (some ⟨e.lb, 0, none⟩) e.n e.n),
      spC [3] (.pointer (some ⟨e.lb, 0 + (k : Int).toNat * 5, none⟩)), spC [4] (.pointer (some ⟨e.lb, 0 + (k : Int).toNat * 5 + 3, none⟩)), spC [5] lv,
      spC [] (.pointer (some ⟨e.pb, e.po, none⟩)), spC [7] (.pointer (some ⟨e.pb, e.po, none⟩)), spC [8] (.pointer (some ⟨e.pb, e.po + o, none⟩)), spC [9] (.slice (some ⟨sb, so, none⟩) x.items.length cap),
      spC [] (.int .i64 j), spC [10, 11] (.pointer (some ⟨sb, so + (j : Int).toNat * Ty.size .uuid, none⟩)), spC [12] (.slice (some ⟨sb, so + (j : Int).toNat * Ty.size .uuid, none⟩) 16 16), spR [13] (fun v w' => OctE w' (From w.heap.size w') v ly), spR [14] (fun v w' => ∃ cs : List Value, v = .agg cs.toArray ∧ RepT w' (From w.heap.size w') cs (tUuid (.s ly))),
      spR [15] (fun v w' => ∃ (b : Nat) (cs : List Value), v = .slice (some ⟨b, 0, none⟩) 1 1 ∧ w.heap.size ≤ b ∧ w'.rangeAt b 0 cs ∧ RepT w' (From w.heap.size w') cs (tUuid (.s ly))),
      spW [6, 16] (fun v w' => LOwn w' (From s1 w') v (l ++ [tUuid (.s ly)])),
      spC [1] (.pointer (some ⟨e.lb, 0 + (k : Int).toNat * 5, none⟩)), spC [18] (.pointer (some ⟨e.lb, 0 + (k : Int).toNat * 5 + 3, none⟩))] n (spare lv 5) hT.mixed he (by simp [shape]) rfl
    (by simp [spC, spR, spW]) (by simp; omega)
    ⟨lCc _ _ _, lCc _ _ _, lCc _ _ _, lCc _ _ _, lCc _ _ _, lCc _ _ _, lCc _ _ _, lCc _ _ _, lCc _ _ _, lCc _ _ _, lCc _ _ _, lCc _ _ _, lCc _ _ _, lCc _ _ _, ?_, ?_, ?_, ?_, lCc _ _ _, lCc _ _ _, trivial⟩ ?_ ?_
  · intro v w1 w2 hf12 h1;have h1 : OctE w1 (From w.heap.size w1) v ly := h1;exact h1.kept hf12 (fun r hr hF => by have := hsp r hr; unfold From at this hF; omega) (From.mono hf12.size)
  · rintro v w1 w2 hf12 ⟨cs, h1, h2⟩;exact ⟨cs, h1, h2.kept hf12 (fun r hr hF => by have := hsp r hr; unfold From at this hF; omega) (From.mono hf12.size)⟩
  · rintro v w1 w2 hf12 ⟨b, cs, h1, h2, h3, h4⟩;exact ⟨b, cs, h1, h2, hf12.range h3 (fun r hr => .inl (by have := hsp r hr; unfold From at this; omega)), h4.kept hf12 (fun r hr hF => by have := hsp r hr; unfold From at this hF; omega) (From.mono hf12.size)⟩
  · intro v w1 w2 hf12 h1;have hf12 : Fr [] w1 w2 := hf12;have h1 : LOwn w1 (From s1 w1) v (l ++ [tUuid (.s ly)]) := h1;exact h1.kept hf12 (by simp) (From.mono hf12.size)
  · refine ⟨op_c fun a' w' hk' hf' hd' K' hK' => ?_, op_c fun a' w' hk' hf' hd' K' hK' => ?_, op_c fun a' w' hk' hf' hd' K' hK' => ?_, op_c fun a' w' hk' hf' hd' K' hK' => ?_, op_c fun a' w' hk' hf' hd' K' hK' => ?_,
      op_c fun a' w' hk' hf' hd' K' hK' => ?_, op_c fun a' w' hk' hf' hd' K' hK' => ?_, op_c fun a' w' hk' hf' hd' K' hK' => ?_, op_c fun a' w' hk' hf' hd' K' hK' => ?_, op_c fun a' w' hk' hf' hd' K' hK' => ?_,
      op_c fun a' w' hk' hf' hd' K' hK' => ?_, op_c fun a' w' hk' hf' hd' K' hK' => ?_, op_c fun a' w' hk' hf' hd' K' hK' => ?_, op_c fun a' w' hk' hf' hd' K' hK' => ?_, op_r fun a' w' hk' hf' hd' K' hK' => ?_, op_r fun a' w' hk' hf' hd' K' hK' => ?_, op_r fun a' w' hk' hf' hd' K' hK' => ?_,
      op_w fun a' w' hk' hf' hd' K' hK' => ?_, op_c fun a' w' hk' hf' hd' K' hK' => ?_, op_c fun a' w' hk' hf' hd' K' hK' => ?_, trivial⟩
    · exact wFa (hT.flat.field (by decide)) (by rw [eTm, hk'.get st b2, hst]) hK'
    · exact wp_load hT.scl (by rw [eTm]; exact hd'.c 0 (by simp) rfl) ((hm.kept hf' (fun r hr => (hsp r hr).1)).tree 3 _ rfl) hK'
    · exact wFa (hT.flat.field (by decide)) (by rw [eTm, hk'.get st b2, hst]) hK'
    · exact wp_load hT.scl (by rw [eTm]; exact hd'.c 2 (by simp) rfl) ((hm.kept hf' (fun r hr => (hsp r hr).1)).tree 3 _ rfl) hK'
    · exact wp_indexAddr hT.sl (by rw [eTm]; exact hd'.c 3 (by simp) rfl) rfl (by omega) (by omega) hK'
    · exact wFa (hT.flat.field (by decide)) (by rw [eTm]; exact hd'.c 4 (by simp) rfl) hK'
    · obtain ⟨es, h4, rfl, _⟩ := (hm.kept hf' (fun r hr => (hsp r hr).1)).els k _ hy;refine wp_load hT.scl (by rw [eTm]; exact hd'.c 5 (by simp) rfl) ?_ hK';have := h4 3 lv rfl
      simpa using this
    · rw [wp_move, eTm, hk'.get sv b1, hsv]; exact hK'
    · exact wp_nilCheck (by rw [eTm]; exact hd'.c 7 (by simp) rfl) hK'
    · exact wFa hS (by rw [eTm]; exact hd'.c 8 (by simp) rfl) hK'
    · exact wp_load hscl (by rw [eTm]; exact hd'.c 9 (by simp) rfl) (hfp w' hf') hK'
    · rw [wp_move, eTm, hk'.get si b3, hsi]; exact hK'
    · exact wp_indexAddr hTS (by rw [eTm]; exact hd'.c 10 (by simp) rfl) (by rw [eTm]; exact hd'.c 11 (by simp) rfl) (by omega) (by omega) hK'
    · exact wp_sliceRow hf (by rw [eTm]; exact hd'.c 12 (by simp) rfl) (by simp [zU, uuid0, octets]) hK'
    · have hoc : OctE w' (· = sb) (.slice (some ⟨sb, so + (j : Int).toNat * Ty.size .uuid, none⟩) 16 16) ly := .inl ⟨some ly, .inr ⟨sb, _, 16, ly, rfl, by rw [hl16], ⟨by omega, by omega⟩, by have := hf'.range hce (fun r hr => .inl (by have := hsp r hr; unfold From at this; omega)); simpa using this, rfl⟩, rfl⟩
      refine wp_copySrc h2 hz2 (xs := ly) (A := (· = sb)) (by rw [eTm]; exact hd'.c 13 (by simp) rfl) hoc (by omega) fun y w2 sb2 hf2 hsb hlt hsrc => hK' y w2 ?_ hf2.nil;show OctE w2 (From w.heap.size w2) y ly
      rcases hsrc with ⟨h1, h2, rfl⟩ | ⟨h1, o', cap', rfl, hc', hr⟩
      · rw [h2]; exact OctE.nil
      have hne : ly ≠ [] := by simpa using h1
      exact .inl ⟨some ly, .inr ⟨sb2, o', cap', ly, ⟨Nat.le_trans hf'.size hsb, hlt hne⟩, rfl, hc', hr, rfl⟩, rfl⟩
    · have ho := hd'.at (d := 14) (by simp) rfl;exact wp_build1 hT.flat (by decide) (by rw [eTm]) ho.one (hK' _ _ ⟨_, rfl, repT_str ho⟩ (Fr.refl _ _))
    · obtain ⟨cs, h1, h2⟩ := hd'.at (d := 15) (by simp) rfl;have hwf := hf'.size;refine wp_slice1 hT.sl hzero rfl (by omega) (cs := cs) (by rw [eTm, h1]; rfl) h2.length fun _ => ?_;have hal := Fr.alloc [] w' (.cells cs.toArray TT);exact hK' _ _ ⟨_, cs, rfl, hwf, range_new w' cs.toArray TT (0, 0), h2.kept hal (by simp) (From.mono hal.size)⟩ hal
    · obtain ⟨bb, cs, h1, h2, h3, h4⟩ := hd'.at (d := 16) (by simp) rfl;have hlv : get a' (n + 6) = lv := hd'.c 6 (by simp) rfl;have hwf := hf'.size;obtain ⟨flat, ho1, ho2⟩ := hlo.spares hf' (A' := From s1 w') (From.mono hf'.size);have hc4 := h4.length;refine wp_append (A := From s1 w') (z := zT) hT.sl hzero rfl (by rw [eTm, hlv]) (by rw [eTm, h1]) ho1 (by omega) (news := cs) (by omega) h3 h4.ones (by omega) (by simp only [maxLen]; omega) ?_;intro v' w2 hf2 ho' hbk;refine hK' _ _ ?_ hf2;have hf2s := hf2.size;refine LOwn.app (A' := From s1 w2) ho2 ho1 hf2 ?_ hbk (fun b hb => ⟨From.mono hf2s b hb, hb.2⟩) h4 ?_
      · obtain ⟨ha, hb⟩ := ho';refine ⟨ha, hb.imp (fun h => h) ?_⟩;rintro ⟨g', o', cap', hg', hrest⟩;refine ⟨g', o', cap', ?_, hrest⟩
        rcases hg' with hg' | hg'
        · exact From.mono hf2s _ hg'
        exact ⟨by have := hg'.1; omega, hg'.2⟩
      intro b hb;refine ⟨⟨by have := hb.1; omega, hb.2⟩, fun hbl => ?_⟩;have := (hlo.blk_in hbl).2;have := hb.1;omega
    · exact wp_indexAddr hT.sl (by rw [eTm]; exact hd'.c 1 (by simp) rfl) rfl (by omega) (by omega) hK'
    exact wFa (hT.flat.field (by decide)) (by rw [eTm]; exact hd'.c 18 (by simp) rfl) hK'
  intro a' w' hk' hf' hd';have h17 : get a' (n + 19) = .pointer (some ⟨e.lb, k * 5 + 3, none⟩) := by
    have := hd'.c (nd' := [18]) (x := .pointer (some ⟨e.lb, 0 + (k : Int).toNat * 5 + 3, none⟩)) 19 (by simp) rfl;rw [this]; simp
  have h15 : LOwn w' (From s1 w') (get a' (n + 17)) (l ++ [tUuid (.s ly)]) := hd'.at (d := 17) (by simp) rfl;have hmw := hm.kept hf' (fun r hr => (hsp r hr).1);have hth : w'.there e.lb (k * 5) 5 := there_part hmw.thL (by omega) (by omega);refine wp_store hT.scl (by rw [eTm, h17]) rfl h15.one (there_part hth (by omega) (by omega)) ?_;obtain ⟨h5, h6⟩ := hmw.setL hk hy h15.one;refine hK _ _ _ (hk'.mono b4) ⟨spare lv 5, fun r hr => (hsp r hr).1, ?_⟩ h5 (h15.kept h6 ?_ (From.mono h6.size))
  · refine (hf'.mono (l' := ⟨e.lb, k * 5, k * 5 + 5⟩ :: spare lv 5) (fun r hr => Rng.in_self (List.mem_cons_of_mem _ hr))).trans h6 ?_;intro r hr; simp at hr; subst hr; exact Rng.in_self (by simp)
  intro r hr hF; simp at hr; subst hr; have := hF.1; have := hm.ls; simp only at *; omega
theorem app_uuid1 {TE Ti et8 : TypeId} (hT : TreeTys P TT TL) (hf : RowT P TE zU) (h2 : sliceOf P Ti et8 1 1 = true) (hz2 : zeroIs P et8 [.int .u8 0]) {zt : Array Value} (hzt : zt.toList = zT)
    {t0 t1 t2 t3 t4 t5 t6 t7 t8 t9 t10 t11 t12 t13 t14 t15 t16 t17 t18 t19 t20 t21 : TypeId} {p0 p1 p2 p3 p4 p5 p6 p7 p8 p9 p10 p11 p12 p13 p14 p15 p16 p17 p18 p19 p20 p21 : String} {e0 e1 e2 e3 e4 e5 e6 e7 e8 e9 e10 e11 e12 e13 e14 e15 e16 e17 e18 e19 e20 e21 : Array Edge}
    (he : edgeOk 0 [e0, e1, e2, e3, e4, e5, e6, e7, e8, e9, e10, e11, e12, e13, e14, e15, e16, e17, e18, e19] [[], [0], [1], [2], [3], [], [5], [6], [7], [], [8, 9], [10], [11], [12], [4], [], [0, 1, 2, 3, 4, 5, 6, 7, 8, 9, 10, 11, 12, 13, 14, 15], [0, 1, 2, 3, 4, 5, 6, 7, 8, 9, 10, 11, 12, 13, 14, 15, 16], [0, 1, 2, 3, 4, 5, 6, 7, 8, 9, 10, 11, 12, 13, 14, 15, 16, 17], [0, 1, 2, 3, 4, 5, 6, 7, 8, 9, 10, 11, 12, 13, 14, 15, 16, 17, 18]] = true)
    (hS : fieldOf P S kf o = true) (hTS0 : sliceN P TS (Ty.size .uuid) = true) (hscl : scal P TS = true)
    (hb : (decide (sv < n) && decide (st < n) && decide (si < n) && decide (m ≤ n) && decide (n + 20 ≤ N)) = true) :
    AppStep P N sv st si m (.seq (Code.region id ⟨[oF n TT st 3 t0 p0 e0, oL (n + 1) TL n t1 p1 e1, ⟨some (n + 2), .indexAddr TL (.tmp (n + 1)) (.const (.int .i64 k)), t2, p2, e2, none⟩, oF (n + 3) TT (n + 2) 3 t3 p3 e3, oL (n + 4) TL (n + 3) t4 p4 e4,
      oM (n + 5) sv t5 p5 e5, ⟨some (n + 6), .nilCheck (.tmp (n + 5)), t6, p6, e6, none⟩, oF (n + 7) S (n + 6) kf t7 p7 e7, oL (n + 8) TS (n + 7) t8 p8 e8,
      oM (n + 9) si t9 p9 e9, ⟨some (n + 10), .indexAddr TS (.tmp (n + 8)) (.tmp (n + 9)), t10, p10, e10, none⟩, ⟨some (n + 11), .slice TE (.tmp (n + 10)) none none none, t11, p11, e11, none⟩, ⟨some (n + 12), .call ⟨.builtin .append, #[(.const (.slice none 0 0)), (.tmp (n + 11))], #[Ti, Ti]⟩, t12, p12, e12, none⟩, ⟨some (n + 13), .build TT #[(1, .tmp (n + 12))], t13, p13, e13, none⟩, ⟨some (n + 14), .call ⟨.builtin .len, #[.tmp (n + 4)], #[TL]⟩, t14, p14, e14, none⟩, ⟨some (n + 15), .buildSlice TL 1 #[(0, .const (.agg zt))], t15, p15, e15, none⟩, ⟨some (n + 16), .call ⟨.builtin .append, #[.tmp (n + 4), .tmp (n + 15)], #[TL, TL]⟩, t16, p16, e16, none⟩, ⟨some (n + 17), .indexAddr TL (.tmp (n + 1)) (.const (.int .i64 k)), t17, p17, e17, none⟩, oF (n + 18) TT (n + 17) 3 t18 p18 e18, oS TL (n + 18) (n + 16) t19 p19 e19]⟩ true)
      (Code.region id2 ⟨[⟨some (n + 19), .indexAddr TL (.tmp (n + 16)) (.tmp (n + 14)), t20, p20, e20, none⟩, oS TT (n + 19) (n + 13) t21 p21 e21]⟩ false)) k o .uuid tUuid := by
  intro e K Q a w ts s1 b lv l x j y hN hsv hst hsi hm hy hlo hx hj hk hll hK;obtain ⟨et, es, hTS⟩ := sliceN_is hTS0;simp only [Bool.and_eq_true, decide_eq_true_eq] at hb;obtain ⟨⟨⟨⟨b1, b2⟩, b3⟩, b4⟩, b5⟩ := hb;obtain ⟨c, hc, hrc⟩ := hx.one rfl;obtain ⟨q, cap, rfl, hq, _, hel⟩ := arr_cell hrc;have hjl : j < x.items.length := (List.getElem?_eq_some_iff.1 hj).1;obtain ⟨qa, rfl⟩ : ∃ qa, q = some qa := by
    cases q with
    | some qa => exact ⟨qa, rfl⟩
    | none => cases x <;> simp [V.isNil] at hq; simp [V.items] at hjl
  obtain ⟨sb, so, rfl, hB, hels⟩ := hel _ rfl;obtain ⟨ce, hce, hcl, ly, hl16, rfl, rfl⟩ := hels j y hj;have hBs := hm.bs sb hB;have hs01 : e.s0 ≤ s1 := hm.s0;have hs1 : s1 ≤ w.heap.size := hm.top;have hpb : e.pb < e.s0 := hm.ps;have hzero := hT.zero;have hloc := hlo;obtain ⟨flat0, ho0, hel0⟩ := hloc;have hlvq : ∃ lq lcap, lv = .slice lq l.length lcap := by
    obtain ⟨_, h | ⟨g', o', cap', _, h, _⟩⟩ := ho0
    · exact ⟨none, 0, by rw [h.1, h.2]⟩
    exact ⟨_, _, h⟩
  obtain ⟨lq, lcap, hlv0⟩ := hlvq;have hztc : (Value.agg zt).cells = zT.toArray := by show zt = zT.toArray; rw [← hzt]
  refine wp_seq_k fun K1 hK1 => ?_;refine wp_drawR (os := [oF n TT st 3 t0 p0 e0, oL (n + 1) TL n t1 p1 e1, ⟨some (n + 2), .indexAddr TL (.tmp (n + 1)) (.const (.int .i64 k)), t2, p2, e2, none⟩, oF (n + 3) TT (n + 2) 3 t3 p3 e3, oL (n + 4) TL (n + 3) t4 p4 e4,
      oM (n + 5) sv t5 p5 e5, ⟨some (n + 6), .nilCheck (.tmp (n + 5)), t6, p6, e6, none⟩, oF (n + 7) S (n + 6) kf t7 p7 e7, oL (n + 8) TS (n + 7) t8 p8 e8,
      oM (n + 9) si t9 p9 e9, ⟨some (n + 10), .indexAddr TS (.tmp (n + 8)) (.tmp (n + 9)), t10, p10, e10, none⟩, ⟨some (n + 11), .slice TE (.tmp (n + 10)) none none none, t11, p11, e11, none⟩, ⟨some (n + 12), .call ⟨.builtin .append, #[(.const (.slice none 0 0)), (.tmp (n + 11))], #[Ti, Ti]⟩, t12, p12, e12, none⟩, ⟨some (n + 13), .build TT #[(1, .tmp (n + 12))], t13, p13, e13, none⟩, ⟨some (n + 14), .call ⟨.builtin .len, #[.tmp (n + 4)], #[TL]⟩, t14, p14, e14, none⟩, ⟨some (n + 15), .buildSlice TL 1 #[(0, .const (.agg zt))], t15, p15, e15, none⟩])
    (rest := [⟨some (n + 16), .call ⟨.builtin .append, #[.tmp (n + 4), .tmp (n + 15)], #[TL, TL]⟩, t16, p16, e16, none⟩, ⟨some (n + 17), .indexAddr TL (.tmp (n + 1)) (.const (.int .i64 k)), t17, p17, e17, none⟩, oF (n + 18) TT (n + 17) 3 t18 p18 e18, oS TL (n + 18) (n + 16) t19 p19 e19])
    [spC [] (.pointer (some ⟨e.tb, 0 + 3, none⟩)), spC [0] (.slice (some ⟨e.lb, 0, none⟩) e.n e.n),
      spC [1] (.pointer (some ⟨e.lb, 0 + (k : Int).toNat * 5, none⟩)), spC [2] (.pointer (some ⟨e.lb, 0 + (k : Int).toNat * 5 + 3, none⟩)), spC [3] lv,
      spC [] (.pointer (some ⟨e.pb, e.po, none⟩)), spC [5] (.pointer (some ⟨e.pb, e.po, none⟩)), spC [6] (.pointer (some ⟨e.pb, e.po + o, none⟩)), spC [7] (.slice (some ⟨sb, so, none⟩) x.items.length cap),
      spC [] (.int .i64 j), spC [8, 9] (.pointer (some ⟨sb, so + (j : Int).toNat * Ty.size .uuid, none⟩)), spC [10] (.slice (some ⟨sb, so + (j : Int).toNat * Ty.size .uuid, none⟩) 16 16), spR [11] (fun v w' => OctE w' (From w.heap.size w') v ly), spR [12] (fun v w' => ∃ cs : List Value, v = .agg cs.toArray ∧ RepT w' (From w.heap.size w') cs (tUuid (.s ly))),
      spC [4] (.int .i64 l.length), spR [] (fun v w' => ∃ (b : Nat), v = .slice (some ⟨b, 0, none⟩) 1 1 ∧ w.heap.size ≤ b ∧ w'.rangeAt b 0 zT)] n [] hT.mixed he (by simp [shape]) rfl
    (by simp [spC, spR]) (by simp; omega)
    ⟨lCc _ _ _, lCc _ _ _, lCc _ _ _, lCc _ _ _, lCc _ _ _, lCc _ _ _, lCc _ _ _, lCc _ _ _, lCc _ _ _, lCc _ _ _, lCc _ _ _, lCc _ _ _, ?_, ?_, lCc _ _ _, ?_, trivial⟩ ?_ ?_
  · intro v w1 w2 hf12 h1;have h1 : OctE w1 (From w.heap.size w1) v ly := h1;exact h1.kept hf12 (by simp) (From.mono hf12.size)
  · rintro v w1 w2 hf12 ⟨cs, h1, h2⟩;have hf12 : Fr [] w1 w2 := hf12;exact ⟨cs, h1, h2.kept hf12 (by simp) (From.mono hf12.size)⟩
  · rintro v w1 w2 hf12 ⟨b, h1, h2, h3⟩;have hf12 : Fr [] w1 w2 := hf12;exact ⟨b, h1, h2, hf12.range h3 .nil⟩
  · refine ⟨op_c fun a' w' hk' hf' hd' K' hK' => ?_, op_c fun a' w' hk' hf' hd' K' hK' => ?_, op_c fun a' w' hk' hf' hd' K' hK' => ?_, op_c fun a' w' hk' hf' hd' K' hK' => ?_, op_c fun a' w' hk' hf' hd' K' hK' => ?_,
      op_c fun a' w' hk' hf' hd' K' hK' => ?_, op_c fun a' w' hk' hf' hd' K' hK' => ?_, op_c fun a' w' hk' hf' hd' K' hK' => ?_, op_c fun a' w' hk' hf' hd' K' hK' => ?_, op_c fun a' w' hk' hf' hd' K' hK' => ?_,
      op_c fun a' w' hk' hf' hd' K' hK' => ?_, op_c fun a' w' hk' hf' hd' K' hK' => ?_, op_r fun a' w' hk' hf' hd' K' hK' => ?_, op_r fun a' w' hk' hf' hd' K' hK' => ?_, op_c fun a' w' hk' hf' hd' K' hK' => ?_, op_r fun a' w' hk' hf' hd' K' hK' => ?_, trivial⟩
    · exact wFa (hT.flat.field (by decide)) (by rw [eTm, hk'.get st b2, hst]) hK'
    · exact wp_load hT.scl (by rw [eTm]; exact hd'.c 0 (by simp) rfl) ((hm.kept hf' (by simp)).tree 3 _ rfl) hK'
    · exact wp_indexAddr hT.sl (by rw [eTm]; exact hd'.c 1 (by simp) rfl) rfl (by omega) (by omega) hK'
    · exact wFa (hT.flat.field (by decide)) (by rw [eTm]; exact hd'.c 2 (by simp) rfl) hK'
    · obtain ⟨es, h4, rfl, _⟩ := (hm.kept hf' (by simp)).els k _ hy;refine wp_load hT.scl (by rw [eTm]; exact hd'.c 3 (by simp) rfl) ?_ hK';have := h4 3 lv rfl
      simpa using this
    · rw [wp_move, eTm, hk'.get sv b1, hsv]; exact hK'
    · exact wp_nilCheck (by rw [eTm]; exact hd'.c 5 (by simp) rfl) hK'
    · exact wFa hS (by rw [eTm]; exact hd'.c 6 (by simp) rfl) hK'
    · exact wp_load hscl (by rw [eTm]; exact hd'.c 7 (by simp) rfl) (hf'.cell hc .nil) hK'
    · rw [wp_move, eTm, hk'.get si b3, hsi]; exact hK'
    · exact wp_indexAddr hTS (by rw [eTm]; exact hd'.c 8 (by simp) rfl) (by rw [eTm]; exact hd'.c 9 (by simp) rfl) (by omega) (by omega) hK'
    · exact wp_sliceRow hf (by rw [eTm]; exact hd'.c 10 (by simp) rfl) (by simp [zU, uuid0, octets]) hK'
    · have hoc : OctE w' (· = sb) (.slice (some ⟨sb, so + (j : Int).toNat * Ty.size .uuid, none⟩) 16 16) ly := .inl ⟨some ly, .inr ⟨sb, _, 16, ly, rfl, by rw [hl16], ⟨by omega, by omega⟩, by have := hf'.range hce .nil; simpa using this, rfl⟩, rfl⟩
      refine wp_copySrc h2 hz2 (xs := ly) (A := (· = sb)) (by rw [eTm]; exact hd'.c 11 (by simp) rfl) hoc (by omega) fun y w2 sb2 hf2 hsb hlt hsrc => hK' y w2 ?_ hf2.nil;show OctE w2 (From w.heap.size w2) y ly
      rcases hsrc with ⟨h1, h2, rfl⟩ | ⟨h1, o', cap', rfl, hc', hr⟩
      · rw [h2]; exact OctE.nil
      have hne : ly ≠ [] := by simpa using h1
      exact .inl ⟨some ly, .inr ⟨sb2, o', cap', ly, ⟨Nat.le_trans hf'.size hsb, hlt hne⟩, rfl, hc', hr, rfl⟩, rfl⟩
    · have ho := hd'.at (d := 12) (by simp) rfl;exact wp_build1 hT.flat (by decide) (by rw [eTm]) ho.one (hK' _ _ ⟨_, rfl, repT_str ho⟩ (Fr.refl _ _))
    · have hlv : get a' (n + 4) = lv := hd'.c 4 (by simp) rfl;exact wp_len hT.sl (by rw [eTm, hlv, hlv0]) hK'
    have hwf := hf'.size;refine wp_slice1 hT.sl hzero rfl (by omega) (cs := zT) (by rw [eCo, hztc]) rfl fun _ => ?_;have hal := Fr.alloc [] w' (.cells zT.toArray TT);exact hK' _ _ ⟨_, rfl, hwf, range_new w' zT.toArray TT (0, 0)⟩ hal
  intro a' w' hk' hf' hd';obtain ⟨cs, hv11, hr11⟩ := hd'.at (d := 13) (by simp) rfl;obtain ⟨bb, hv13, hbb, hz13⟩ := hd'.at (d := 15) (by simp) rfl;have hlv : get a' (n + 4) = lv := hd'.c (nd' := [3]) 4 (by simp) rfl;have g1 : get a' (n + 1) = .slice (some ⟨e.lb, 0, none⟩) e.n e.n := hd'.c (nd' := [0]) 1 (by simp) rfl;have g12 : get a' (n + 14) = .int .i64 l.length := hd'.c (nd' := [4]) 14 (by simp) rfl;have hsz := hk'.size;have hwf := hf'.size;have hmw := hm.kept hf' (by simp);have hlo' := hlo.kept hf' (by simp) (A' := From s1 w') (From.mono hwf);have hloc := hlo';obtain ⟨flat, ho1, ho2⟩ := hloc;have hlb : ∀ b, blk lv = some b → b < w.heap.size := fun b hb => (hlo.blk_in hb).2;refine wC (wp_append (A := From s1 w') (z := zT) hT.sl hzero rfl (by rw [eTm, hlv]) (by rw [eTm, hv13]) ho1 (by omega) (news := zT) rfl hz13 (repT_zero (w := w') (A := fun _ => False)).ones (by omega) (by simp only [maxLen]; omega) ?_);intro v' w2 hf2 ho' hbk;have hf2s := hf2.size;have hsp : ∀ r ∈ spare lv 5, From s1 w' r.b := hlo'.spare_in;have hsp2 : ∀ r ∈ spare lv 5, r.b < w.heap.size := fun r hr => (hlo.spare_in r hr).2;have hlo2 : LOwn w2 (From s1 w2) v' (l ++ [.zero]) := by
    refine LOwn.app (A' := From s1 w2) ho2 ho1 hf2 ?_ hbk (fun b hb => ⟨From.mono hf2s b hb, hb.2⟩) (C := fun _ => False) repT_zero (fun _ h => h.elim);obtain ⟨ha, hb⟩ := ho';refine ⟨ha, hb.imp (fun h => h) ?_⟩;rintro ⟨g', o', cap', hg', hrest⟩;refine ⟨g', o', cap', ?_, hrest⟩
    rcases hg' with hg' | hg'
    · exact From.mono hf2s _ hg'
    exact ⟨by have := hg'.1; omega, hg'.2⟩
  have hr2 : RepT w2 (fun b => From w.heap.size w2 b ∧ blk v' ≠ some b) cs (tUuid (.s ly)) := by
    refine hr11.kept hf2 (fun r hr hF => by have := hsp2 r hr; have := hF.1; omega) (fun b hb => ⟨From.mono hf2s b hb, fun hbl => ?_⟩)
    rcases hbk with h | h
    · rw [h] at hbl; have := hlb b hbl; have := hb.1; omega
    rw [h] at hbl; simp at hbl; have := hb.2; omega
  have hm2 := hmw.kept hf2 (fun r hr => (hsp r hr).1);rw [wCo];have hn15 : n + 16 < a'.tmps.size := by omega
  refine wp_indexAddr hT.sl (by rw [eTm, gR, g1]) rfl (by omega) (by omega) ?_;refine wC (wFa (hT.flat.field (k := 3) (by decide)) (by rw [eTm, gQ]) ?_);rw [wCo];have hth : w2.there e.lb (k * 5) 5 := there_part hm2.thL (by omega) (by omega);refine wp_store hT.scl (b := e.lb) (o := k * 5 + 3) (v := v') (by rw [eTm, gQ]; simp) (by rw [eTm, gR, gR, gPs hn15]) hlo2.one (there_part hth (by omega) (by omega)) ?_;obtain ⟨h5, h6⟩ := hm2.setL hk hy hlo2.one;have h6s := h6.size;generalize w2.setCell ⟨e.lb, k * 5 + 3, none⟩ v' = w3 at h5 h6 h6s ⊢;generalize ha3 : ((a'.put (some (n + 16)) v').put (some (n + 17)) (.pointer (some ⟨e.lb, 0 + (k : Int).toNat * 5, none⟩))).put (some (n + 18)) (.pointer (some ⟨e.lb, 0 + (k : Int).toNat * 5 + 3, none⟩)) = a3;have k3 : Kept (n + 16) a' a3 := by subst ha3; exact ((Kept.put0 (Nat.le_refl _) _).put (by omega) _).put (by omega) _
  have g14 : get a3 (n + 16) = v' := by subst ha3; rw [gR, gR, gPs hn15]
  have hlbs : e.lb < s1 := by have := hm.ls; omega
  have hnlb : ∀ r ∈ [(⟨e.lb, k * 5, k * 5 + 5⟩ : Rng)], ∀ s, s1 ≤ s → ¬ s ≤ r.b := by
    intro r hr s hs; simp at hr; subst hr; simp only; omega
  have hlo3 := hlo2.kept h6 (A' := From s1 w3) (fun r hr hF => hnlb r hr s1 (Nat.le_refl _) hF.1) (From.mono h6s);have hr3 : RepT w3 (fun b => From w.heap.size w3 b ∧ blk v' ≠ some b) cs (tUuid (.s ly)) := hr2.kept h6 (fun r hr hF => hnlb r hr _ hs1 hF.1.1) (fun b hb => ⟨From.mono h6s b hb.1, hb.2⟩);rw [wpl_nil];refine hK1 (a3.put none undef) w3 ?_;rw [pNo];obtain ⟨g', o', cap', hv', hg', hth', hlo4⟩ := hlo3.setLast hr3 (fun b hb => ⟨⟨by have := hb.1.1; omega, hb.1.2⟩, hb.2⟩);have hs3 := k3.size;refine wp_reg ?_;refine wC (wp_indexAddr (k1 := .i64) (i := l.length) hT.sl (by rw [eTm, g14, hv']) (by rw [eTm, k3.get (n + 14) (by omega), g12]) (by omega) (by omega) ?_);rw [wCo];have hcl5 := hr3.length;refine wp_storeFlat hT.flat (cs := cs) (b := g') (o := o' + l.length * 5) (by rw [hcl5]; rfl) (by rw [eTm, gQ]; simp) (by rw [eTm, gR, k3.get (n + 13) (by omega), hv11]) hr3.ones (by rw [hcl5]; exact hth') ?_;have hf4 := Fr.sets g' cs w3 (o' + l.length * 5);rw [hcl5] at hf4;have hgs : s1 ≤ g' := hg'.1;have hsz4 := hf4.size;refine hK _ _ v' ?_ ⟨spare lv 5 ++ [⟨g', o' + l.length * 5, o' + l.length * 5 + 5⟩], ?_, ?_⟩ (h5.kept hf4 (by intro r hr; simp at hr; subst hr; exact hgs)) (hlo4.kept (Fr.refl [] _) (by simp) (From.mono hsz4))
  · exact ((hk'.mono b4).trans (k3.mono (by omega))).trans ((Kept.put0 (by omega) _))
  · intro r hr
    rcases List.mem_append.1 hr with h | h
    · exact (hsp r h).1
    simp at h; subst h; exact hgs
  have f1 : Fr (⟨e.lb, k * 5, k * 5 + 5⟩ :: (spare lv 5 ++ [⟨g', o' + l.length * 5, o' + l.length * 5 + 5⟩])) w w2 := (hf'.nil (l := _)).tr (hf2.mono (fun r hr => Rng.in_self (List.mem_cons_of_mem _ (List.mem_append_left _ hr))));have f2 : Fr (⟨e.lb, k * 5, k * 5 + 5⟩ :: (spare lv 5 ++ [⟨g', o' + l.length * 5, o' + l.length * 5 + 5⟩])) w w3 := f1.trans h6 (by intro r hr; simp at hr; subst hr; exact Rng.in_self (by simp));refine f2.trans hf4 ?_;intro r hr; simp at hr; subst hr; exact Rng.in_self (by simp)
end Go.Kq
