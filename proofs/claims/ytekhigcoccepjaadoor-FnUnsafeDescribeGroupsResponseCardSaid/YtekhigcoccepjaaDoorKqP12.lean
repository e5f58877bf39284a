/- The fields that a flexible message bears: unknown tags; sixteen octets. -/
import Derived.Test.YtekhigcoccepjaaDoorKqP09
import Derived.Test.YtekhigcoccepjaaDoorKqP11
import Derived.Laws.IdiomCopy
import Derived.Test.YtekhigcoccepjaaDoorKqP05
import Derived.Test.YtekhigcoccepjaaDoorKqP10
import Derived.Lib.SortBridge
import Derived.Sort.LotA
import Derived.Shelf.GgSortFunc.Whole
import Derived.Shelf.GgSortFunc.Tiny
set_option linter.unusedVariables false
set_option linter.unusedSimpArgs false
namespace Go.Kq
open Go Go.Proofs

def rdTagsF : Rd := fun _ fl st => if fl then some (rdTags st) else some (.nil, st)

/-- 'if isFlexible { s.UnknownTags = internalReadTags(&b) }' -/
theorem fld_tags {P : Program} {ge : Nat} {cx : Cx} {m id id2 n n1 o : Nat} {f : FuncId} {S T k tf : Nat} {ats : Array TypeId} {t1 t2 t3 t4 t5 t6 : TypeId} {p1 p2 p3 p4 p5 p6 : String} {e1 e2 e3 e4 e5 e6 : Array Edge}
    (hf : TagsM P f) (hT : Flat P T [.map none]) (hF : fieldOf P S k o = true) (htf : cx.tf = some tf)
    (hb : (decide (n < cx.N) && decide (m ≤ n) && decide (m ≤ n1) && decide (n1 + 3 < cx.N) && cx.below m) = true) :
    Fld P ge cx m (Code.seq (Code.region id ⟨[⟨some n, .move (.tmp tf), t1, p1, e1, none⟩]⟩ false) (.cond (.tmp n) (Code.region id2 ⟨[⟨some n1, .move (.tmp cx.ts), t2, p2, e2, none⟩,
      ⟨some (n1 + 1), .call ⟨.value (.func f), #[.tmp cx.tb], ats⟩, t3, p3, e3, none⟩, ⟨some (n1 + 2), .nilCheck (.tmp n1), t4, p4, e4, none⟩,
      ⟨some (n1 + 3), .fieldAddr S (.tmp (n1 + 2)) k, t5, p5, e5, none⟩, ⟨none, .store T (.tmp (n1 + 3)) (.tmp (n1 + 1)), t6, p6, e6, none⟩]⟩ false) .skip)) o .tags .nil rdTagsF := by
  intro e pb po K Q a w st hs hm ht hz hk hq
  simp only [Bool.and_eq_true, decide_eq_true_eq] at hb
  obtain ⟨⟨⟨⟨b1, b2⟩, b3⟩, b4⟩, b5⟩ := hb
  have hsz := hs.size
  obtain ⟨c1, c2, c3, c4, c5, c6, c7⟩ := Cx.below_spec b5
  refine wp_seq_k fun K1 hK1 => ?_
  refine wp_reg ?_
  rw [wpl_cons, wp_move, eval_tmp, hs.f tf htf, wpl_nil]
  have k1 : Kept m a (a.put (some n) (.bool e.flex)) := Kept.put0 b2 _
  have q1 : get (a.put (some n) (.bool e.flex)) n = .bool e.flex := get_put_same (by omega)
  generalize a.put (some n) (.bool e.flex) = a1 at k1 q1 ⊢
  have hs1 := hs.kept b5 k1
  have hz1 := hs1.size
  refine hK1 a1 w ?_
  refine wp_cond_split (t := e.flex) (by rw [eval_tmp, q1]) (fun hfl => ?_) fun hfl => ?_
  · refine wp_reg ?_
    rw [wpl_cons, wp_move, eval_tmp, hs1.s, wpl_cons]
    refine wp_calls (R := fun x w' => ∃ v, x = .agg #[v] ∧ Rep w' (Foot e.sb w.heap.size w'.heap.size) .tags [v] (rdTags st).1 ∧ RW w' e.rb e.sb (rdTags st).2 ∧ Fr [⟨e.rb, 0, 2⟩] w w') hf.enters (vs := #[.pointer (some ⟨e.rb, 0, none⟩)])
      (by simp only [List.map_toArray, List.map_cons, List.map_nil, eval_tmp]; rw [get_put_ne (by omega), hs1.b])
      ((hf.call w e.rb e.sb st hm.rw hm.sl).mono (by rintro e' w' ⟨v, rfl, h⟩; exact ⟨_, rfl, v, rfl, h⟩)) ?_
    rintro x w1 ⟨v, rfl, hrep, hrw, f1⟩
    rw [wpl_cons]
    refine wp_nilCheck (q := ⟨pb, po, none⟩) (by rw [eval_tmp, get_put_ne (by omega), get_put_same (by omega)]) ?_
    rw [wpl_cons]
    refine wp_fieldAddr (b := pb) (i := po) hF (by rw [eval_tmp, get_put_same (by simp only [size_put]; omega)]) ?_
    rw [wpl_cons]
    have ht1 : w1.there pb (po + o) [v].length := f1.there ht
    have hone : ∀ u ∈ [v], u.oneCell' = true := by
      intro u hu; simp at hu; subst hu
      rcases hrep with ⟨h, _⟩ | ⟨_, _, _, _, _, h, _⟩ <;> (simp at h; subst h; rfl)
    refine wp_storeFlat hT (cs := [v]) (b := pb) (o := po + o) rfl (by rw [eval_tmp, get_put_same (by simp only [size_put]; omega)]) (by rw [eval_tmp, get_put_ne (by omega), get_put_ne (by omega), get_put_same (by simp only [size_put]; omega)]) hone ht1 ?_
    rw [put_none, wpl_nil]
    have f2 := Fr.sets pb [v] w1 (po + o)
    have r2 := World.rangeAt_setCells_same (w := w1) pb (po + o) [v] ht1
    have sz2 := f2.size
    have hpw : pb < w.heap.size := there_lt ht (by simp [Ty.size])
    have hne : ∀ r ∈ [(⟨pb, po + o, po + o + [v].length⟩ : Rng)], ¬ Foot e.sb w.heap.size w1.heap.size r.b := by
      intro r hr; simp at hr; subst hr
      rintro (h | h)
      · exact hm.ps h
      · simp only at h; omega
    refine hk _ _ (rdTags st).1 (rdTags st).2 (by simp [rdTagsF, hfl]) (k1.trans ((((Kept.put0 b3 _).put (by omega) _).put (by omega) _).put (by omega) _)) (hrw.kept f2 (by intro r hr; simp at hr; subst hr; exact ⟨hm.pr, hm.ps⟩)) ?_ ⟨[v], r2, hrep.kept f2 hne (fun b h => by rcases h with h | h; exact .inl h; exact .inr ⟨h.1, by omega⟩)⟩
    refine (f1.mono (l' := [⟨e.rb, 0, 2⟩, ⟨pb, po + o, po + o + Ty.tags.size⟩]) ?_).trans f2 ?_
    · intro r hr; simp at hr; subst hr; exact .inr ⟨_, by simp, rfl, by simp, by simp⟩
    · intro r hr; simp at hr; subst hr; exact .inr ⟨⟨pb, po + o, po + o + Ty.tags.size⟩, by simp, rfl, by simp, by simp [Ty.size]⟩
  · refine wp_skip ?_
    obtain ⟨z, hz1', hz2⟩ := hz
    exact hk a1 w .nil st (by simp [rdTagsF, hfl]) k1 hm.rw (Fr.refl _ _) ⟨z, hz1', hz2.kept (Fr.refl [] w) (by simp) (fun _ h => h.elim)⟩
end Go.Kq

/- What more of the reader's methods give: plain functions. -/
namespace Go.Kq
open Go

def rdCArrayLen (st : RSt) : Int × RSt :=
  let (x, s) := rdUv st
  let z := IntKind.i32.wrap (IntKind.i32.wrap (x : Int) - 1)
  if (s.xs.length : Int) < z then (0, .fail) else (z, s)
def rdCString (st : RSt) : List UInt8 × RSt :=
  let (x, s) := rdUv st
  let (y, s) := rdSpan ((x : Int) - 1) s
  (y.getD [], s)
def rdCNString (st : RSt) : V × RSt :=
  let (x, s) := rdUv st
  if (x : Int) - 1 < 0 then (.nil, s) else let (y, s) := rdSpan ((x : Int) - 1) s; (.s (y.getD []), s)
def rdNString (st : RSt) : V × RSt :=
  let (x, s) := rdNum .i16 2 st
  if x < 0 then (.nil, s) else let (y, s) := rdSpan x s; (.s (y.getD []), s)
def gCALen (st : RSt) : V × RSt := (.n (rdCArrayLen st).1, (rdCArrayLen st).2)
def gCStr (st : RSt) : V × RSt := (.s (rdCString st).1, (rdCString st).2)
def gCNStr (st : RSt) : V × RSt := rdCNString st
def gNStr (st : RSt) : V × RSt := rdNString st
end Go.Kq

/- The reader's methods that give texts: behind Uvarint; null or not. Written by mk_rdt.py. -/
namespace Go.Kq
open Go Go.Proofs

structure UStrM (P : Program) (f : FuncId) : Prop where
  enters : Enters P f
  call : ∀ w A v x, Octs w A v x → Calls P f #[v] w fun e w' => e = .returned (.string (strOf (x.getD []))) ∧ w' = w
theorem Rep.i16 {w : World} {A : Nat → Prop} {v : Value} {n : Int} (h : Rep w A (.int .i16) [v] (.n n)) : v = .int .i16 n := by
  obtain ⟨i, h1, h2, _⟩ := h
  simp at h1 h2
  rw [h1, h2]
/-- A new place that holds a text. -/
theorem alloc_str {P : Program} {T9 : TypeId} {a : Act} {w W : World} {K : Act → World → Prop} {Q : Exit → Act → World → Prop} {t : TypeId} {p : String} {af : Array Edge} {gd : Option (Nat × Bool)} {s : ByteArray} {z : ByteArray} {x y : Nat} (hW : W = w.alloc (.cells (Value.string z).cells T9)) (h9 : scal P T9 = true)
    (hx : get a x = .pointer (some ⟨w.heap.size, 0, none⟩)) (hy : get a y = .string s)
    (k : ∀ w3, Fr [] w w3 → w3.cell? ⟨w.heap.size, 0, none⟩ = some (.string s) → w.heap.size < w3.heap.size → K a w3) :
    OW P ⟨none, .store T9 (.tmp x) (.tmp y), t, p, af, gd⟩ a W K Q := by
  have fa := Fr.alloc [] w (.cells (Value.string z).cells T9)
  have sa := size_alloc w (.cells (Value.string z).cells T9)
  have ta : (w.alloc (.cells (Value.string z).cells T9)).there w.heap.size 0 1 := there_new w #[.string z] T9
  rw [← hW] at fa sa ta
  clear hW
  refine wp_store h9 (b := w.heap.size) (o := 0) (v := .string s) (by rw [eval_tmp, hx]) (by rw [eval_tmp, hy]) rfl ta ?_
  rw [put_none]
  have f2 := Fr.set W w.heap.size 0 (.string s)
  have c2 := range_set (v := .string s) ta
  have s2 := f2.size
  exact k _ (fa.trans f2 (by intro r hr; simp at hr; subst hr; exact .inl (Nat.le_refl _))) c2 (by omega)
theorem wrap_i32_range (n : Int) : -2147483648 ≤ IntKind.i32.wrap n ∧ IntKind.i32.wrap n ≤ 2147483647 := by
  simp [IntKind.wrap, IntKind.bits, IntKind.signed]
  split <;> omega

set_option maxRecDepth 10000 in
theorem cstr_m {P : Program} {f : FuncId} {fn : Func}
    {T3 T9 T22 T61 : TypeId}
    {f279 f287 : FuncId}
    {x0 : Value}
    {a1 : Array TypeId}
    {a2 : Array TypeId}
    {i0 i1 i2 : Nat}
    {t0 t1 t2 t3 t4 t5 t6 t7 t8 t9 t10 : TypeId} {p0 p1 p2 p3 p4 p5 p6 p7 p8 p9 p10 : String} {e0 e1 e2 e3 e4 e5 e6 e7 e8 e9 e10 : Array Edge}
    (hf : P.funcs[f]? = some fn) (hname : (fn.name == "runtime.NumGoroutine") = false) (hres : fn.results = #[.tmp 2]) (hN : fn.ntmps = 12)
    (hbody : fn.body = some (.seq (Code.region i0 ⟨[⟨some 2, .assign (.const x0), t0, p0, e0, none⟩]⟩ false)
  (.seq (Code.region i1 ⟨[⟨some 4, .move (.tmp 0), t1, p1, e1, none⟩,
    ⟨some 5, .call ⟨.value (.func f287), #[(.tmp 4)], a1⟩, t2, p2, e2, none⟩,
    ⟨some 6, .convert T61 T3 (.tmp 5), t3, p3, e3, none⟩,
    ⟨some 7, .binOp .sub T3 (.tmp 6) (.const (.int .i64 1)) T3, t4, p4, e4, none⟩,
    ⟨some 3, .assign (.tmp 7), t5, p5, e5, none⟩]⟩ false)
  (.seq (Code.region i2 ⟨[⟨some 8, .move (.tmp 0), t6, p6, e6, none⟩,
    ⟨some 9, .move (.tmp 3), t7, p7, e7, none⟩,
    ⟨some 10, .call ⟨.value (.func f279), #[(.tmp 8), (.tmp 9)], a2⟩, t8, p8, e8, none⟩,
    ⟨some 11, .convert T22 T9 (.tmp 10), t9, p9, e9, none⟩,
    ⟨some 2, .assign (.tmp 11), t10, p10, e10, none⟩]⟩ false)
  .ret))))
    (h3 : intOf P T3 .i64 = true) (h61 : intOf P T61 .u32 = true) (hu : MethV P f287 (.int .u32) gUv) (hsp : SpanM P f279) (h22 : byteSl P T22 = true) (h9 : strTy P T9 = true) : MethV P f .str gCStr := by
  refine ⟨enters_of hf hname hbody, ?_⟩
  intro w rb sb st h
  generalize hg : gCStr st = g
  refine calls_of_wp hf hbody ?_
  generalize ha0 : ({ tmps := #[Value.pointer (some ⟨rb, 0, none⟩)] ++ Array.replicate (fn.ntmps - #[Value.pointer (some ⟨rb, 0, none⟩)].size) undef, defers := [] } : Act) = a0
  have hsz : a0.tmps.size = 12 := by subst ha0; simp [hN]
  have hd0 : a0.defers = [] := by subst ha0; rfl
  have g0 : get a0 0 = .pointer (some ⟨rb, 0, none⟩) := by subst ha0; exact get_args rfl
  clear ha0
  refine then_id (wp_seq_k fun K1 hK1 => ?_)
  refine r_const (m := 2) (by omega) (by omega) fun a1 k1 _ => hK1 a1 w (then_up ?_)
  have hz1 := k1.size
  have g1 : get a1 0 = .pointer (some ⟨rb, 0, none⟩) := by rw [k1.get 0 (by omega), g0]
  refine then_id (wp_seq_k fun K2 hK2 => ?_)
  refine wp_reg ?_
  rw [wpl_cons, wp_move, eval_tmp, g1, wpl_cons]
  refine wp_calls (R := fun x w' => x = .int .u32 ((rdUv st).1 : Int) ∧ RW w' rb sb (rdUv st).2 ∧ Fr [⟨rb, 0, 2⟩] w w') hu.enters (vs := #[.pointer (some ⟨rb, 0, none⟩)]) (by simp only [List.map_toArray, List.map_cons, List.map_nil, eval_tmp]; rw [get_put_same (by omega)])
    ((hu.call w rb sb st h).mono (by rintro e' w' ⟨x, rfl, h1, h2, h3⟩; exact ⟨_, rfl, h1.u32, h2, h3⟩)) ?_
  rintro _ w1 ⟨rfl, hr1, f1⟩
  have hlt := rdUv_lt st
  have hg : g = (.s ((rdSpan (((rdUv st).1 : Int) - 1) (rdUv st).2).1.getD []), (rdSpan (((rdUv st).1 : Int) - 1) (rdUv st).2).2) := hg.symm.trans rfl
  generalize (rdUv st).1 = x at *
  generalize (rdUv st).2 = s at *
  rw [wpl_cons]
  refine wp_convert (k1 := .u32) (i := (x : Int)) h61 h3 (by rw [eval_tmp, get_put_same (by simp only [size_put]; omega)]) ?_
  rw [wrap64 (by omega), wpl_cons]
  refine wp_sub (k1 := .i64) (i := (x : Int)) (j := 1) (by rw [eval_tmp, get_put_same (by simp only [size_put]; omega)]) rfl ?_
  rw [wrap64 (by omega), wpl_cons, wp_assign, eval_tmp, get_put_same (by simp only [size_put]; omega), wpl_nil]
  generalize hzz : (x : Int) - 1 = z at *
  have hb : -9223372036854775808 ≤ z ∧ z ≤ 9223372036854775807 := by omega
  generalize ha2 : ((((a1.put (some 4) (.pointer (some ⟨rb, 0, none⟩))).put (some 5) (.int .u32 (x : Int))).put (some 6) (.int .i64 (x : Int))).put (some 7) (.int .i64 z)).put (some 3) (.int .i64 z) = a2
  have k2 : Kept 2 a1 a2 := by subst ha2; exact ((((Kept.put0 (by omega) _).put (by omega) _).put (by omega) _).put (by omega) _).put (by omega) _
  have q3 : get a2 3 = .int .i64 z := by subst ha2; exact get_put_same (by simp only [size_put]; omega)
  clear ha2
  have hz2 := k2.size
  have g2 : get a2 0 = .pointer (some ⟨rb, 0, none⟩) := by rw [k2.get 0 (by omega), g1]
  have hd2 : a2.defers = [] := by rw [k2.defers, k1.defers, hd0]
  refine hK2 a2 w1 (then_up ?_)
  refine then_id (wp_seq_k fun K6 hK6 => ?_)
  refine wp_reg ?_
  rw [wpl_cons, wp_move, eval_tmp, g2, wpl_cons, wp_move, eval_tmp, get_put_ne (by omega), q3, wpl_cons]
  refine wp_calls hsp.enters (vs := #[.pointer (some ⟨rb, 0, none⟩), .int .i64 z]) (by simp only [List.map_toArray, List.map_cons, List.map_nil, eval_tmp]; rw [get_put_ne (by omega), get_put_same (by omega), get_put_same (by simp only [size_put]; omega)]) (hsp.call w1 rb sb s z hr1) ?_
  rintro sv w2 ⟨ho, hr2, f2⟩
  have hlen : ((rdSpan z s).1.getD []).length ≤ 4294967296 := Nat.le_trans (rdSpan_len z s) hr1.big
  generalize (rdSpan z s).1 = y at *
  generalize (rdSpan z s).2 = s2 at *
  subst hg
  rw [wpl_cons]
  refine wp_toString h22 h9 (by rw [eval_tmp, get_put_same (by simp only [size_put]; omega)]) ho ?_
  rw [wpl_cons, wp_assign, eval_tmp, get_put_same (by simp only [size_put]; omega), wpl_nil]
  refine hK6 _ _ (wp_ret ?_)
  refine ⟨by simp only [defers_put]; exact hd2, _, results_one hres, _, rfl, ?_, hr2, f1.tr f2⟩
  rw [get_put_same (by simp only [size_put]; omega)]
  exact ⟨_, rfl, by rw [strOf_list], by rw [strOf_list]; exact hlen⟩
set_option maxRecDepth 10000 in
theorem ucstr_m {P : Program} {f : FuncId} {fn : Func}
    {T3 T61 : TypeId}
    {f278 f279 f287 : FuncId}
    {x0 : Value}
    {a1 : Array TypeId}
    {a2 : Array TypeId}
    {a3 : Array TypeId}
    {i0 i1 i2 : Nat}
    {t0 t1 t2 t3 t4 t5 t6 t7 t8 t9 t10 : TypeId} {p0 p1 p2 p3 p4 p5 p6 p7 p8 p9 p10 : String} {e0 e1 e2 e3 e4 e5 e6 e7 e8 e9 e10 : Array Edge}
    (hf : P.funcs[f]? = some fn) (hname : (fn.name == "runtime.NumGoroutine") = false) (hres : fn.results = #[.tmp 2]) (hN : fn.ntmps = 12)
    (hbody : fn.body = some (.seq (Code.region i0 ⟨[⟨some 2, .assign (.const x0), t0, p0, e0, none⟩]⟩ false)
  (.seq (Code.region i1 ⟨[⟨some 4, .move (.tmp 0), t1, p1, e1, none⟩,
    ⟨some 5, .call ⟨.value (.func f287), #[(.tmp 4)], a1⟩, t2, p2, e2, none⟩,
    ⟨some 6, .convert T61 T3 (.tmp 5), t3, p3, e3, none⟩,
    ⟨some 7, .binOp .sub T3 (.tmp 6) (.const (.int .i64 1)) T3, t4, p4, e4, none⟩,
    ⟨some 3, .assign (.tmp 7), t5, p5, e5, none⟩]⟩ false)
  (.seq (Code.region i2 ⟨[⟨some 8, .move (.tmp 0), t6, p6, e6, none⟩,
    ⟨some 9, .move (.tmp 3), t7, p7, e7, none⟩,
    ⟨some 10, .call ⟨.value (.func f279), #[(.tmp 8), (.tmp 9)], a2⟩, t8, p8, e8, none⟩,
    ⟨some 11, .call ⟨.value (.func f278), #[(.tmp 10)], a3⟩, t9, p9, e9, none⟩,
    ⟨some 2, .assign (.tmp 11), t10, p10, e10, none⟩]⟩ false)
  .ret))))
    (h3 : intOf P T3 .i64 = true) (h61 : intOf P T61 .u32 = true) (hu : MethV P f287 (.int .u32) gUv) (hsp : SpanM P f279) (hus : UStrM P f278) : MethV P f .str gCStr := by
  refine ⟨enters_of hf hname hbody, ?_⟩
  intro w rb sb st h
  generalize hg : gCStr st = g
  refine calls_of_wp hf hbody ?_
  generalize ha0 : ({ tmps := #[Value.pointer (some ⟨rb, 0, none⟩)] ++ Array.replicate (fn.ntmps - #[Value.pointer (some ⟨rb, 0, none⟩)].size) undef, defers := [] } : Act) = a0
  have hsz : a0.tmps.size = 12 := by subst ha0; simp [hN]
  have hd0 : a0.defers = [] := by subst ha0; rfl
  have g0 : get a0 0 = .pointer (some ⟨rb, 0, none⟩) := by subst ha0; exact get_args rfl
  clear ha0
  refine then_id (wp_seq_k fun K1 hK1 => ?_)
  refine r_const (m := 2) (by omega) (by omega) fun a1 k1 _ => hK1 a1 w (then_up ?_)
  have hz1 := k1.size
  have g1 : get a1 0 = .pointer (some ⟨rb, 0, none⟩) := by rw [k1.get 0 (by omega), g0]
  refine then_id (wp_seq_k fun K2 hK2 => ?_)
  refine wp_reg ?_
  rw [wpl_cons, wp_move, eval_tmp, g1, wpl_cons]
  refine wp_calls (R := fun x w' => x = .int .u32 ((rdUv st).1 : Int) ∧ RW w' rb sb (rdUv st).2 ∧ Fr [⟨rb, 0, 2⟩] w w') hu.enters (vs := #[.pointer (some ⟨rb, 0, none⟩)]) (by simp only [List.map_toArray, List.map_cons, List.map_nil, eval_tmp]; rw [get_put_same (by omega)])
    ((hu.call w rb sb st h).mono (by rintro e' w' ⟨x, rfl, h1, h2, h3⟩; exact ⟨_, rfl, h1.u32, h2, h3⟩)) ?_
  rintro _ w1 ⟨rfl, hr1, f1⟩
  have hlt := rdUv_lt st
  have hg : g = (.s ((rdSpan (((rdUv st).1 : Int) - 1) (rdUv st).2).1.getD []), (rdSpan (((rdUv st).1 : Int) - 1) (rdUv st).2).2) := hg.symm.trans rfl
  generalize (rdUv st).1 = x at *
  generalize (rdUv st).2 = s at *
  rw [wpl_cons]
  refine wp_convert (k1 := .u32) (i := (x : Int)) h61 h3 (by rw [eval_tmp, get_put_same (by simp only [size_put]; omega)]) ?_
  rw [wrap64 (by omega), wpl_cons]
  refine wp_sub (k1 := .i64) (i := (x : Int)) (j := 1) (by rw [eval_tmp, get_put_same (by simp only [size_put]; omega)]) rfl ?_
  rw [wrap64 (by omega), wpl_cons, wp_assign, eval_tmp, get_put_same (by simp only [size_put]; omega), wpl_nil]
  generalize hzz : (x : Int) - 1 = z at *
  have hb : -9223372036854775808 ≤ z ∧ z ≤ 9223372036854775807 := by omega
  generalize ha2 : ((((a1.put (some 4) (.pointer (some ⟨rb, 0, none⟩))).put (some 5) (.int .u32 (x : Int))).put (some 6) (.int .i64 (x : Int))).put (some 7) (.int .i64 z)).put (some 3) (.int .i64 z) = a2
  have k2 : Kept 2 a1 a2 := by subst ha2; exact ((((Kept.put0 (by omega) _).put (by omega) _).put (by omega) _).put (by omega) _).put (by omega) _
  have q3 : get a2 3 = .int .i64 z := by subst ha2; exact get_put_same (by simp only [size_put]; omega)
  clear ha2
  have hz2 := k2.size
  have g2 : get a2 0 = .pointer (some ⟨rb, 0, none⟩) := by rw [k2.get 0 (by omega), g1]
  have hd2 : a2.defers = [] := by rw [k2.defers, k1.defers, hd0]
  refine hK2 a2 w1 (then_up ?_)
  refine then_id (wp_seq_k fun K6 hK6 => ?_)
  refine wp_reg ?_
  rw [wpl_cons, wp_move, eval_tmp, g2, wpl_cons, wp_move, eval_tmp, get_put_ne (by omega), q3, wpl_cons]
  refine wp_calls hsp.enters (vs := #[.pointer (some ⟨rb, 0, none⟩), .int .i64 z]) (by simp only [List.map_toArray, List.map_cons, List.map_nil, eval_tmp]; rw [get_put_ne (by omega), get_put_same (by omega), get_put_same (by simp only [size_put]; omega)]) (hsp.call w1 rb sb s z hr1) ?_
  rintro sv w2 ⟨ho, hr2, f2⟩
  have hlen : ((rdSpan z s).1.getD []).length ≤ 4294967296 := Nat.le_trans (rdSpan_len z s) hr1.big
  generalize (rdSpan z s).1 = y at *
  generalize (rdSpan z s).2 = s2 at *
  subst hg
  rw [wpl_cons]
  refine wp_calls (R := fun v w' => v = .string (strOf (y.getD [])) ∧ w' = w2) hus.enters (vs := #[sv]) (by simp only [List.map_toArray, List.map_cons, List.map_nil, eval_tmp]; rw [get_put_same (by simp only [size_put]; omega)]) ((hus.call w2 _ sv y ho).mono (by rintro e' w' ⟨rfl, rfl⟩; exact ⟨_, rfl, rfl, rfl⟩)) ?_
  rintro _ _ ⟨rfl, rfl⟩
  rw [wpl_cons, wp_assign, eval_tmp, get_put_same (by simp only [size_put]; omega), wpl_nil]
  refine hK6 _ _ (wp_ret ?_)
  refine ⟨by simp only [defers_put]; exact hd2, _, results_one hres, _, rfl, ?_, hr2, f1.tr f2⟩
  rw [get_put_same (by simp only [size_put]; omega)]
  exact ⟨_, rfl, by rw [strOf_list], by rw [strOf_list]; exact hlen⟩
set_option maxRecDepth 10000 in
theorem cnstr_m {P : Program} {f : FuncId} {fn : Func}
    {T3 T9 T22 T61 : TypeId}
    {f279 f287 : FuncId}
    {a0 : Array TypeId}
    {a1 : Array TypeId}
    {i0 i1 i2 i3 i4 i5 : Nat}
    {t0 t1 t2 t3 t4 t5 t6 t7 t8 t9 t10 t11 t12 t13 t14 t15 : TypeId} {p0 p1 p2 p3 p4 p5 p6 p7 p8 p9 p10 p11 p12 p13 p14 p15 : String} {e0 e1 e2 e3 e4 e5 e6 e7 e8 e9 e10 e11 e12 e13 e14 e15 : Array Edge}
    (hf : P.funcs[f]? = some fn) (hname : (fn.name == "runtime.NumGoroutine") = false) (hres : fn.results = #[.tmp 2]) (hN : fn.ntmps = 15)
    (hbody : fn.body = some (.seq (Code.region i0 ⟨[⟨some 2, .assign (.const (.pointer none)), t0, p0, e0, none⟩]⟩ false)
  (.seq (Code.region i1 ⟨[⟨some 5, .move (.tmp 0), t1, p1, e1, none⟩,
    ⟨some 6, .call ⟨.value (.func f287), #[(.tmp 5)], a0⟩, t2, p2, e2, none⟩,
    ⟨some 7, .convert T61 T3 (.tmp 6), t3, p3, e3, none⟩,
    ⟨some 8, .binOp .sub T3 (.tmp 7) (.const (.int .i64 1)) T3, t4, p4, e4, none⟩,
    ⟨some 3, .assign (.tmp 8), t5, p5, e5, none⟩]⟩ false)
  (.seq (.seq (Code.region i2 ⟨[⟨some 9, .move (.tmp 3), t6, p6, e6, none⟩,
    ⟨some 10, .binOp .lss T3 (.tmp 9) (.const (.int .i64 0)) T3, t7, p7, e7, none⟩]⟩ false)
  (.cond (.tmp 10) (.seq (Code.region i3 ⟨[⟨some 2, .assign (.const (.pointer none)), t8, p8, e8, none⟩]⟩ false)
  .ret)
  .skip))
  (.seq (Code.region i4 ⟨[⟨some 11, .move (.tmp 0), t9, p9, e9, none⟩,
    ⟨some 12, .move (.tmp 3), t10, p10, e10, none⟩,
    ⟨some 13, .call ⟨.value (.func f279), #[(.tmp 11), (.tmp 12)], a1⟩, t11, p11, e11, none⟩,
    ⟨some 14, .convert T22 T9 (.tmp 13), t12, p12, e12, none⟩,
    ⟨some 4, .alloc T9, t13, p13, e13, none⟩,
    ⟨none, .store T9 (.tmp 4) (.tmp 14), t14, p14, e14, none⟩]⟩ false)
  (.seq (Code.region i5 ⟨[⟨some 2, .assign (.tmp 4), t15, p15, e15, none⟩]⟩ false)
  .ret))))))
    (h3 : intOf P T3 .i64 = true) (h61 : intOf P T61 .u32 = true) (hu : MethV P f287 (.int .u32) gUv) (hsp : SpanM P f279) (h22 : byteSl P T22 = true) (h9 : strTy P T9 = true) (h9s : scal P T9 = true) (hz9 : zeroOf P T9 (.string ⟨#[]⟩)) : MethV P f .pstr gCNStr := by
  refine ⟨enters_of hf hname hbody, ?_⟩
  intro w rb sb st h
  generalize hg : gCNStr st = g
  refine calls_of_wp hf hbody ?_
  generalize ha0 : ({ tmps := #[Value.pointer (some ⟨rb, 0, none⟩)] ++ Array.replicate (fn.ntmps - #[Value.pointer (some ⟨rb, 0, none⟩)].size) undef, defers := [] } : Act) = a0
  have hsz : a0.tmps.size = 15 := by subst ha0; simp [hN]
  have hd0 : a0.defers = [] := by subst ha0; rfl
  have g0 : get a0 0 = .pointer (some ⟨rb, 0, none⟩) := by subst ha0; exact get_args rfl
  clear ha0
  refine then_id (wp_seq_k fun K1 hK1 => ?_)
  refine r_const (m := 2) (by omega) (by omega) fun a1 k1 _ => hK1 a1 w (then_up ?_)
  have hz1 := k1.size
  have g1 : get a1 0 = .pointer (some ⟨rb, 0, none⟩) := by rw [k1.get 0 (by omega), g0]
  refine then_id (wp_seq_k fun K2 hK2 => ?_)
  refine wp_reg ?_
  rw [wpl_cons, wp_move, eval_tmp, g1, wpl_cons]
  refine wp_calls (R := fun x w' => x = .int .u32 ((rdUv st).1 : Int) ∧ RW w' rb sb (rdUv st).2 ∧ Fr [⟨rb, 0, 2⟩] w w') hu.enters (vs := #[.pointer (some ⟨rb, 0, none⟩)]) (by simp only [List.map_toArray, List.map_cons, List.map_nil, eval_tmp]; rw [get_put_same (by omega)])
    ((hu.call w rb sb st h).mono (by rintro e' w' ⟨x, rfl, h1, h2, h3⟩; exact ⟨_, rfl, h1.u32, h2, h3⟩)) ?_
  rintro _ w1 ⟨rfl, hr1, f1⟩
  have hlt := rdUv_lt st
  have hg : g = (if ((rdUv st).1 : Int) - 1 < 0 then (.nil, (rdUv st).2) else (.s ((rdSpan (((rdUv st).1 : Int) - 1) (rdUv st).2).1.getD []), (rdSpan (((rdUv st).1 : Int) - 1) (rdUv st).2).2)) := hg.symm.trans rfl
  generalize (rdUv st).1 = x at *
  generalize (rdUv st).2 = s at *
  rw [wpl_cons]
  refine wp_convert (k1 := .u32) (i := (x : Int)) h61 h3 (by rw [eval_tmp, get_put_same (by simp only [size_put]; omega)]) ?_
  rw [wrap64 (by omega), wpl_cons]
  refine wp_sub (k1 := .i64) (i := (x : Int)) (j := 1) (by rw [eval_tmp, get_put_same (by simp only [size_put]; omega)]) rfl ?_
  rw [wrap64 (by omega), wpl_cons, wp_assign, eval_tmp, get_put_same (by simp only [size_put]; omega), wpl_nil]
  generalize hzz : (x : Int) - 1 = z at *
  have hb : -9223372036854775808 ≤ z ∧ z ≤ 9223372036854775807 := by omega
  generalize ha2 : ((((a1.put (some 5) (.pointer (some ⟨rb, 0, none⟩))).put (some 6) (.int .u32 (x : Int))).put (some 7) (.int .i64 (x : Int))).put (some 8) (.int .i64 z)).put (some 3) (.int .i64 z) = a2
  have k2 : Kept 2 a1 a2 := by subst ha2; exact ((((Kept.put0 (by omega) _).put (by omega) _).put (by omega) _).put (by omega) _).put (by omega) _
  have q3 : get a2 3 = .int .i64 z := by subst ha2; exact get_put_same (by simp only [size_put]; omega)
  clear ha2
  have hz2 := k2.size
  have g2 : get a2 0 = .pointer (some ⟨rb, 0, none⟩) := by rw [k2.get 0 (by omega), g1]
  have hd2 : a2.defers = [] := by rw [k2.defers, k1.defers, hd0]
  refine hK2 a2 w1 (then_up ?_)
  refine then_id (wp_seq_k fun K3 hK3 => ?_)
  refine wp_seq_k fun K4 hK4 => ?_
  refine wp_reg ?_
  rw [wpl_cons, wp_move, eval_tmp, q3, wpl_cons]
  refine wp_lss (k1 := .i64) (i := z) (j := 0) (by rw [eval_tmp, get_put_same (by omega)]) rfl ?_
  rw [wpl_nil]
  have k3 : Kept 4 a2 ((a2.put (some 9) (.int .i64 z)).put (some 10) (.bool (decide (z < 0)))) := (Kept.put0 (by omega) _).put (by omega) _
  have qc : get ((a2.put (some 9) (.int .i64 z)).put (some 10) (.bool (decide (z < 0)))) 10 = .bool (decide (z < 0)) := get_put_same (by simp only [size_put]; omega)
  generalize (a2.put (some 9) (.int .i64 z)).put (some 10) (.bool (decide (z < 0))) = a3 at k3 qc ⊢
  have hz3 := k3.size
  have g3 : get a3 0 = .pointer (some ⟨rb, 0, none⟩) := by rw [k3.get 0 (by omega), g2]
  have r3 : get a3 3 = .int .i64 z := by rw [k3.get 3 (by omega), q3]
  have hd3 : a3.defers = [] := by rw [k3.defers, hd2]
  refine hK4 a3 w1 ?_
  refine wp_cond_split (t := decide (z < 0)) (by rw [eval_tmp, qc]) (fun hz => ?_) fun hz => wp_skip (hK3 a3 w1 (then_up ?_))
  · have hz : z < 0 := by simpa using hz
    rw [if_pos hz] at hg
    subst hg
    refine wp_seq_k fun K5 hK5 => ?_
    refine r_const (m := 2) (by omega) (by omega) fun a4 k4 q4 => hK5 a4 w1 ?_
    exact wp_ret ⟨by rw [k4.defers, hd3], _, results_one hres, _, rfl, by rw [q4]; exact .inl ⟨rfl, rfl⟩, hr1, f1⟩
  have hz : ¬ z < 0 := by simpa using hz
  rw [if_neg hz] at hg
  refine then_id (wp_seq_k fun K6 hK6 => ?_)
  refine wp_reg ?_
  rw [wpl_cons, wp_move, eval_tmp, g3, wpl_cons, wp_move, eval_tmp, get_put_ne (by omega), r3, wpl_cons]
  refine wp_calls hsp.enters (vs := #[.pointer (some ⟨rb, 0, none⟩), .int .i64 z]) (by simp only [List.map_toArray, List.map_cons, List.map_nil, eval_tmp]; rw [get_put_ne (by omega), get_put_same (by omega), get_put_same (by simp only [size_put]; omega)]) (hsp.call w1 rb sb s z hr1) ?_
  rintro sv w2 ⟨ho, hr2, f2⟩
  have hlen : ((rdSpan z s).1.getD []).length ≤ 4294967296 := Nat.le_trans (rdSpan_len z s) hr1.big
  generalize (rdSpan z s).1 = y at *
  generalize (rdSpan z s).2 = s2 at *
  subst hg
  rw [wpl_cons]
  refine wp_toString h22 h9 (by rw [eval_tmp, get_put_same (by simp only [size_put]; omega)]) ho ?_
  rw [wpl_cons]
  refine wp_alloc hz9 ?_
  rw [wpl_cons]
  refine alloc_str (s := strOf (y.getD [])) rfl h9s (get_put_same (by simp only [size_put]; omega)) (by rw [get_put_ne (by omega), get_put_same (by simp only [size_put]; omega)]) ?_
  intro w3 f3 hc3 hw3
  rw [wpl_nil]
  refine hK6 _ _ (then_up ?_)
  refine then_id (wp_seq_k fun K7 hK7 => ?_)
  refine wp_reg ?_
  rw [wpl_cons, wp_assign, eval_tmp, get_put_same (by simp only [size_put]; omega), wpl_nil]
  refine hK7 _ _ (wp_ret ?_)
  have sz2 := (f1.tr f2).size
  refine ⟨by simp only [defers_put]; exact hd3, _, results_one hres, _, rfl, ?_, hr2.kept f3 (by simp), (f1.tr f2).tr f3.nil⟩
  rw [get_put_same (by simp only [size_put]; omega)]
  exact .inr ⟨_, 0, strOf (y.getD []), .inr ⟨by omega, hw3⟩, rfl, hc3, by rw [strOf_list], by rw [strOf_list]; exact hlen⟩
set_option maxRecDepth 10000 in
theorem ucnstr_m {P : Program} {f : FuncId} {fn : Func}
    {T3 T9 T61 : TypeId}
    {f278 f279 f287 : FuncId}
    {a0 : Array TypeId}
    {a1 : Array TypeId}
    {a2 : Array TypeId}
    {i0 i1 i2 i3 i4 i5 : Nat}
    {t0 t1 t2 t3 t4 t5 t6 t7 t8 t9 t10 t11 t12 t13 t14 t15 : TypeId} {p0 p1 p2 p3 p4 p5 p6 p7 p8 p9 p10 p11 p12 p13 p14 p15 : String} {e0 e1 e2 e3 e4 e5 e6 e7 e8 e9 e10 e11 e12 e13 e14 e15 : Array Edge}
    (hf : P.funcs[f]? = some fn) (hname : (fn.name == "runtime.NumGoroutine") = false) (hres : fn.results = #[.tmp 2]) (hN : fn.ntmps = 15)
    (hbody : fn.body = some (.seq (Code.region i0 ⟨[⟨some 2, .assign (.const (.pointer none)), t0, p0, e0, none⟩]⟩ false)
  (.seq (Code.region i1 ⟨[⟨some 5, .move (.tmp 0), t1, p1, e1, none⟩,
    ⟨some 6, .call ⟨.value (.func f287), #[(.tmp 5)], a0⟩, t2, p2, e2, none⟩,
    ⟨some 7, .convert T61 T3 (.tmp 6), t3, p3, e3, none⟩,
    ⟨some 8, .binOp .sub T3 (.tmp 7) (.const (.int .i64 1)) T3, t4, p4, e4, none⟩,
    ⟨some 3, .assign (.tmp 8), t5, p5, e5, none⟩]⟩ false)
  (.seq (.seq (Code.region i2 ⟨[⟨some 9, .move (.tmp 3), t6, p6, e6, none⟩,
    ⟨some 10, .binOp .lss T3 (.tmp 9) (.const (.int .i64 0)) T3, t7, p7, e7, none⟩]⟩ false)
  (.cond (.tmp 10) (.seq (Code.region i3 ⟨[⟨some 2, .assign (.const (.pointer none)), t8, p8, e8, none⟩]⟩ false)
  .ret)
  .skip))
  (.seq (Code.region i4 ⟨[⟨some 11, .move (.tmp 0), t9, p9, e9, none⟩,
    ⟨some 12, .move (.tmp 3), t10, p10, e10, none⟩,
    ⟨some 13, .call ⟨.value (.func f279), #[(.tmp 11), (.tmp 12)], a1⟩, t11, p11, e11, none⟩,
    ⟨some 14, .call ⟨.value (.func f278), #[(.tmp 13)], a2⟩, t12, p12, e12, none⟩,
    ⟨some 4, .alloc T9, t13, p13, e13, none⟩,
    ⟨none, .store T9 (.tmp 4) (.tmp 14), t14, p14, e14, none⟩]⟩ false)
  (.seq (Code.region i5 ⟨[⟨some 2, .assign (.tmp 4), t15, p15, e15, none⟩]⟩ false)
  .ret))))))
    (h3 : intOf P T3 .i64 = true) (h61 : intOf P T61 .u32 = true) (hu : MethV P f287 (.int .u32) gUv) (hsp : SpanM P f279) (hus : UStrM P f278) (h9s : scal P T9 = true) (hz9 : zeroOf P T9 (.string ⟨#[]⟩)) : MethV P f .pstr gCNStr := by
  refine ⟨enters_of hf hname hbody, ?_⟩
  intro w rb sb st h
  generalize hg : gCNStr st = g
  refine calls_of_wp hf hbody ?_
  generalize ha0 : ({ tmps := #[Value.pointer (some ⟨rb, 0, none⟩)] ++ Array.replicate (fn.ntmps - #[Value.pointer (some ⟨rb, 0, none⟩)].size) undef, defers := [] } : Act) = a0
  have hsz : a0.tmps.size = 15 := by subst ha0; simp [hN]
  have hd0 : a0.defers = [] := by subst ha0; rfl
  have g0 : get a0 0 = .pointer (some ⟨rb, 0, none⟩) := by subst ha0; exact get_args rfl
  clear ha0
  refine then_id (wp_seq_k fun K1 hK1 => ?_)
  refine r_const (m := 2) (by omega) (by omega) fun a1 k1 _ => hK1 a1 w (then_up ?_)
  have hz1 := k1.size
  have g1 : get a1 0 = .pointer (some ⟨rb, 0, none⟩) := by rw [k1.get 0 (by omega), g0]
  refine then_id (wp_seq_k fun K2 hK2 => ?_)
  refine wp_reg ?_
  rw [wpl_cons, wp_move, eval_tmp, g1, wpl_cons]
  refine wp_calls (R := fun x w' => x = .int .u32 ((rdUv st).1 : Int) ∧ RW w' rb sb (rdUv st).2 ∧ Fr [⟨rb, 0, 2⟩] w w') hu.enters (vs := #[.pointer (some ⟨rb, 0, none⟩)]) (by simp only [List.map_toArray, List.map_cons, List.map_nil, eval_tmp]; rw [get_put_same (by omega)])
    ((hu.call w rb sb st h).mono (by rintro e' w' ⟨x, rfl, h1, h2, h3⟩; exact ⟨_, rfl, h1.u32, h2, h3⟩)) ?_
  rintro _ w1 ⟨rfl, hr1, f1⟩
  have hlt := rdUv_lt st
  have hg : g = (if ((rdUv st).1 : Int) - 1 < 0 then (.nil, (rdUv st).2) else (.s ((rdSpan (((rdUv st).1 : Int) - 1) (rdUv st).2).1.getD []), (rdSpan (((rdUv st).1 : Int) - 1) (rdUv st).2).2)) := hg.symm.trans rfl
  generalize (rdUv st).1 = x at *
  generalize (rdUv st).2 = s at *
  rw [wpl_cons]
  refine wp_convert (k1 := .u32) (i := (x : Int)) h61 h3 (by rw [eval_tmp, get_put_same (by simp only [size_put]; omega)]) ?_
  rw [wrap64 (by omega), wpl_cons]
  refine wp_sub (k1 := .i64) (i := (x : Int)) (j := 1) (by rw [eval_tmp, get_put_same (by simp only [size_put]; omega)]) rfl ?_
  rw [wrap64 (by omega), wpl_cons, wp_assign, eval_tmp, get_put_same (by simp only [size_put]; omega), wpl_nil]
  generalize hzz : (x : Int) - 1 = z at *
  have hb : -9223372036854775808 ≤ z ∧ z ≤ 9223372036854775807 := by omega
  generalize ha2 : ((((a1.put (some 5) (.pointer (some ⟨rb, 0, none⟩))).put (some 6) (.int .u32 (x : Int))).put (some 7) (.int .i64 (x : Int))).put (some 8) (.int .i64 z)).put (some 3) (.int .i64 z) = a2
  have k2 : Kept 2 a1 a2 := by subst ha2; exact ((((Kept.put0 (by omega) _).put (by omega) _).put (by omega) _).put (by omega) _).put (by omega) _
  have q3 : get a2 3 = .int .i64 z := by subst ha2; exact get_put_same (by simp only [size_put]; omega)
  clear ha2
  have hz2 := k2.size
  have g2 : get a2 0 = .pointer (some ⟨rb, 0, none⟩) := by rw [k2.get 0 (by omega), g1]
  have hd2 : a2.defers = [] := by rw [k2.defers, k1.defers, hd0]
  refine hK2 a2 w1 (then_up ?_)
  refine then_id (wp_seq_k fun K3 hK3 => ?_)
  refine wp_seq_k fun K4 hK4 => ?_
  refine wp_reg ?_
  rw [wpl_cons, wp_move, eval_tmp, q3, wpl_cons]
  refine wp_lss (k1 := .i64) (i := z) (j := 0) (by rw [eval_tmp, get_put_same (by omega)]) rfl ?_
  rw [wpl_nil]
  have k3 : Kept 4 a2 ((a2.put (some 9) (.int .i64 z)).put (some 10) (.bool (decide (z < 0)))) := (Kept.put0 (by omega) _).put (by omega) _
  have qc : get ((a2.put (some 9) (.int .i64 z)).put (some 10) (.bool (decide (z < 0)))) 10 = .bool (decide (z < 0)) := get_put_same (by simp only [size_put]; omega)
  generalize (a2.put (some 9) (.int .i64 z)).put (some 10) (.bool (decide (z < 0))) = a3 at k3 qc ⊢
  have hz3 := k3.size
  have g3 : get a3 0 = .pointer (some ⟨rb, 0, none⟩) := by rw [k3.get 0 (by omega), g2]
  have r3 : get a3 3 = .int .i64 z := by rw [k3.get 3 (by omega), q3]
  have hd3 : a3.defers = [] := by rw [k3.defers, hd2]
  refine hK4 a3 w1 ?_
  refine wp_cond_split (t := decide (z < 0)) (by rw [eval_tmp, qc]) (fun hz => ?_) fun hz => wp_skip (hK3 a3 w1 (then_up ?_))
  · have hz : z < 0 := by simpa using hz
    rw [if_pos hz] at hg
    subst hg
    refine wp_seq_k fun K5 hK5 => ?_
    refine r_const (m := 2) (by omega) (by omega) fun a4 k4 q4 => hK5 a4 w1 ?_
    exact wp_ret ⟨by rw [k4.defers, hd3], _, results_one hres, _, rfl, by rw [q4]; exact .inl ⟨rfl, rfl⟩, hr1, f1⟩
  have hz : ¬ z < 0 := by simpa using hz
  rw [if_neg hz] at hg
  refine then_id (wp_seq_k fun K6 hK6 => ?_)
  refine wp_reg ?_
  rw [wpl_cons, wp_move, eval_tmp, g3, wpl_cons, wp_move, eval_tmp, get_put_ne (by omega), r3, wpl_cons]
  refine wp_calls hsp.enters (vs := #[.pointer (some ⟨rb, 0, none⟩), .int .i64 z]) (by simp only [List.map_toArray, List.map_cons, List.map_nil, eval_tmp]; rw [get_put_ne (by omega), get_put_same (by omega), get_put_same (by simp only [size_put]; omega)]) (hsp.call w1 rb sb s z hr1) ?_
  rintro sv w2 ⟨ho, hr2, f2⟩
  have hlen : ((rdSpan z s).1.getD []).length ≤ 4294967296 := Nat.le_trans (rdSpan_len z s) hr1.big
  generalize (rdSpan z s).1 = y at *
  generalize (rdSpan z s).2 = s2 at *
  subst hg
  rw [wpl_cons]
  refine wp_calls (R := fun v w' => v = .string (strOf (y.getD [])) ∧ w' = w2) hus.enters (vs := #[sv]) (by simp only [List.map_toArray, List.map_cons, List.map_nil, eval_tmp]; rw [get_put_same (by simp only [size_put]; omega)]) ((hus.call w2 _ sv y ho).mono (by rintro e' w' ⟨rfl, rfl⟩; exact ⟨_, rfl, rfl, rfl⟩)) ?_
  rintro _ _ ⟨rfl, rfl⟩
  rw [wpl_cons]
  refine wp_alloc hz9 ?_
  rw [wpl_cons]
  refine alloc_str (s := strOf (y.getD [])) rfl h9s (get_put_same (by simp only [size_put]; omega)) (by rw [get_put_ne (by omega), get_put_same (by simp only [size_put]; omega)]) ?_
  intro w3 f3 hc3 hw3
  rw [wpl_nil]
  refine hK6 _ _ (then_up ?_)
  refine then_id (wp_seq_k fun K7 hK7 => ?_)
  refine wp_reg ?_
  rw [wpl_cons, wp_assign, eval_tmp, get_put_same (by simp only [size_put]; omega), wpl_nil]
  refine hK7 _ _ (wp_ret ?_)
  have sz2 := (f1.tr f2).size
  refine ⟨by simp only [defers_put]; exact hd3, _, results_one hres, _, rfl, ?_, hr2.kept f3 (by simp), (f1.tr f2).tr f3.nil⟩
  rw [get_put_same (by simp only [size_put]; omega)]
  exact .inr ⟨_, 0, strOf (y.getD []), .inr ⟨by omega, hw3⟩, rfl, hc3, by rw [strOf_list], by rw [strOf_list]; exact hlen⟩
set_option maxRecDepth 10000 in
theorem nstr_m {P : Program} {f : FuncId} {fn : Func}
    {T3 T9 T22 T45 : TypeId}
    {f209 f279 : FuncId}
    {a0 : Array TypeId}
    {a1 : Array TypeId}
    {i0 i1 i2 i3 i4 i5 : Nat}
    {t0 t1 t2 t3 t4 t5 t6 t7 t8 t9 t10 t11 t12 t13 t14 : TypeId} {p0 p1 p2 p3 p4 p5 p6 p7 p8 p9 p10 p11 p12 p13 p14 : String} {e0 e1 e2 e3 e4 e5 e6 e7 e8 e9 e10 e11 e12 e13 e14 : Array Edge}
    (hf : P.funcs[f]? = some fn) (hname : (fn.name == "runtime.NumGoroutine") = false) (hres : fn.results = #[.tmp 2]) (hN : fn.ntmps = 14)
    (hbody : fn.body = some (.seq (Code.region i0 ⟨[⟨some 2, .assign (.const (.pointer none)), t0, p0, e0, none⟩]⟩ false)
  (.seq (Code.region i1 ⟨[⟨some 5, .move (.tmp 0), t1, p1, e1, none⟩,
    ⟨some 6, .call ⟨.value (.func f209), #[(.tmp 5)], a0⟩, t2, p2, e2, none⟩,
    ⟨some 3, .assign (.tmp 6), t3, p3, e3, none⟩]⟩ false)
  (.seq (.seq (Code.region i2 ⟨[⟨some 7, .move (.tmp 3), t4, p4, e4, none⟩,
    ⟨some 8, .binOp .lss T45 (.tmp 7) (.const (.int .i16 0)) T45, t5, p5, e5, none⟩]⟩ false)
  (.cond (.tmp 8) (.seq (Code.region i3 ⟨[⟨some 2, .assign (.const (.pointer none)), t6, p6, e6, none⟩]⟩ false)
  .ret)
  .skip))
  (.seq (Code.region i4 ⟨[⟨some 9, .move (.tmp 0), t7, p7, e7, none⟩,
    ⟨some 10, .move (.tmp 3), t8, p8, e8, none⟩,
    ⟨some 11, .convert T45 T3 (.tmp 10), t9, p9, e9, none⟩,
    ⟨some 12, .call ⟨.value (.func f279), #[(.tmp 9), (.tmp 11)], a1⟩, t10, p10, e10, none⟩,
    ⟨some 13, .convert T22 T9 (.tmp 12), t11, p11, e11, none⟩,
    ⟨some 4, .alloc T9, t12, p12, e12, none⟩,
    ⟨none, .store T9 (.tmp 4) (.tmp 13), t13, p13, e13, none⟩]⟩ false)
  (.seq (Code.region i5 ⟨[⟨some 2, .assign (.tmp 4), t14, p14, e14, none⟩]⟩ false)
  .ret))))))
    (h3 : intOf P T3 .i64 = true) (h45 : intOf P T45 .i16 = true) (hu : MethV P f209 (.int .i16) (gNum .i16 2)) (hsp : SpanM P f279) (h22 : byteSl P T22 = true) (h9 : strTy P T9 = true) (h9s : scal P T9 = true) (hz9 : zeroOf P T9 (.string ⟨#[]⟩)) : MethV P f .pstr gNStr := by
  refine ⟨enters_of hf hname hbody, ?_⟩
  intro w rb sb st h
  generalize hg : gNStr st = g
  refine calls_of_wp hf hbody ?_
  generalize ha0 : ({ tmps := #[Value.pointer (some ⟨rb, 0, none⟩)] ++ Array.replicate (fn.ntmps - #[Value.pointer (some ⟨rb, 0, none⟩)].size) undef, defers := [] } : Act) = a0
  have hsz : a0.tmps.size = 14 := by subst ha0; simp [hN]
  have hd0 : a0.defers = [] := by subst ha0; rfl
  have g0 : get a0 0 = .pointer (some ⟨rb, 0, none⟩) := by subst ha0; exact get_args rfl
  clear ha0
  refine then_id (wp_seq_k fun K1 hK1 => ?_)
  refine r_const (m := 2) (by omega) (by omega) fun a1 k1 _ => hK1 a1 w (then_up ?_)
  have hz1 := k1.size
  have g1 : get a1 0 = .pointer (some ⟨rb, 0, none⟩) := by rw [k1.get 0 (by omega), g0]
  refine then_id (wp_seq_k fun K2 hK2 => ?_)
  refine wp_reg ?_
  rw [wpl_cons, wp_move, eval_tmp, g1, wpl_cons]
  refine wp_calls (R := fun x w' => x = .int .i16 (rdNum .i16 2 st).1 ∧ RW w' rb sb (rdNum .i16 2 st).2 ∧ Fr [⟨rb, 0, 2⟩] w w') hu.enters (vs := #[.pointer (some ⟨rb, 0, none⟩)]) (by simp only [List.map_toArray, List.map_cons, List.map_nil, eval_tmp]; rw [get_put_same (by omega)])
    ((hu.call w rb sb st h).mono (by rintro e' w' ⟨x, rfl, h1, h2, h3⟩; exact ⟨_, rfl, h1.i16, h2, h3⟩)) ?_
  rintro _ w1 ⟨rfl, hr1, f1⟩
  have hb := rdNum_i16 st
  have hg : g = (if (rdNum .i16 2 st).1 < 0 then (.nil, (rdNum .i16 2 st).2) else (.s ((rdSpan (rdNum .i16 2 st).1 (rdNum .i16 2 st).2).1.getD []), (rdSpan (rdNum .i16 2 st).1 (rdNum .i16 2 st).2).2)) := hg.symm.trans rfl
  generalize (rdNum .i16 2 st).1 = z at *
  generalize (rdNum .i16 2 st).2 = s at *
  rw [wpl_cons, wp_assign, eval_tmp, get_put_same (by simp only [size_put]; omega), wpl_nil]
  generalize ha2 : ((a1.put (some 5) (.pointer (some ⟨rb, 0, none⟩))).put (some 6) (.int .i16 z)).put (some 3) (.int .i16 z) = a2
  have k2 : Kept 2 a1 a2 := by subst ha2; exact ((Kept.put0 (by omega) _).put (by omega) _).put (by omega) _
  have q3 : get a2 3 = .int .i16 z := by subst ha2; exact get_put_same (by simp only [size_put]; omega)
  clear ha2
  have hz2 := k2.size
  have g2 : get a2 0 = .pointer (some ⟨rb, 0, none⟩) := by rw [k2.get 0 (by omega), g1]
  have hd2 : a2.defers = [] := by rw [k2.defers, k1.defers, hd0]
  refine hK2 a2 w1 (then_up ?_)
  refine then_id (wp_seq_k fun K3 hK3 => ?_)
  refine wp_seq_k fun K4 hK4 => ?_
  refine wp_reg ?_
  rw [wpl_cons, wp_move, eval_tmp, q3, wpl_cons]
  refine wp_lss (k1 := .i16) (i := z) (j := 0) (by rw [eval_tmp, get_put_same (by omega)]) rfl ?_
  rw [wpl_nil]
  have k3 : Kept 4 a2 ((a2.put (some 7) (.int .i16 z)).put (some 8) (.bool (decide (z < 0)))) := (Kept.put0 (by omega) _).put (by omega) _
  have qc : get ((a2.put (some 7) (.int .i16 z)).put (some 8) (.bool (decide (z < 0)))) 8 = .bool (decide (z < 0)) := get_put_same (by simp only [size_put]; omega)
  generalize (a2.put (some 7) (.int .i16 z)).put (some 8) (.bool (decide (z < 0))) = a3 at k3 qc ⊢
  have hz3 := k3.size
  have g3 : get a3 0 = .pointer (some ⟨rb, 0, none⟩) := by rw [k3.get 0 (by omega), g2]
  have r3 : get a3 3 = .int .i16 z := by rw [k3.get 3 (by omega), q3]
  have hd3 : a3.defers = [] := by rw [k3.defers, hd2]
  refine hK4 a3 w1 ?_
  refine wp_cond_split (t := decide (z < 0)) (by rw [eval_tmp, qc]) (fun hz => ?_) fun hz => wp_skip (hK3 a3 w1 (then_up ?_))
  · have hz : z < 0 := by simpa using hz
    rw [if_pos hz] at hg
    subst hg
    refine wp_seq_k fun K5 hK5 => ?_
    refine r_const (m := 2) (by omega) (by omega) fun a4 k4 q4 => hK5 a4 w1 ?_
    exact wp_ret ⟨by rw [k4.defers, hd3], _, results_one hres, _, rfl, by rw [q4]; exact .inl ⟨rfl, rfl⟩, hr1, f1⟩
  have hz : ¬ z < 0 := by simpa using hz
  rw [if_neg hz] at hg
  refine then_id (wp_seq_k fun K6 hK6 => ?_)
  refine wp_reg ?_
  rw [wpl_cons, wp_move, eval_tmp, g3, wpl_cons, wp_move, eval_tmp, get_put_ne (by omega), r3, wpl_cons]
  refine wp_convert (k1 := .i16) (i := z) h45 h3 (by rw [eval_tmp, get_put_same (by simp only [size_put]; omega)]) ?_
  rw [wrap64 (by omega), wpl_cons]
  refine wp_calls hsp.enters (vs := #[.pointer (some ⟨rb, 0, none⟩), .int .i64 z]) (by simp only [List.map_toArray, List.map_cons, List.map_nil, eval_tmp]; rw [get_put_ne (by omega), get_put_ne (by omega), get_put_same (by omega), get_put_same (by simp only [size_put]; omega)]) (hsp.call w1 rb sb s z hr1) ?_
  rintro sv w2 ⟨ho, hr2, f2⟩
  have hlen : ((rdSpan z s).1.getD []).length ≤ 4294967296 := Nat.le_trans (rdSpan_len z s) hr1.big
  generalize (rdSpan z s).1 = y at *
  generalize (rdSpan z s).2 = s2 at *
  subst hg
  rw [wpl_cons]
  refine wp_toString h22 h9 (by rw [eval_tmp, get_put_same (by simp only [size_put]; omega)]) ho ?_
  rw [wpl_cons]
  refine wp_alloc hz9 ?_
  rw [wpl_cons]
  refine alloc_str (s := strOf (y.getD [])) rfl h9s (get_put_same (by simp only [size_put]; omega)) (by rw [get_put_ne (by omega), get_put_same (by simp only [size_put]; omega)]) ?_
  intro w3 f3 hc3 hw3
  rw [wpl_nil]
  refine hK6 _ _ (then_up ?_)
  refine then_id (wp_seq_k fun K7 hK7 => ?_)
  refine wp_reg ?_
  rw [wpl_cons, wp_assign, eval_tmp, get_put_same (by simp only [size_put]; omega), wpl_nil]
  refine hK7 _ _ (wp_ret ?_)
  have sz2 := (f1.tr f2).size
  refine ⟨by simp only [defers_put]; exact hd3, _, results_one hres, _, rfl, ?_, hr2.kept f3 (by simp), (f1.tr f2).tr f3.nil⟩
  rw [get_put_same (by simp only [size_put]; omega)]
  exact .inr ⟨_, 0, strOf (y.getD []), .inr ⟨by omega, hw3⟩, rfl, hc3, by rw [strOf_list], by rw [strOf_list]; exact hlen⟩
set_option maxRecDepth 10000 in
theorem unstr_m {P : Program} {f : FuncId} {fn : Func}
    {T3 T9 T45 : TypeId}
    {f209 f278 f279 : FuncId}
    {a0 : Array TypeId}
    {a1 : Array TypeId}
    {a2 : Array TypeId}
    {i0 i1 i2 i3 i4 i5 : Nat}
    {t0 t1 t2 t3 t4 t5 t6 t7 t8 t9 t10 t11 t12 t13 t14 : TypeId} {p0 p1 p2 p3 p4 p5 p6 p7 p8 p9 p10 p11 p12 p13 p14 : String} {e0 e1 e2 e3 e4 e5 e6 e7 e8 e9 e10 e11 e12 e13 e14 : Array Edge}
    (hf : P.funcs[f]? = some fn) (hname : (fn.name == "runtime.NumGoroutine") = false) (hres : fn.results = #[.tmp 2]) (hN : fn.ntmps = 14)
    (hbody : fn.body = some (.seq (Code.region i0 ⟨[⟨some 2, .assign (.const (.pointer none)), t0, p0, e0, none⟩]⟩ false)
  (.seq (Code.region i1 ⟨[⟨some 5, .move (.tmp 0), t1, p1, e1, none⟩,
    ⟨some 6, .call ⟨.value (.func f209), #[(.tmp 5)], a0⟩, t2, p2, e2, none⟩,
    ⟨some 3, .assign (.tmp 6), t3, p3, e3, none⟩]⟩ false)
  (.seq (.seq (Code.region i2 ⟨[⟨some 7, .move (.tmp 3), t4, p4, e4, none⟩,
    ⟨some 8, .binOp .lss T45 (.tmp 7) (.const (.int .i16 0)) T45, t5, p5, e5, none⟩]⟩ false)
  (.cond (.tmp 8) (.seq (Code.region i3 ⟨[⟨some 2, .assign (.const (.pointer none)), t6, p6, e6, none⟩]⟩ false)
  .ret)
  .skip))
  (.seq (Code.region i4 ⟨[⟨some 9, .move (.tmp 0), t7, p7, e7, none⟩,
    ⟨some 10, .move (.tmp 3), t8, p8, e8, none⟩,
    ⟨some 11, .convert T45 T3 (.tmp 10), t9, p9, e9, none⟩,
    ⟨some 12, .call ⟨.value (.func f279), #[(.tmp 9), (.tmp 11)], a1⟩, t10, p10, e10, none⟩,
    ⟨some 13, .call ⟨.value (.func f278), #[(.tmp 12)], a2⟩, t11, p11, e11, none⟩,
    ⟨some 4, .alloc T9, t12, p12, e12, none⟩,
    ⟨none, .store T9 (.tmp 4) (.tmp 13), t13, p13, e13, none⟩]⟩ false)
  (.seq (Code.region i5 ⟨[⟨some 2, .assign (.tmp 4), t14, p14, e14, none⟩]⟩ false)
  .ret))))))
    (h3 : intOf P T3 .i64 = true) (h45 : intOf P T45 .i16 = true) (hu : MethV P f209 (.int .i16) (gNum .i16 2)) (hsp : SpanM P f279) (hus : UStrM P f278) (h9s : scal P T9 = true) (hz9 : zeroOf P T9 (.string ⟨#[]⟩)) : MethV P f .pstr gNStr := by
  refine ⟨enters_of hf hname hbody, ?_⟩
  intro w rb sb st h
  generalize hg : gNStr st = g
  refine calls_of_wp hf hbody ?_
  generalize ha0 : ({ tmps := #[Value.pointer (some ⟨rb, 0, none⟩)] ++ Array.replicate (fn.ntmps - #[Value.pointer (some ⟨rb, 0, none⟩)].size) undef, defers := [] } : Act) = a0
  have hsz : a0.tmps.size = 14 := by subst ha0; simp [hN]
  have hd0 : a0.defers = [] := by subst ha0; rfl
  have g0 : get a0 0 = .pointer (some ⟨rb, 0, none⟩) := by subst ha0; exact get_args rfl
  clear ha0
  refine then_id (wp_seq_k fun K1 hK1 => ?_)
  refine r_const (m := 2) (by omega) (by omega) fun a1 k1 _ => hK1 a1 w (then_up ?_)
  have hz1 := k1.size
  have g1 : get a1 0 = .pointer (some ⟨rb, 0, none⟩) := by rw [k1.get 0 (by omega), g0]
  refine then_id (wp_seq_k fun K2 hK2 => ?_)
  refine wp_reg ?_
  rw [wpl_cons, wp_move, eval_tmp, g1, wpl_cons]
  refine wp_calls (R := fun x w' => x = .int .i16 (rdNum .i16 2 st).1 ∧ RW w' rb sb (rdNum .i16 2 st).2 ∧ Fr [⟨rb, 0, 2⟩] w w') hu.enters (vs := #[.pointer (some ⟨rb, 0, none⟩)]) (by simp only [List.map_toArray, List.map_cons, List.map_nil, eval_tmp]; rw [get_put_same (by omega)])
    ((hu.call w rb sb st h).mono (by rintro e' w' ⟨x, rfl, h1, h2, h3⟩; exact ⟨_, rfl, h1.i16, h2, h3⟩)) ?_
  rintro _ w1 ⟨rfl, hr1, f1⟩
  have hb := rdNum_i16 st
  have hg : g = (if (rdNum .i16 2 st).1 < 0 then (.nil, (rdNum .i16 2 st).2) else (.s ((rdSpan (rdNum .i16 2 st).1 (rdNum .i16 2 st).2).1.getD []), (rdSpan (rdNum .i16 2 st).1 (rdNum .i16 2 st).2).2)) := hg.symm.trans rfl
  generalize (rdNum .i16 2 st).1 = z at *
  generalize (rdNum .i16 2 st).2 = s at *
  rw [wpl_cons, wp_assign, eval_tmp, get_put_same (by simp only [size_put]; omega), wpl_nil]
  generalize ha2 : ((a1.put (some 5) (.pointer (some ⟨rb, 0, none⟩))).put (some 6) (.int .i16 z)).put (some 3) (.int .i16 z) = a2
  have k2 : Kept 2 a1 a2 := by subst ha2; exact ((Kept.put0 (by omega) _).put (by omega) _).put (by omega) _
  have q3 : get a2 3 = .int .i16 z := by subst ha2; exact get_put_same (by simp only [size_put]; omega)
  clear ha2
  have hz2 := k2.size
  have g2 : get a2 0 = .pointer (some ⟨rb, 0, none⟩) := by rw [k2.get 0 (by omega), g1]
  have hd2 : a2.defers = [] := by rw [k2.defers, k1.defers, hd0]
  refine hK2 a2 w1 (then_up ?_)
  refine then_id (wp_seq_k fun K3 hK3 => ?_)
  refine wp_seq_k fun K4 hK4 => ?_
  refine wp_reg ?_
  rw [wpl_cons, wp_move, eval_tmp, q3, wpl_cons]
  refine wp_lss (k1 := .i16) (i := z) (j := 0) (by rw [eval_tmp, get_put_same (by omega)]) rfl ?_
  rw [wpl_nil]
  have k3 : Kept 4 a2 ((a2.put (some 7) (.int .i16 z)).put (some 8) (.bool (decide (z < 0)))) := (Kept.put0 (by omega) _).put (by omega) _
  have qc : get ((a2.put (some 7) (.int .i16 z)).put (some 8) (.bool (decide (z < 0)))) 8 = .bool (decide (z < 0)) := get_put_same (by simp only [size_put]; omega)
  generalize (a2.put (some 7) (.int .i16 z)).put (some 8) (.bool (decide (z < 0))) = a3 at k3 qc ⊢
  have hz3 := k3.size
  have g3 : get a3 0 = .pointer (some ⟨rb, 0, none⟩) := by rw [k3.get 0 (by omega), g2]
  have r3 : get a3 3 = .int .i16 z := by rw [k3.get 3 (by omega), q3]
  have hd3 : a3.defers = [] := by rw [k3.defers, hd2]
  refine hK4 a3 w1 ?_
  refine wp_cond_split (t := decide (z < 0)) (by rw [eval_tmp, qc]) (fun hz => ?_) fun hz => wp_skip (hK3 a3 w1 (then_up ?_))
  · have hz : z < 0 := by simpa using hz
    rw [if_pos hz] at hg
    subst hg
    refine wp_seq_k fun K5 hK5 => ?_
    refine r_const (m := 2) (by omega) (by omega) fun a4 k4 q4 => hK5 a4 w1 ?_
    exact wp_ret ⟨by rw [k4.defers, hd3], _, results_one hres, _, rfl, by rw [q4]; exact .inl ⟨rfl, rfl⟩, hr1, f1⟩
  have hz : ¬ z < 0 := by simpa using hz
  rw [if_neg hz] at hg
  refine then_id (wp_seq_k fun K6 hK6 => ?_)
  refine wp_reg ?_
  rw [wpl_cons, wp_move, eval_tmp, g3, wpl_cons, wp_move, eval_tmp, get_put_ne (by omega), r3, wpl_cons]
  refine wp_convert (k1 := .i16) (i := z) h45 h3 (by rw [eval_tmp, get_put_same (by simp only [size_put]; omega)]) ?_
  rw [wrap64 (by omega), wpl_cons]
  refine wp_calls hsp.enters (vs := #[.pointer (some ⟨rb, 0, none⟩), .int .i64 z]) (by simp only [List.map_toArray, List.map_cons, List.map_nil, eval_tmp]; rw [get_put_ne (by omega), get_put_ne (by omega), get_put_same (by omega), get_put_same (by simp only [size_put]; omega)]) (hsp.call w1 rb sb s z hr1) ?_
  rintro sv w2 ⟨ho, hr2, f2⟩
  have hlen : ((rdSpan z s).1.getD []).length ≤ 4294967296 := Nat.le_trans (rdSpan_len z s) hr1.big
  generalize (rdSpan z s).1 = y at *
  generalize (rdSpan z s).2 = s2 at *
  subst hg
  rw [wpl_cons]
  refine wp_calls (R := fun v w' => v = .string (strOf (y.getD [])) ∧ w' = w2) hus.enters (vs := #[sv]) (by simp only [List.map_toArray, List.map_cons, List.map_nil, eval_tmp]; rw [get_put_same (by simp only [size_put]; omega)]) ((hus.call w2 _ sv y ho).mono (by rintro e' w' ⟨rfl, rfl⟩; exact ⟨_, rfl, rfl, rfl⟩)) ?_
  rintro _ _ ⟨rfl, rfl⟩
  rw [wpl_cons]
  refine wp_alloc hz9 ?_
  rw [wpl_cons]
  refine alloc_str (s := strOf (y.getD [])) rfl h9s (get_put_same (by simp only [size_put]; omega)) (by rw [get_put_ne (by omega), get_put_same (by simp only [size_put]; omega)]) ?_
  intro w3 f3 hc3 hw3
  rw [wpl_nil]
  refine hK6 _ _ (then_up ?_)
  refine then_id (wp_seq_k fun K7 hK7 => ?_)
  refine wp_reg ?_
  rw [wpl_cons, wp_assign, eval_tmp, get_put_same (by simp only [size_put]; omega), wpl_nil]
  refine hK7 _ _ (wp_ret ?_)
  have sz2 := (f1.tr f2).size
  refine ⟨by simp only [defers_put]; exact hd3, _, results_one hres, _, rfl, ?_, hr2.kept f3 (by simp), (f1.tr f2).tr f3.nil⟩
  rw [get_put_same (by simp only [size_put]; omega)]
  exact .inr ⟨_, 0, strOf (y.getD []), .inr ⟨by omega, hw3⟩, rfl, hc3, by rw [strOf_list], by rw [strOf_list]; exact hlen⟩

/-- How many things there are, behind Uvarint. -/
theorem calen_m {P : Program} {f : FuncId} {fn : Func} {et : TypeId}
    {T3 T4 T21 T22 T61 T216 : TypeId}
    {f287 : FuncId}
    {a0 : Array TypeId}
    {i0 i1 i2 i3 i4 i5 i6 : Nat}
    {t0 t1 t2 t3 t4 t5 t6 t7 t8 t9 t10 t11 t12 t13 t14 t15 t16 t17 t18 t19 t20 t21 t22 t23 t24 : TypeId} {p0 p1 p2 p3 p4 p5 p6 p7 p8 p9 p10 p11 p12 p13 p14 p15 p16 p17 p18 p19 p20 p21 p22 p23 p24 : String} {e0 e1 e2 e3 e4 e5 e6 e7 e8 e9 e10 e11 e12 e13 e14 e15 e16 e17 e18 e19 e20 e21 e22 e23 e24 : Array Edge}
    (hf : P.funcs[f]? = some fn) (hname : (fn.name == "runtime.NumGoroutine") = false) (hres : fn.results = #[.tmp 2]) (hN : fn.ntmps = 23)
    (hbody : fn.body = some (.seq (Code.region i0 ⟨[⟨some 2, .assign (.const (.int .i32 0)), t0, p0, e0, none⟩]⟩ false)
  (.seq (Code.region i1 ⟨[⟨some 4, .move (.tmp 0), t1, p1, e1, none⟩,
    ⟨some 5, .call ⟨.value (.func f287), #[(.tmp 4)], a0⟩, t2, p2, e2, none⟩,
    ⟨some 6, .convert T61 T21 (.tmp 5), t3, p3, e3, none⟩,
    ⟨some 7, .binOp .sub T21 (.tmp 6) (.const (.int .i32 1)) T21, t4, p4, e4, none⟩,
    ⟨some 3, .assign (.tmp 7), t5, p5, e5, none⟩]⟩ false)
  (.seq (.seq (Code.region i2 ⟨[⟨some 8, .move (.tmp 0), t6, p6, e6, none⟩,
    ⟨some 9, .nilCheck (.tmp 8), t7, p7, e7, none⟩,
    ⟨some 10, .fieldAddr T216 (.tmp 9) 0, t8, p8, e8, none⟩,
    ⟨some 11, .load T22 (.tmp 10), t9, p9, e9, none⟩,
    ⟨some 12, .call ⟨.builtin .len, #[(.tmp 11)], #[T22]⟩, t10, p10, e10, none⟩,
    ⟨some 13, .move (.tmp 3), t11, p11, e11, none⟩,
    ⟨some 14, .convert T21 T3 (.tmp 13), t12, p12, e12, none⟩,
    ⟨some 15, .binOp .lss T3 (.tmp 12) (.tmp 14) T3, t13, p13, e13, none⟩]⟩ false)
  (.cond (.tmp 15) (.seq (Code.region i3 ⟨[⟨some 16, .move (.tmp 0), t14, p14, e14, none⟩,
    ⟨some 17, .nilCheck (.tmp 16), t15, p15, e15, none⟩,
    ⟨some 18, .fieldAddr T216 (.tmp 17) 1, t16, p16, e16, none⟩,
    ⟨none, .store T4 (.tmp 18) (.const (.bool true)), t17, p17, e17, none⟩]⟩ false)
  (.seq (Code.region i4 ⟨[⟨some 19, .move (.tmp 0), t18, p18, e18, none⟩,
    ⟨some 20, .nilCheck (.tmp 19), t19, p19, e19, none⟩,
    ⟨some 21, .fieldAddr T216 (.tmp 20) 0, t20, p20, e20, none⟩,
    ⟨none, .store T22 (.tmp 21) (.const (.slice none 0 0)), t21, p21, e21, none⟩]⟩ false)
  (.seq (Code.region i5 ⟨[⟨some 2, .assign (.const (.int .i32 0)), t22, p22, e22, none⟩]⟩ false)
  .ret)))
  .skip))
  (.seq (Code.region i6 ⟨[⟨some 22, .move (.tmp 3), t23, p23, e23, none⟩,
    ⟨some 2, .assign (.tmp 22), t24, p24, e24, none⟩]⟩ false)
  .ret)))))
    (hs : sliceOf P T22 et 1 1 = true) (h22 : scal P T22 = true) (h4 : scal P T4 = true) (hF0 : fieldOf P T216 0 0 = true) (hF1 : fieldOf P T216 1 1 = true) (h3 : intOf P T3 .i64 = true) (h21 : intOf P T21 .i32 = true) (h61 : intOf P T61 .u32 = true) (hu : MethV P f287 (.int .u32) gUv) : MethV P f (.int .i32) gCALen := by
  refine ⟨enters_of hf hname hbody, ?_⟩
  intro w rb sb st h
  generalize hg : gCALen st = g
  refine calls_of_wp hf hbody ?_
  generalize ha0 : ({ tmps := #[Value.pointer (some ⟨rb, 0, none⟩)] ++ Array.replicate (fn.ntmps - #[Value.pointer (some ⟨rb, 0, none⟩)].size) undef, defers := [] } : Act) = a0
  have hsz : a0.tmps.size = 23 := by subst ha0; simp [hN]
  have hd0 : a0.defers = [] := by subst ha0; rfl
  have g0 : get a0 0 = .pointer (some ⟨rb, 0, none⟩) := by subst ha0; exact get_args rfl
  clear ha0
  refine then_id (wp_seq_k fun K1 hK1 => ?_)
  refine r_const (m := 2) (by omega) (by omega) fun a1 k1 _ => hK1 a1 w (then_up ?_)
  have hz1 := k1.size
  have g1 : get a1 0 = .pointer (some ⟨rb, 0, none⟩) := by rw [k1.get 0 (by omega), g0]
  refine then_id (wp_seq_k fun K2 hK2 => ?_)
  refine wp_reg ?_
  rw [wpl_cons, wp_move, eval_tmp, g1, wpl_cons]
  refine wp_calls (R := fun x w' => x = .int .u32 ((rdUv st).1 : Int) ∧ RW w' rb sb (rdUv st).2 ∧ Fr [⟨rb, 0, 2⟩] w w') hu.enters (vs := #[.pointer (some ⟨rb, 0, none⟩)]) (by simp only [List.map_toArray, List.map_cons, List.map_nil, eval_tmp]; rw [get_put_same (by omega)])
    ((hu.call w rb sb st h).mono (by rintro e' w' ⟨x, rfl, h1, h2, h3⟩; exact ⟨_, rfl, h1.u32, h2, h3⟩)) ?_
  rintro _ w1 ⟨rfl, hr1, f1⟩
  have hg : g = (if (((rdUv st).2.xs.length : Nat) : Int) < IntKind.i32.wrap (IntKind.i32.wrap ((rdUv st).1 : Int) - 1) then (V.n 0, RSt.fail) else (V.n (IntKind.i32.wrap (IntKind.i32.wrap ((rdUv st).1 : Int) - 1)), (rdUv st).2)) := by
    rw [← hg]
    unfold gCALen rdCArrayLen
    simp only []
    split <;> rfl
  generalize (rdUv st).1 = x at *
  generalize (rdUv st).2 = s at *
  have hzr := wrap_i32_range (IntKind.i32.wrap (x : Int) - 1)
  rw [wpl_cons]
  refine wp_convert (k1 := .u32) (i := (x : Int)) h61 h21 (by rw [eval_tmp, get_put_same (by simp only [size_put]; omega)]) ?_
  rw [wpl_cons]
  refine wp_sub (k1 := .i32) (i := IntKind.i32.wrap (x : Int)) (j := 1) (by rw [eval_tmp, get_put_same (by simp only [size_put]; omega)]) rfl ?_
  generalize IntKind.i32.wrap (IntKind.i32.wrap (x : Int) - 1) = z at *
  rw [wpl_cons, wp_assign, eval_tmp, get_put_same (by simp only [size_put]; omega), wpl_nil]
  generalize ha2 : ((((a1.put (some 4) (.pointer (some ⟨rb, 0, none⟩))).put (some 5) (.int .u32 (x : Int))).put (some 6) (.int .i32 (IntKind.i32.wrap (x : Int)))).put (some 7) (.int .i32 z)).put (some 3) (.int .i32 z) = a2
  have k2 : Kept 2 a1 a2 := by subst ha2; exact ((((Kept.put0 (by omega) _).put (by omega) _).put (by omega) _).put (by omega) _).put (by omega) _
  have q3 : get a2 3 = .int .i32 z := by subst ha2; exact get_put_same (by simp only [size_put]; omega)
  clear ha2
  have hz2 := k2.size
  have g2 : get a2 0 = .pointer (some ⟨rb, 0, none⟩) := by rw [k2.get 0 (by omega), g1]
  have hd2 : a2.defers = [] := by rw [k2.defers, k1.defers, hd0]
  refine hK2 a2 w1 (then_up ?_)
  obtain ⟨q, cap, c0, c1, fz0, fz1, hrb⟩ := hr1.slice
  have hgone := hr1.gone
  have hthere : w1.there rb 0 2 := hr1.2.1
  refine then_id (wp_seq_k fun K3 hK3 => ?_)
  refine wp_seq_k fun K4 hK4 => ?_
  refine wp_reg ?_
  rw [wpl_cons, wp_move, eval_tmp, g2, wpl_cons]
  refine wp_nilCheck (q := ⟨rb, 0, none⟩) (by rw [eval_tmp, get_put_same (by omega)]) ?_
  rw [wpl_cons]
  refine wp_fieldAddr (b := rb) (i := 0) hF0 (by rw [eval_tmp, get_put_same (by simp only [size_put]; omega)]) ?_
  rw [wpl_cons]
  refine wp_load h22 (b := rb) (o := 0) (v := .slice q s.xs.length cap) (by rw [eval_tmp, get_put_same (by simp only [size_put]; omega)]) c0 ?_
  rw [wpl_cons]
  refine wp_len hs (by rw [eval_tmp, get_put_same (by simp only [size_put]; omega)]) ?_
  rw [wpl_cons, wp_move, eval_tmp, get_put_ne (by omega), get_put_ne (by omega), get_put_ne (by omega), get_put_ne (by omega), get_put_ne (by omega), q3, wpl_cons]
  refine wp_convert (k1 := .i32) (i := z) h21 h3 (by rw [eval_tmp, get_put_same (by simp only [size_put]; omega)]) ?_
  rw [wrap64 (by omega), wpl_cons]
  refine wp_lss (k1 := .i64) (i := s.xs.length) (j := z) (by rw [eval_tmp, get_put_ne (by omega), get_put_ne (by omega), get_put_same (by simp only [size_put]; omega)]) (by rw [eval_tmp, get_put_same (by simp only [size_put]; omega)]) ?_
  rw [wpl_nil]
  generalize ha3 : (((((((a2.put (some 8) (.pointer (some ⟨rb, 0, none⟩))).put (some 9) (.pointer (some ⟨rb, 0, none⟩))).put (some 10) (.pointer (some ⟨rb, 0 + 0, none⟩))).put (some 11) (.slice q s.xs.length cap)).put (some 12) (.int .i64 s.xs.length)).put (some 13) (.int .i32 z)).put (some 14) (.int .i64 z)).put (some 15) (.bool (decide ((s.xs.length : Int) < z))) = a3
  have k3 : Kept 8 a2 a3 := by subst ha3; exact (((((((Kept.put0 (by omega) _).put (by omega) _).put (by omega) _).put (by omega) _).put (by omega) _).put (by omega) _).put (by omega) _).put (by omega) _
  have q15 : get a3 15 = .bool (decide ((s.xs.length : Int) < z)) := by subst ha3; exact get_put_same (by simp only [size_put]; omega)
  clear ha3
  have hz3 := k3.size
  have g3 : get a3 0 = .pointer (some ⟨rb, 0, none⟩) := by rw [k3.get 0 (by omega), g2]
  have r3 : get a3 3 = .int .i32 z := by rw [k3.get 3 (by omega), q3]
  have hd3 : a3.defers = [] := by rw [k3.defers, hd2]
  refine hK4 a3 w1 ?_
  refine wp_cond_split (t := decide ((s.xs.length : Int) < z)) (by rw [eval_tmp, q15]) (fun hz => ?_) fun hz => wp_skip (hK3 a3 w1 (then_up ?_))
  · have hz : (s.xs.length : Int) < z := by simpa using hz
    rw [if_pos hz] at hg
    subst hg
    refine wp_seq_k fun K5 hK5 => ?_
    refine wp_reg ?_
    rw [wpl_cons, wp_move, eval_tmp, g3, wpl_cons]
    refine wp_nilCheck (q := ⟨rb, 0, none⟩) (by rw [eval_tmp, get_put_same (by omega)]) ?_
    rw [wpl_cons]
    refine wp_fieldAddr (b := rb) (i := 0) hF1 (by rw [eval_tmp, get_put_same (by simp only [size_put]; omega)]) ?_
    rw [wpl_cons]
    refine wp_store h4 (b := rb) (o := 0 + 1) (v := .bool true) (by rw [eval_tmp, get_put_same (by simp only [size_put]; omega)]) rfl rfl (there_part hthere (by omega) (by omega)) ?_
    rw [put_none, wpl_nil]
    generalize ha4 : ((a3.put (some 16) (.pointer (some ⟨rb, 0, none⟩))).put (some 17) (.pointer (some ⟨rb, 0, none⟩))).put (some 18) (.pointer (some ⟨rb, 0 + 1, none⟩)) = a4
    have k4 : Kept 8 a3 a4 := by subst ha4; exact ((Kept.put0 (by omega) _).put (by omega) _).put (by omega) _
    clear ha4
    have hz4 := k4.size
    refine hK5 a4 _ ?_
    refine wp_seq_k fun K6 hK6 => ?_
    refine wp_reg ?_
    rw [wpl_cons, wp_move, eval_tmp, k4.get 0 (by omega), g3, wpl_cons]
    refine wp_nilCheck (q := ⟨rb, 0, none⟩) (by rw [eval_tmp, get_put_same (by omega)]) ?_
    rw [wpl_cons]
    refine wp_fieldAddr (b := rb) (i := 0) hF0 (by rw [eval_tmp, get_put_same (by simp only [size_put]; omega)]) ?_
    rw [wpl_cons]
    refine wp_store h22 (b := rb) (o := 0 + 0) (v := .slice none 0 0) (by rw [eval_tmp, get_put_same (by simp only [size_put]; omega)]) rfl rfl (there_part ((Fr.set w1 rb (0 + 1) (.bool true)).there hthere) (by omega) (by omega)) ?_
    rw [put_none, wpl_nil]
    generalize ha5 : ((a4.put (some 19) (.pointer (some ⟨rb, 0, none⟩))).put (some 20) (.pointer (some ⟨rb, 0, none⟩))).put (some 21) (.pointer (some ⟨rb, 0 + 0, none⟩)) = a5
    have k5 : Kept 8 a4 a5 := by subst ha5; exact ((Kept.put0 (by omega) _).put (by omega) _).put (by omega) _
    clear ha5
    have hz5 := k5.size
    refine hK6 a5 _ ?_
    refine wp_seq_k fun K7 hK7 => ?_
    refine r_const (m := 2) (by omega) (by omega) fun a6 k6 g6 => hK7 a6 _ ?_
    exact wp_ret ⟨by rw [k6.defers, k5.defers, k4.defers, hd3], _, results_one hres, _, rfl, by rw [g6]; exact ⟨0, rfl, rfl, by decide, by decide⟩, hgone.1, f1.tr hgone.2⟩
  · have hz : ¬ (s.xs.length : Int) < z := by simpa using hz
    rw [if_neg hz] at hg
    subst hg
    refine then_id (wp_seq_k fun K6 hK6 => ?_)
    refine wp_reg ?_
    rw [wpl_cons, wp_move, eval_tmp, r3, wpl_cons, wp_assign, eval_tmp, get_put_same (by omega), wpl_nil]
    refine hK6 _ _ (wp_ret ?_)
    refine ⟨by simp only [defers_put]; exact hd3, _, results_one hres, _, rfl, ?_, hr1, f1⟩
    rw [get_put_same (by simp only [size_put]; omega)]
    exact ⟨z, rfl, rfl, by show -2147483648 ≤ z; omega, by show z ≤ 2147483647; omega⟩

end Go.Kq

/- Sixteen octets: read, told. Written by mk_uuid.py. -/
namespace Go.Kq
open Go Go.Proofs

def uuid0 : List UInt8 := List.replicate 16 0
def gUuid (st : RSt) : V × RSt := (.s ((rdSpan 16 st).1.getD uuid0), (rdSpan 16 st).2)
theorem uuid_len (st : RSt) : ((rdSpan 16 st).1.getD uuid0).length = 16 ∧ ∀ y, (rdSpan 16 st).1 = some y → y.length = 16 := by
  unfold rdSpan
  split
  · simp [uuid0]
  · rename_i h
    split
    · simp [uuid0]
    · simp; omega
def zU : List Value := octets uuid0

/-- An array's type: what it is at nought. -/
def rowB (P : Program) (t : TypeId) (z : List Value) : Bool :=
  (match P.info? t with | some i => (i.size == z.length) && (match i.zero with | some (.agg c) => valsEq c.toList z | _ => false) | none => false) &&
  (match P.underlying t with | some (.array n e) => (n == z.length) && szIs P e 1 | _ => false)
structure RowT (P : Program) (t : TypeId) (z : List Value) : Prop where
  zero : zeroOf P t (.agg z.toArray)
  size : (P.info? t).map (·.size) = some z.length
  row : ∃ e i, P.underlying t = some (.array z.length e) ∧ P.info? e = some i ∧ i.size = 1
theorem rowB_is {P : Program} {t : TypeId} {z : List Value} (h : rowB P t z = true) : RowT P t z := by
  simp only [rowB, Bool.and_eq_true] at h
  obtain ⟨h1, h2⟩ := h
  have h3 : zeroOf P t (.agg z.toArray) ∧ (P.info? t).map (·.size) = some z.length := by
    cases hi : P.info? t with
    | none => simp [hi] at h1
    | some i =>
      simp only [hi, Bool.and_eq_true, beq_iff_eq] at h1
      cases hz : i.zero with
      | none => simp [hz] at h1
      | some v =>
        simp only [hz] at h1
        obtain ⟨h0, h1⟩ := h1
        cases v <;> simp only [] at h1 <;> first | (simp at h1; done) | skip
        rename_i c
        have := valsEq_eq h1
        refine ⟨⟨i, hi, ?_⟩, by simp [h0]⟩
        rw [hz, ← this]
  refine ⟨h3.1, h3.2, ?_⟩
  cases hu : P.underlying t with
  | none => simp [hu] at h2
  | some d =>
    cases d <;> simp only [hu] at h2 <;> first | (simp at h2; done) | skip
    rename_i n e
    simp only [Bool.and_eq_true, beq_iff_eq] at h2
    obtain ⟨i, h4, h5⟩ := szIs_eq h2.2
    exact ⟨e, i, by rw [h2.1], h4, h5⟩

section
variable {P : Program} {a : Act} {w : World} {K : Act → World → Prop} {Q : Exit → Act → World → Prop} {d : Option Tmp} {t : TypeId} {p : String} {af : Array Edge} {g : Option (Nat × Bool)}
theorem wp_loadRow {s : TypeId} {z : List Value} {x : Operand} {b o : Nat} {cs : List Value} (h : RowT P s z) (hl : cs.length = z.length) (hx : a.eval x = .pointer (some ⟨b, o, none⟩)) (hc : w.rangeAt b o cs)
    (k : K (a.put d (.agg cs.toArray)) w) : OW P ⟨d, .load s x, t, p, af, g⟩ a w K Q := by
  obtain ⟨_, hs, e, i, hu, _⟩ := h
  exact ⟨wp_load_mid s x rfl b o hx cs _ hc hu rfl (by rw [hs, hl]) k⟩
theorem wp_storeRow {s : TypeId} {z : List Value} {x y : Operand} {b o : Nat} {cs : List Value} (h : RowT P s z) (hl : cs.length = z.length) (hx : a.eval x = .pointer (some ⟨b, o, none⟩)) (hy : a.eval y = .agg cs.toArray)
    (h1 : ∀ u ∈ cs, u.oneCell' = true) (ht : w.there b o cs.length) (k : K (a.put d undef) (w.setCells b o cs)) : OW P ⟨d, .store s x y, t, p, af, g⟩ a w K Q := by
  constructor
  refine wp_store_mid s x y rfl b o cs.toArray hx hy (by simpa using ht) (by rw [h.size, ← hl]; simp) (by simpa using h1) ?_
  simpa using k
/-- 'a[:]' of an array. -/
theorem wp_sliceRow {s : TypeId} {z : List Value} {x : Operand} {b o : Nat} (h : RowT P s z) (hx : a.eval x = .pointer (some ⟨b, o, none⟩)) (hz : 0 < z.length)
    (k : K (a.put d (.slice (some ⟨b, o, none⟩) z.length z.length)) w) : OW P ⟨d, .slice s x none none none, t, p, af, g⟩ a w K Q := by
  obtain ⟨_, hs, e, i, hu, hi, hs1⟩ := h
  have hz0 : z.length ≠ 0 := by omega
  refine wp_val (v := .slice (some ⟨b, o, none⟩) z.length z.length) (w' := w) ?_ k
  simp [execOp, hx, Instr.sliceAt, Instr.sureAddr, Instr.sliceBounds, run_underlying hu, sizeOf, typeInfo, hi, hs1, hz0, add_addr]
end
theorem results_row {P : Program} {fn : Func} {t : Nat} {T : TypeId} {z : List Value} {a : Act} {w : World} {b o : Nat} {cs : List Value} (h : fn.results = #[.cell t T]) (hT : RowT P T z) (hl : cs.length = z.length) (ha : get a t = .pointer (some ⟨b, o, none⟩)) (hc : w.rangeAt b o cs) :
    (results fn a.tmps).run P w = .ok (.agg cs.toArray) w := by
  obtain ⟨_, hs, e, i, hu, _⟩ := hT
  have hr := run_loadVar_mid (P := P) w b o T cs _ hc hu rfl (by rw [hs, hl])
  have ha' : a.tmps[t]?.getD undef = .pointer (some ⟨b, o, none⟩) := by rw [← Array.getD_eq_getD_getElem?]; exact ha
  simp only [results, h]
  simp [ha', asAddr, hr]

theorem RW.kept2 {w w' : World} {rb sb : Nat} {st : RSt} {l : List Rng} (h : RW w rb sb st) (hf : Fr l w w') (hl : ∀ r ∈ l, r.b ≠ rb) (hs : st.xs ≠ [] → ∀ r ∈ l, r.b ≠ sb) : RW w' rb sb st := by
  obtain ⟨h1, h2, sv, h3, h4⟩ := h
  refine ⟨h1, hf.there h2, sv, hf.range h3 (fun r hr => .inl (hl r hr)), ?_⟩
  rcases h4 with h4 | ⟨h4, o, cap, h5, h6, h7⟩
  · exact .inl h4
  · refine .inr ⟨h4, o, cap, h5, h6, ?_⟩
    by_cases hx : st.xs = []
    · rw [hx]; intro j u hj; simp [octets] at hj
    · exact hf.range h7 (fun r hr => .inl (hs hx r hr))
structure UuidM (P : Program) (f : FuncId) : Prop where
  enters : Enters P f
  call : ∀ w rb sb st, RW w rb sb st → Calls P f #[.pointer (some ⟨rb, 0, none⟩)] w fun e w' => e = .returned (.agg (octets ((rdSpan 16 st).1.getD uuid0)).toArray) ∧ RW w' rb sb (gUuid st).2 ∧ Fr [⟨rb, 0, 2⟩] w w'

theorem octets_one (l : List UInt8) : ∀ u ∈ octets l, u.oneCell' = true := by intro u hu; simp [octets] at hu; obtain ⟨c, _, rfl⟩ := hu; rfl
set_option maxRecDepth 10000 in
theorem uuid_m {P : Program} {f : FuncId} {fn : Func} {et T22 T141 : TypeId} {f279 : FuncId} {a0 : Array TypeId} {i0 i1 i2 i3 : Nat}
    {t0 t1 t2 t3 t4 t5 t6 t7 : TypeId} {p0 p1 p2 p3 p4 p5 p6 p7 : String} {e0 e1 e2 e3 e4 e5 e6 e7 : Array Edge}
    (hf : P.funcs[f]? = some fn) (hname : (fn.name == "runtime.NumGoroutine") = false) (hres : fn.results = #[.cell 2 T141]) (hN : fn.ntmps = 9)
    (hbody : fn.body = some (.seq (Code.region i0 ⟨[⟨some 2, .alloc T141, t0, p0, e0, none⟩]⟩ false)
  (.seq (Code.region i1 ⟨[⟨some 3, .alloc T141, t1, p1, e1, none⟩]⟩ false)
  (.seq (Code.region i2 ⟨[⟨some 4, .slice T141 (.tmp 3) none none none, t2, p2, e2, none⟩,
    ⟨some 5, .move (.tmp 0), t3, p3, e3, none⟩,
    ⟨some 6, .call ⟨.value (.func f279), #[(.tmp 5), (.const (.int .i64 16))], a0⟩, t4, p4, e4, none⟩,
    ⟨some 7, .call ⟨.builtin .copy, #[(.tmp 4), (.tmp 6)], #[T22, T22]⟩, t5, p5, e5, none⟩]⟩ true)
  (.seq (Code.region i3 ⟨[⟨some 8, .load T141 (.tmp 3), t6, p6, e6, none⟩,
    ⟨none, .store T141 (.tmp 2) (.tmp 8), t7, p7, e7, none⟩]⟩ false)
  .ret)))))
    (he : edgeOk 0 [e2, e3, e4, e5] [[], [], [1], [0, 1, 2]] = true) (hm : P.follows .mixedOrders = true)
    (hT : RowT P T141 zU) (h22 : sliceOf P T22 et 1 1 = true) (hsp : SpanM P f279) : UuidM P f := by
  refine ⟨enters_of hf hname hbody, ?_⟩
  intro w rb sb st h
  have hul := uuid_len st
  have hrb : rb < w.heap.size := by obtain ⟨q, cap, c0, _⟩ := h.slice; exact lt_of_cell c0
  refine calls_of_wp hf hbody ?_
  generalize ha0 : ({ tmps := #[Value.pointer (some ⟨rb, 0, none⟩)] ++ Array.replicate (fn.ntmps - #[Value.pointer (some ⟨rb, 0, none⟩)].size) undef, defers := [] } : Act) = b0
  have hsz : b0.tmps.size = 9 := by subst ha0; simp [hN]
  have hd0 : b0.defers = [] := by subst ha0; rfl
  have g0 : get b0 0 = .pointer (some ⟨rb, 0, none⟩) := by subst ha0; exact get_args rfl
  clear ha0
  refine then_id (wp_seq_k fun K1 hK1 => ?_)
  refine wp_reg ?_
  rw [wpl_cons]
  refine wp_alloc hT.zero ?_
  rw [wpl_nil]
  have f1 := Fr.alloc [] w (.cells (Value.agg zU.toArray).cells T141)
  have th1 : (w.alloc (.cells (Value.agg zU.toArray).cells T141)).there w.heap.size 0 16 := there_new w zU.toArray T141
  have sz1 := size_alloc w (.cells (Value.agg zU.toArray).cells T141)
  generalize w.alloc (.cells (Value.agg zU.toArray).cells T141) = w1 at f1 th1 sz1 ⊢
  have k1 : Kept 2 b0 (b0.put (some 2) (.pointer (some ⟨w.heap.size, 0, none⟩))) := Kept.put0 (by omega) _
  have q2 : get (b0.put (some 2) (.pointer (some ⟨w.heap.size, 0, none⟩))) 2 = .pointer (some ⟨w.heap.size, 0, none⟩) := get_put_same (by omega)
  generalize b0.put (some 2) (.pointer (some ⟨w.heap.size, 0, none⟩)) = b1 at k1 q2 ⊢
  have hz1 := k1.size
  refine hK1 b1 w1 (then_up ?_)
  refine then_id (wp_seq_k fun K2 hK2 => ?_)
  refine wp_reg ?_
  rw [wpl_cons]
  refine wp_alloc hT.zero ?_
  rw [wpl_nil]
  have f2 := Fr.alloc [] w1 (.cells (Value.agg zU.toArray).cells T141)
  have th2 : (w1.alloc (.cells (Value.agg zU.toArray).cells T141)).there w1.heap.size 0 16 := there_new w1 zU.toArray T141
  have rg2 : (w1.alloc (.cells (Value.agg zU.toArray).cells T141)).rangeAt w1.heap.size 0 zU := range_new w1 zU.toArray T141 (0, 0)
  have sz2 := size_alloc w1 (.cells (Value.agg zU.toArray).cells T141)
  generalize w1.alloc (.cells (Value.agg zU.toArray).cells T141) = w2 at f2 th2 rg2 sz2 ⊢
  have k2 : Kept 3 b1 (b1.put (some 3) (.pointer (some ⟨w1.heap.size, 0, none⟩))) := Kept.put0 (by omega) _
  have q3 : get (b1.put (some 3) (.pointer (some ⟨w1.heap.size, 0, none⟩))) 3 = .pointer (some ⟨w1.heap.size, 0, none⟩) := get_put_same (by omega)
  generalize b1.put (some 3) (.pointer (some ⟨w1.heap.size, 0, none⟩)) = b2 at k2 q3 ⊢
  have hz2 := k2.size
  have g02 : get b2 0 = .pointer (some ⟨rb, 0, none⟩) := by rw [k2.get 0 (by omega), k1.get 0 (by omega), g0]
  have g22 : get b2 2 = .pointer (some ⟨w.heap.size, 0, none⟩) := by rw [k2.get 2 (by omega), q2]
  have hd2 : b2.defers = [] := by rw [k2.defers, k1.defers, hd0]
  have f02 : Fr [] w w2 := f1.tr f2
  have h2 : RW w2 rb sb st := h.kept f02 (by simp)
  refine hK2 b2 w2 (then_up ?_)
  refine then_id (wp_seq_k fun K3 hK3 => ?_)
  refine wp_drawE (os := [⟨some 4, .slice T141 (.tmp 3) none none none, t2, p2, e2, none⟩, ⟨some 5, .move (.tmp 0), t3, p3, e3, none⟩, ⟨some 6, .call ⟨.value (.func f279), #[(.tmp 5), (.const (.int .i64 16))], a0⟩, t4, p4, e4, none⟩])
    [spC [] (.slice (some ⟨w1.heap.size, 0, none⟩) 16 16), spC [] (.pointer (some ⟨rb, 0, none⟩)), spW [1] (fun v w' => Octs w' (· = sb) v (rdSpan 16 st).1 ∧ RW w' rb sb (rdSpan 16 st).2)] 4 [⟨rb, 0, 2⟩] hm he (by simp [shape]) rfl (by simp [spC, spW]) (by simp; omega)
    ⟨lasts_c _ _ _, lasts_c _ _ _, ?_, trivial⟩ ?_ ?_
  · rintro v w1 w2 hf12 ⟨h1, h2⟩
    have hf12 : Fr [] w1 w2 := hf12
    exact ⟨h1.kept hf12 (by simp) (fun _ h => h), h2.kept hf12 (by simp)⟩
  · refine ⟨op_c fun a' w' hk' hf' hd' K' hK' => ?_, op_c fun a' w' hk' hf' hd' K' hK' => ?_, op_w0 fun a' w' hk' hf' hd' K' hK' => ?_, trivial⟩
    · exact wp_sliceRow hT (by rw [eval_tmp, hk'.get 3 (by omega), q3]) (by simp [zU, uuid0, octets]) hK'
    · rw [wp_move, eval_tmp, hk'.get 0 (by omega), g02]; exact hK'
    · have h1 : get a' 5 = .pointer (some ⟨rb, 0, none⟩) := hd'.c (nd' := []) 1 (by simp) rfl
      refine wp_calls (R := fun v w2 => (Octs w2 (· = sb) v (rdSpan 16 st).1 ∧ RW w2 rb sb (rdSpan 16 st).2) ∧ Fr [⟨rb, 0, 2⟩] w' w2) hsp.enters (vs := #[.pointer (some ⟨rb, 0, none⟩), .int .i64 16]) (by simp only [List.map_toArray, List.map_cons, List.map_nil, eval_tmp, eval_const]; rw [h1])
        ((hsp.call w' rb sb st 16 (h2.kept hf' (by simp))).mono (by rintro e' w' ⟨x, rfl, h1, h2, h3⟩; exact ⟨_, rfl, ⟨h1, h2⟩, h3⟩)) (fun x' w2 h => hK' x' w2 h.1 h.2)
  · intro b3 w3 hk3 hf3 hd3
    obtain ⟨ho3, hr3⟩ : Octs w3 (· = sb) (get b3 6) (rdSpan 16 st).1 ∧ RW w3 rb sb (rdSpan 16 st).2 := hd3.at (d := 2) (by simp) rfl
    have hs4 : get b3 4 = .slice (some ⟨w1.heap.size, 0, none⟩) 16 16 := hd3.c (nd' := []) 0 (by simp) rfl
    have hz3 := hk3.size
    have sz3 := hf3.size
    have hne : ∀ r ∈ [(⟨rb, 0, 2⟩ : Rng)], r.b ≠ w1.heap.size := by intro r hr; simp at hr; subst hr; simp only; have := f1.size; omega
    have th3 : w3.there w1.heap.size 0 16 := hf3.there th2
    have rg3 : w3.rangeAt w1.heap.size 0 zU := hf3.range rg2 (fun r hr => .inl (hne r hr))
    have f03 : Fr [⟨rb, 0, 2⟩] w w3 := f02.nil.tr hf3
    -- what the copy does
    have hcopy : ∀ (K' : Act → World → Prop) (Q' : Exit → Act → World → Prop), (∀ w4, Fr [⟨w1.heap.size, 0, 16⟩] w3 w4 → w4.rangeAt w1.heap.size 0 (octets ((rdSpan 16 st).1.getD uuid0)) → ∀ v, K' (b3.put (some 7) v) w4) → OW P ⟨some 7, .call ⟨.builtin .copy, #[(.tmp 4), (.tmp 6)], #[T22, T22]⟩, t5, p5, e5, none⟩ b3 w3 K' Q' := by
      intro K' Q' hK'
      obtain ⟨hu, i, z0, hi, hs, hby, hzz, hsz0⟩ := under_slice h22
      have hs1 : (P.info? et).map (·.size) = some 1 := by simp [hi, hs]
      rcases ho3 with ⟨hv, hn⟩ | ⟨b, o, cap, l, rfl, hv, hc, hr, hl⟩
      · rw [hn] at hK'
        have hr := run_copy_none (P := P) w3 T22 T22 t5 et (some ⟨w1.heap.size, 0, none⟩) none 16 16 0 0 hu hs1 rfl
        refine wp_val (v := goInt 0) (w' := w3) ?_ (hK' w3 (Fr.refl _ _) rg3 _)
        simp only [execOp, resolve, invoke, builtin, eval_tmp, List.map_toArray, List.map_cons, List.map_nil, hs4, hv, hr, Sem.run_bind, Result.andThen_ok, Sem.run_pure]
      · have hl16 := hul.2 l hl
        rw [hl] at hK'
        have hol : (octets l).length = 16 := by rw [length_octets, hl16]
        have hr' := run_copy_cells (P := P) w3 T22 T22 t5 et w1.heap.size 0 16 16 ⟨b, o, none⟩ l.length cap (octets l) hu hs1 (by rw [hol, hl16]; rfl) (fun j v hj => by rw [Addr.add_mid]; exact hr j v hj)
          (fun j hj => by have := (th3 j (by omega)).1; exact this) (fun j hj => (th3 j (by omega)).2) (octets_one l)
        have fs := Fr.sets w1.heap.size (octets l) w3 0
        have rs := World.rangeAt_setCells_same w3 w1.heap.size 0 (octets l) (by rw [hol]; exact th3)
        rw [hol] at fs
        refine wp_val (v := goInt (octets l).length) (w' := w3.setCells w1.heap.size 0 (octets l)) ?_ (hK' _ fs rs _)
        simp only [execOp, resolve, invoke, builtin, eval_tmp, List.map_toArray, List.map_cons, List.map_nil, hs4, hv, hr', Sem.run_bind, Result.andThen_ok, Sem.run_pure]
    refine hcopy _ _ fun w4 f4 rg4 v => ?_
    have k4 : Kept 4 b2 (b3.put (some 7) v) := hk3.put (by omega) _
    generalize b3.put (some 7) v = b4 at k4 ⊢
    have hz4 := k4.size
    have sz4 := f4.size
    refine hK3 b4 w4 (then_up ?_)
    have ho16 : (octets ((rdSpan 16 st).1.getD uuid0)).length = 16 := by rw [length_octets, hul.1]
    generalize hoc : octets ((rdSpan 16 st).1.getD uuid0) = oc at *
    have hoc1 : ∀ u ∈ oc, u.oneCell' = true := by rw [← hoc]; exact octets_one _
    refine then_id (wp_seq_k fun K5 hK5 => ?_)
    refine wp_reg ?_
    rw [wpl_cons]
    refine wp_loadRow hT (cs := oc) (b := w1.heap.size) (o := 0) (by rw [ho16]; rfl) (by rw [eval_tmp, k4.get 3 (by omega), q3]) rg4 ?_
    rw [wpl_cons]
    have hne1 : ∀ r ∈ [(⟨w1.heap.size, 0, 16⟩ : Rng)], r.b ≠ w.heap.size := by intro r hr; simp at hr; subst hr; simp only; omega
    have th4 : w4.there w.heap.size 0 16 := f4.there (hf3.there (f2.there th1))
    refine wp_storeRow hT (cs := oc) (b := w.heap.size) (o := 0) (by rw [ho16]; rfl) (by rw [eval_tmp, get_put_ne (by omega), k4.get 2 (by omega), g22]) (by rw [eval_tmp, get_put_same (by omega)]) hoc1 (by rw [ho16]; exact th4) ?_
    rw [put_none, wpl_nil]
    have f5 := Fr.sets w.heap.size oc w4 0
    have rg5 := World.rangeAt_setCells_same w4 w.heap.size 0 oc (by rw [ho16]; exact th4)
    generalize w4.setCells w.heap.size 0 oc = w5 at f5 rg5 ⊢
    refine hK5 _ w5 (wp_ret ?_)
    have f35 : Fr [] w w5 ∨ True := .inr trivial
    have hf45 : Fr [⟨w1.heap.size, 0, 16⟩, ⟨w.heap.size, 0, 0 + oc.length⟩] w3 w5 := by
      refine (f4.mono (l' := [⟨w1.heap.size, 0, 16⟩, ⟨w.heap.size, 0, 0 + oc.length⟩]) ?_).trans f5 ?_
      · intro r hr; simp at hr; subst hr; exact Rng.in_self (by simp)
      · intro r hr; simp at hr; subst hr; exact .inr ⟨⟨w.heap.size, 0, 0 + oc.length⟩, by simp, rfl, by simp, by simp⟩
    refine ⟨by simp only [defers_put]; rw [k4.defers, hd2], _, results_row hres hT (by rw [ho16]; rfl) (by rw [get_put_ne (by omega), k4.get 2 (by omega), g22]) rg5, rfl, ?_, ?_⟩
    · have hw3 : w3.heap.size ≤ w5.heap.size := hf45.size
      have hsbw : (rdSpan 16 st).2.xs ≠ [] → sb < w.heap.size := fun hx => by
        have hne : st.xs ≠ [] := by
          intro e; apply hx
          unfold rdSpan; rw [e]; simp [RSt.fail]
        obtain ⟨_, _, _, _, _, _, _, hs, _⟩ := h.some hne
        exact hs
      exact RW.kept2 hr3 hf45 (by intro r hr; simp at hr; rcases hr with rfl | rfl <;> simp only <;> omega) (by
        intro hx r hr; have := hsbw hx; simp at hr; rcases hr with rfl | rfl <;> simp only <;> omega)
    · refine f03.trans hf45 ?_
      intro r hr; simp at hr
      rcases hr with rfl | rfl
      · exact .inl (by simp only; omega)
      · exact .inl (Nat.le_refl _)

/-- 'v := b.Uuid(); s.F = v' -/
theorem fld_uuid {P : Program} {ge : Nat} {cx : Cx} {m id id2 n n1 v o : Nat} {f : FuncId} {S T k : Nat} {dv : V} {ats : Array TypeId} {t1 t2 t3 t4 t5 t6 t7 t8 : TypeId} {p1 p2 p3 p4 p5 p6 p7 p8 : String} {e1 e2 e3 e4 e5 e6 e7 e8 : Array Edge}
    (hf : UuidM P f) (hT : RowT P T zU) (hF : fieldOf P S k o = true)
    (hb : (decide (n < cx.N) && decide (v < n) && decide (m ≤ v) && decide (v < n1) && decide (n1 + 3 < cx.N) && cx.below m) = true) :
    Fld P ge cx m (Code.seq (Code.region id ⟨[⟨some n, .call ⟨.value (.func f), #[.tmp cx.tb], ats⟩, t1, p1, e1, none⟩, ⟨some v, .alloc T, t2, p2, e2, none⟩, ⟨none, .store T (.tmp v) (.tmp n), t3, p3, e3, none⟩]⟩ false)
      (Code.region id2 ⟨[⟨some n1, .move (.tmp cx.ts), t4, p4, e4, none⟩, ⟨some (n1 + 1), .load T (.tmp v), t5, p5, e5, none⟩, ⟨some (n1 + 2), .nilCheck (.tmp n1), t6, p6, e6, none⟩,
        ⟨some (n1 + 3), .fieldAddr S (.tmp (n1 + 2)) k, t7, p7, e7, none⟩, ⟨none, .store T (.tmp (n1 + 3)) (.tmp (n1 + 1)), t8, p8, e8, none⟩]⟩ false)) o .uuid dv (rdOne fun _ _ => gUuid) := by
  intro e pb po K Q a w st hs hm ht hz hk hq
  simp only [Bool.and_eq_true, decide_eq_true_eq] at hb
  obtain ⟨⟨⟨⟨⟨b1, b2⟩, b3⟩, b4⟩, b5⟩, b6⟩ := hb
  have hsz := hs.size
  have hul := uuid_len st
  have hgu : gUuid st = (.s ((rdSpan 16 st).1.getD uuid0), (gUuid st).2) := rfl
  have hpw : pb < w.heap.size := there_lt ht (by simp [Ty.size])
  refine wp_seq_k fun K1 hK1 => ?_
  refine wp_reg ?_
  rw [wpl_cons]
  refine wp_calls (R := fun x w' => x = .agg (octets ((rdSpan 16 st).1.getD uuid0)).toArray ∧ RW w' e.rb e.sb (gUuid st).2 ∧ Fr [⟨e.rb, 0, 2⟩] w w') hf.enters (vs := #[.pointer (some ⟨e.rb, 0, none⟩)])
    (by simp only [List.map_toArray, List.map_cons, List.map_nil, eval_tmp]; rw [hs.b])
    ((hf.call w e.rb e.sb st hm.rw).mono (by rintro e' w' ⟨rfl, h⟩; exact ⟨_, rfl, rfl, h⟩)) ?_
  rintro x w1 ⟨rfl, hrw, f1⟩
  generalize hl : (rdSpan 16 st).1.getD uuid0 = l at *
  have hl16 : l.length = 16 := hul.1
  have ho16 : (octets l).length = 16 := by rw [length_octets, hl16]
  have szw1 := f1.size
  rw [wpl_cons]
  refine wp_alloc hT.zero ?_
  rw [wpl_cons]
  have fa := Fr.alloc [] w1 (.cells (Value.agg zU.toArray).cells T)
  have tha : (w1.alloc (.cells (Value.agg zU.toArray).cells T)).there w1.heap.size 0 16 := there_new w1 zU.toArray T
  have sza := size_alloc w1 (.cells (Value.agg zU.toArray).cells T)
  generalize w1.alloc (.cells (Value.agg zU.toArray).cells T) = w2 at fa tha sza ⊢
  refine wp_storeRow hT (cs := octets l) (b := w1.heap.size) (o := 0) (by rw [ho16]; rfl) (by rw [eval_tmp, get_put_same (by simp only [size_put]; omega)]) (by rw [eval_tmp, get_put_ne (by omega), get_put_same (by omega)]) (octets_one l) (by rw [ho16]; exact tha) ?_
  rw [put_none, wpl_nil]
  have fs := Fr.sets w1.heap.size (octets l) w2 0
  have rs := World.rangeAt_setCells_same w2 w1.heap.size 0 (octets l) (by rw [ho16]; exact tha)
  generalize w2.setCells w1.heap.size 0 (octets l) = w3 at fs rs ⊢
  have f13 : Fr [] w1 w3 := fa.trans fs (by intro r hr; simp at hr; subst hr; exact .inl (Nat.le_refl _))
  have sz13 := f13.size
  have k1 : Kept m a ((a.put (some n) (.agg (octets l).toArray)).put (some v) (.pointer (some ⟨w1.heap.size, 0, none⟩))) := (Kept.put0 (by omega) _).put b3 _
  have gv : get ((a.put (some n) (.agg (octets l).toArray)).put (some v) (.pointer (some ⟨w1.heap.size, 0, none⟩))) v = .pointer (some ⟨w1.heap.size, 0, none⟩) := get_put_same (by simp only [size_put]; omega)
  generalize ((a.put (some n) (.agg (octets l).toArray)).put (some v) (.pointer (some ⟨w1.heap.size, 0, none⟩))) = a1 at k1 gv ⊢
  have hs1 := hs.kept b6 k1
  have hz1 := hs1.size
  refine hK1 a1 w3 ?_
  refine wp_reg ?_
  rw [wpl_cons, wp_move, eval_tmp, hs1.s, wpl_cons]
  refine wp_loadRow hT (cs := octets l) (b := w1.heap.size) (o := 0) (by rw [ho16]; rfl) (by rw [eval_tmp, get_put_ne (by omega), gv]) rs ?_
  rw [wpl_cons]
  refine wp_nilCheck (q := ⟨pb, po, none⟩) (by rw [eval_tmp, get_put_ne (by omega), get_put_same (by omega)]) ?_
  rw [wpl_cons]
  refine wp_fieldAddr (b := pb) (i := po) hF (by rw [eval_tmp, get_put_same (by simp only [size_put]; omega)]) ?_
  rw [wpl_cons]
  have ht3 : w3.there pb (po + o) 16 := f13.there (f1.there ht)
  refine wp_storeRow hT (cs := octets l) (b := pb) (o := po + o) (by rw [ho16]; rfl) (by rw [eval_tmp, get_put_same (by simp only [size_put]; omega)]) (by rw [eval_tmp, get_put_ne (by omega), get_put_ne (by omega), get_put_same (by simp only [size_put]; omega)]) (octets_one l) (by rw [ho16]; exact ht3) ?_
  rw [put_none, wpl_nil]
  have f4 := Fr.sets pb (octets l) w3 (po + o)
  have r4 := World.rangeAt_setCells_same w3 pb (po + o) (octets l) (by rw [ho16]; exact ht3)
  generalize w3.setCells pb (po + o) (octets l) = w4 at f4 r4 ⊢
  rw [ho16] at f4
  have hrw3 : RW w3 e.rb e.sb (gUuid st).2 := hrw.kept f13 (by simp)
  refine hk _ w4 (.s l) (gUuid st).2 (by simp only [rdOne]; rw [hgu]) (k1.trans ((((Kept.put0 (by omega) _).put (by omega) _).put (by omega) _).put (by omega) _)) (hrw3.kept f4 (by intro r hr; simp at hr; subst hr; exact ⟨hm.pr, hm.ps⟩)) ?_ ⟨octets l, r4, l, hl16, rfl, rfl⟩
  refine ((f1.mono (l' := [⟨e.rb, 0, 2⟩, ⟨pb, po + o, po + o + Ty.uuid.size⟩]) ?_).tr f13.nil).trans f4 ?_
  · intro r hr; simp at hr; subst hr; exact .inr ⟨_, by simp, rfl, by simp, by simp⟩
  · intro r hr; simp at hr; subst hr; exact .inr ⟨⟨pb, po + o, po + o + Ty.uuid.size⟩, by simp, rfl, by simp, by simp [Ty.size]⟩

def tUuid : V → T
  | .s l => .mk 0 l false [] []
  | _ => .zero
variable {P : Program} {TT TL S Tf Ti et : TypeId} {N sv st m n k o kf id : Nat}
/-- 't.L[k] = Tree{S: append([]byte(nil), v.F[:]...)}' -/
theorem tl_uuid (hT : TreeTys P TT TL)
    {t0 t1 t2 t3 t4 t5 t6 t7 t8 t9 : TypeId} {p0 p1 p2 p3 p4 p5 p6 p7 p8 p9 : String} {e0 e1 e2 e3 e4 e5 e6 e7 e8 e9 : Array Edge}
    (he : edgeOk 0 [e0, e1, e2, e3, e4, e5, e6, e7, e8, e9] [[], [0], [], [2], [3], [4], [5], [6], [1], [0, 1, 2, 3, 4, 5, 6, 7, 8]] = true)
    (hS : fieldOf P S kf o = true) (hf : RowT P Tf zU) (h2 : sliceOf P Ti et 1 1 = true) (hz2 : zeroIs P et [.int .u8 0])
    (hb : (decide (sv < n) && decide (st < n) && decide (m ≤ n) && decide (n + 3 + 6 ≤ N)) = true) :
    Tl P N sv st m (Code.region id ⟨[⟨some n, .fieldAddr TT (.tmp st) 3, t0, p0, e0, none⟩, ⟨some (n + 1), .load TL (.tmp n), t1, p1, e1, none⟩, ⟨some (n + 2), .move (.tmp sv), t2, p2, e2, none⟩, ⟨some (n + 3), .nilCheck (.tmp (n + 2)), t3, p3, e3, none⟩,
      ⟨some (n + 4), .fieldAddr S (.tmp (n + 3)) kf, t4, p4, e4, none⟩, ⟨some (n + 5), .slice Tf (.tmp (n + 4)) none none none, t5, p5, e5, none⟩, ⟨some (n + 6), .call ⟨.builtin .append, #[(.const (.slice none 0 0)), (.tmp (n + 5))], #[Ti, Ti]⟩, t6, p6, e6, none⟩, ⟨some (n + 7), .build TT #[(1, .tmp (n + 6))], t7, p7, e7, none⟩,
      ⟨some (n + 8), .indexAddr TL (.tmp (n + 1)) (.const (.int .i64 k)), t8, p8, e8, none⟩, ⟨none, .store TT (.tmp (n + 8)) (.tmp (n + 7)), t9, p9, e9, none⟩]⟩ true) k o .uuid tUuid := by
  refine tl_draw (mid := [⟨some (n + 5), .slice Tf (.tmp (n + 4)) none none none, t5, p5, e5, none⟩, ⟨some (n + 6), .call ⟨.builtin .append, #[(.const (.slice none 0 0)), (.tmp (n + 5))], #[Ti, Ti]⟩, t6, p6, e6, none⟩, ⟨some (n + 7), .build TT #[(1, .tmp (n + 6))], t7, p7, e7, none⟩]) hT [[4], [5], [6]] he rfl rfl rfl rfl (by simp) (by simp [shape]) rfl hS hb ?_
  intro e Q a w x hN hx hs0
  obtain ⟨c, hc, l, hl16, rfl, rfl⟩ := hx
  have hoc : OctE w (· = e.pb) (.slice (some ⟨e.pb, e.po + o, none⟩) 16 16) l := ⟨some l, .inr ⟨e.pb, e.po + o, 16, l, rfl, by rw [hl16], ⟨by omega, by omega⟩, hc, rfl⟩, rfl⟩
  refine ⟨[spC [4] (.slice (some ⟨e.pb, e.po + o, none⟩) 16 16), spR [5] (fun v w => OctE w (e.A w) v l), spR [6] (fun v w => ∃ cs : List Value, v = .agg cs.toArray ∧ RepT w (e.A w) cs (.mk 0 l false [] []))], rfl, rfl,
    ⟨lasts_c _ _ _, lasts_r lasts_oct, lasts_r fun v w w' hf h => ?_, trivial⟩, fun tl => ?_, _, rfl, fun v w' hv _ => hv⟩
  · obtain ⟨cs, h3, h4⟩ := h
    exact ⟨cs, h3, h4.kept hf (by simp) (TEnv.A_mono hf.size)⟩
  refine ⟨op_c fun a' w' hk' hf' hd' K' hK' => ?_, op_r fun a' w' hk' hf' hd' K' hK' => ?_, op_r fun a' w' hk' hf' hd' K' hK' => ?_, trivial⟩
  · exact wp_sliceRow hf (by rw [eval_tmp]; exact hd'.c 4 (by simp) rfl) (by simp [zU, uuid0, octets]) hK'
  · refine wp_copySrc h2 hz2 (xs := l) (A := (· = e.pb)) (by rw [eval_tmp]; exact hd'.c 5 (by simp) rfl) (hoc.kept hf' (by simp) (fun _ h => h)) (by omega) fun y w2 sb hf2 hsb hlt hsrc => hK' y w2 ?_ hf2
    rcases hsrc with ⟨h1, h2, rfl⟩ | ⟨h1, o', cap, rfl, hc', hr⟩
    · show OctE w2 _ _ _
      rw [h2]; exact OctE.nil
    · have hne : l ≠ [] := by simpa using h1
      exact ⟨some l, .inr ⟨sb, o', cap, l, ⟨Nat.le_trans (Nat.le_trans hs0 hf'.size) hsb, hlt hne⟩, rfl, hc', hr, rfl⟩, rfl⟩
  · have ho := hd'.at (d := 6) (by simp) rfl
    exact wp_build1 hT.flat (by decide) (by rw [eval_tmp]) ho.one (hK' _ _ ⟨_, rfl, repT_str ho⟩ (Fr.refl _ _))
end Go.Kq

/- The reader's methods that read one octet. Written by mk_rd1.py. -/
namespace Go.Kq
open Go Go.Proofs

def gBool (st : RSt) : V × RSt := match st.xs with
  | [] => (.n 0, .fail)
  | c :: r => (.n (if c.toNat != 0 then 1 else 0), { st with xs := r })
def gI8 (st : RSt) : V × RSt := match st.xs with
  | [] => (.n 0, .fail)
  | c :: r => (.n (IntKind.i8.wrap (c.toNat : Int)), { st with xs := r })

set_option maxRecDepth 10000 in
theorem rdbool_m {P : Program} {f : FuncId} {fn : Func} {et : TypeId}
    {T3 T4 T5 T22 T216 : TypeId}
    {i0 i1 i2 i3 i4 i5 i6 i7 : Nat}
    {t0 t1 t2 t3 t4 t5 t6 t7 t8 t9 t10 t11 t12 t13 t14 t15 t16 t17 t18 t19 t20 t21 t22 t23 t24 t25 t26 t27 t28 t29 t30 t31 t32 t33 t34 : TypeId} {p0 p1 p2 p3 p4 p5 p6 p7 p8 p9 p10 p11 p12 p13 p14 p15 p16 p17 p18 p19 p20 p21 p22 p23 p24 p25 p26 p27 p28 p29 p30 p31 p32 p33 p34 : String} {e0 e1 e2 e3 e4 e5 e6 e7 e8 e9 e10 e11 e12 e13 e14 e15 e16 e17 e18 e19 e20 e21 e22 e23 e24 e25 e26 e27 e28 e29 e30 e31 e32 e33 e34 : Array Edge}
    (hf : P.funcs[f]? = some fn) (hname : (fn.name == "runtime.NumGoroutine") = false) (hres : fn.results = #[.tmp 2]) (hN : fn.ntmps = 32)
    (hbody : fn.body = some (.seq (Code.region i0 ⟨[⟨some 2, .assign (.const (.bool false)), t0, p0, e0, none⟩]⟩ false)
  (.seq (.seq (Code.region i1 ⟨[⟨some 4, .move (.tmp 0), t1, p1, e1, none⟩,
    ⟨some 5, .nilCheck (.tmp 4), t2, p2, e2, none⟩,
    ⟨some 6, .fieldAddr T216 (.tmp 5) 0, t3, p3, e3, none⟩,
    ⟨some 7, .load T22 (.tmp 6), t4, p4, e4, none⟩,
    ⟨some 8, .call ⟨.builtin .len, #[(.tmp 7)], #[T22]⟩, t5, p5, e5, none⟩,
    ⟨some 9, .binOp .lss T3 (.tmp 8) (.const (.int .i64 1)) T3, t6, p6, e6, none⟩]⟩ false)
  (.cond (.tmp 9) (.seq (Code.region i2 ⟨[⟨some 10, .move (.tmp 0), t7, p7, e7, none⟩,
    ⟨some 11, .nilCheck (.tmp 10), t8, p8, e8, none⟩,
    ⟨some 12, .fieldAddr T216 (.tmp 11) 1, t9, p9, e9, none⟩,
    ⟨none, .store T4 (.tmp 12) (.const (.bool true)), t10, p10, e10, none⟩]⟩ false)
  (.seq (Code.region i3 ⟨[⟨some 13, .move (.tmp 0), t11, p11, e11, none⟩,
    ⟨some 14, .nilCheck (.tmp 13), t12, p12, e12, none⟩,
    ⟨some 15, .fieldAddr T216 (.tmp 14) 0, t13, p13, e13, none⟩,
    ⟨none, .store T22 (.tmp 15) (.const (.slice none 0 0)), t14, p14, e14, none⟩]⟩ false)
  (.seq (Code.region i4 ⟨[⟨some 2, .assign (.const (.bool false)), t15, p15, e15, none⟩]⟩ false)
  .ret)))
  .skip))
  (.seq (Code.region i5 ⟨[⟨some 16, .move (.tmp 0), t16, p16, e16, none⟩,
    ⟨some 17, .nilCheck (.tmp 16), t17, p17, e17, none⟩,
    ⟨some 18, .fieldAddr T216 (.tmp 17) 0, t18, p18, e18, none⟩,
    ⟨some 19, .load T22 (.tmp 18), t19, p19, e19, none⟩,
    ⟨some 20, .indexAddr T22 (.tmp 19) (.const (.int .i64 0)), t20, p20, e20, none⟩,
    ⟨some 21, .load T5 (.tmp 20), t21, p21, e21, none⟩,
    ⟨some 22, .binOp .neq T5 (.tmp 21) (.const (.int .u8 0)) T5, t22, p22, e22, none⟩,
    ⟨some 3, .assign (.tmp 22), t23, p23, e23, none⟩]⟩ false)
  (.seq (Code.region i6 ⟨[⟨some 23, .move (.tmp 0), t24, p24, e24, none⟩,
    ⟨some 24, .move (.tmp 0), t25, p25, e25, none⟩,
    ⟨some 25, .nilCheck (.tmp 24), t26, p26, e26, none⟩,
    ⟨some 26, .fieldAddr T216 (.tmp 25) 0, t27, p27, e27, none⟩,
    ⟨some 27, .load T22 (.tmp 26), t28, p28, e28, none⟩,
    ⟨some 28, .slice T22 (.tmp 27) (some (.const (.int .i64 1))) none none, t29, p29, e29, none⟩,
    ⟨some 29, .nilCheck (.tmp 23), t30, p30, e30, none⟩,
    ⟨some 30, .fieldAddr T216 (.tmp 29) 0, t31, p31, e31, none⟩,
    ⟨none, .store T22 (.tmp 30) (.tmp 28), t32, p32, e32, none⟩]⟩ false)
  (.seq (Code.region i7 ⟨[⟨some 31, .move (.tmp 3), t33, p33, e33, none⟩,
    ⟨some 2, .assign (.tmp 31), t34, p34, e34, none⟩]⟩ false)
  .ret))))))
    (hs : sliceOf P T22 et 1 1 = true) (h22 : scal P T22 = true) (h4 : scal P T4 = true) (h5 : scal P T5 = true) (hF0 : fieldOf P T216 0 0 = true) (hF1 : fieldOf P T216 1 1 = true) : MethV P f (.bool) gBool := by
  refine ⟨enters_of hf hname hbody, ?_⟩
  intro w rb sb st h
  generalize hg : gBool st = g
  have hgone := h.gone
  have hthere : w.there rb 0 2 := h.2.1
  obtain ⟨q, cap, c0, c1, fz0, fz1, hrb⟩ := h.slice
  refine calls_of_wp hf hbody ?_
  generalize ha0 : ({ tmps := #[Value.pointer (some ⟨rb, 0, none⟩)] ++ Array.replicate (fn.ntmps - #[Value.pointer (some ⟨rb, 0, none⟩)].size) undef, defers := [] } : Act) = a0
  have hsz : a0.tmps.size = 32 := by subst ha0; simp [hN]
  have hd0 : a0.defers = [] := by subst ha0; rfl
  have g0 : get a0 0 = .pointer (some ⟨rb, 0, none⟩) := by subst ha0; exact get_args rfl
  clear ha0
  refine then_id (wp_seq_k fun K1 hK1 => ?_)
  refine r_const (m := 2) (by omega) (by omega) fun a1 k1 _ => hK1 a1 w (then_up ?_)
  have hz1 := k1.size
  have g1 : get a1 0 = .pointer (some ⟨rb, 0, none⟩) := by rw [k1.get 0 (by omega), g0]
  refine then_id (wp_seq_k fun K2 hK2 => ?_)
  refine wp_seq_k fun K3 hK3 => ?_
  refine wp_reg ?_
  rw [wpl_cons, wp_move, eval_tmp, g1, wpl_cons]
  refine wp_nilCheck (q := ⟨rb, 0, none⟩) (by rw [eval_tmp, get_put_same (by omega)]) ?_
  rw [wpl_cons]
  refine wp_fieldAddr (b := rb) (i := 0) hF0 (by rw [eval_tmp, get_put_same (by simp only [size_put]; omega)]) ?_
  rw [wpl_cons]
  refine wp_load h22 (b := rb) (o := 0) (v := .slice q st.xs.length cap) (by rw [eval_tmp, get_put_same (by simp only [size_put]; omega)]) c0 ?_
  rw [wpl_cons]
  refine wp_len hs (by rw [eval_tmp, get_put_same (by simp only [size_put]; omega)]) ?_
  rw [wpl_cons]
  refine wp_lss (k1 := .i64) (i := st.xs.length) (j := 1) (by rw [eval_tmp, get_put_same (by simp only [size_put]; omega)]) rfl ?_
  rw [wpl_nil]
  generalize ha2 : (((((a1.put (some 4) (.pointer (some ⟨rb, 0, none⟩))).put (some 5) (.pointer (some ⟨rb, 0, none⟩))).put (some 6) (.pointer (some ⟨rb, 0 + 0, none⟩))).put (some 7) (.slice q st.xs.length cap)).put (some 8) (.int .i64 st.xs.length)).put (some 9) (.bool (decide ((st.xs.length : Int) < 1))) = a2
  have k2 : Kept 4 a1 a2 := by subst ha2; exact (((((Kept.put0 (by omega) _).put (by omega) _).put (by omega) _).put (by omega) _).put (by omega) _).put (by omega) _
  have q9 : get a2 9 = .bool (decide ((st.xs.length : Int) < 1)) := by subst ha2; exact get_put_same (by simp only [size_put]; omega)
  clear ha2
  have hz2 := k2.size
  have g2 : get a2 0 = .pointer (some ⟨rb, 0, none⟩) := by rw [k2.get 0 (by omega), g1]
  have hd2 : a2.defers = [] := by rw [k2.defers, k1.defers, hd0]
  refine hK3 a2 w ?_
  refine wp_cond_split (t := decide ((st.xs.length : Int) < 1)) (by rw [eval_tmp, q9]) (fun hz => ?_) fun hz => wp_skip (hK2 a2 w (then_up ?_))
  · have hx : st.xs = [] := List.eq_nil_of_length_eq_zero (by simp at hz; omega)
    obtain rfl : g = (.n 0, .fail) := by rw [← hg]; simp [gBool, hx]
    refine wp_seq_k fun K5 hK5 => ?_
    refine wp_reg ?_
    rw [wpl_cons, wp_move, eval_tmp, g2, wpl_cons]
    refine wp_nilCheck (q := ⟨rb, 0, none⟩) (by rw [eval_tmp, get_put_same (by omega)]) ?_
    rw [wpl_cons]
    refine wp_fieldAddr (b := rb) (i := 0) hF1 (by rw [eval_tmp, get_put_same (by simp only [size_put]; omega)]) ?_
    rw [wpl_cons]
    refine wp_store h4 (b := rb) (o := 0 + 1) (v := .bool true) (by rw [eval_tmp, get_put_same (by simp only [size_put]; omega)]) rfl rfl (there_part hthere (by omega) (by omega)) ?_
    rw [put_none, wpl_nil]
    generalize ha4 : ((a2.put (some 10) (.pointer (some ⟨rb, 0, none⟩))).put (some 11) (.pointer (some ⟨rb, 0, none⟩))).put (some 12) (.pointer (some ⟨rb, 0 + 1, none⟩)) = a4
    have k4 : Kept 4 a2 a4 := by subst ha4; exact ((Kept.put0 (by omega) _).put (by omega) _).put (by omega) _
    clear ha4
    have hz4 := k4.size
    refine hK5 a4 _ ?_
    refine wp_seq_k fun K6 hK6 => ?_
    refine wp_reg ?_
    rw [wpl_cons, wp_move, eval_tmp, k4.get 0 (by omega), g2, wpl_cons]
    refine wp_nilCheck (q := ⟨rb, 0, none⟩) (by rw [eval_tmp, get_put_same (by omega)]) ?_
    rw [wpl_cons]
    refine wp_fieldAddr (b := rb) (i := 0) hF0 (by rw [eval_tmp, get_put_same (by simp only [size_put]; omega)]) ?_
    rw [wpl_cons]
    refine wp_store h22 (b := rb) (o := 0 + 0) (v := .slice none 0 0) (by rw [eval_tmp, get_put_same (by simp only [size_put]; omega)]) rfl rfl (there_part ((Fr.set w rb (0 + 1) (.bool true)).there hthere) (by omega) (by omega)) ?_
    rw [put_none, wpl_nil]
    generalize ha5 : ((a4.put (some 13) (.pointer (some ⟨rb, 0, none⟩))).put (some 14) (.pointer (some ⟨rb, 0, none⟩))).put (some 15) (.pointer (some ⟨rb, 0 + 0, none⟩)) = a5
    have k5 : Kept 4 a4 a5 := by subst ha5; exact ((Kept.put0 (by omega) _).put (by omega) _).put (by omega) _
    clear ha5
    have hz5 := k5.size
    refine hK6 a5 _ ?_
    refine wp_seq_k fun K7 hK7 => ?_
    refine r_const (m := 2) (by omega) (by omega) fun a6 k6 g6 => hK7 a6 _ ?_
    exact wp_ret ⟨by rw [k6.defers, k5.defers, k4.defers, hd2], _, results_one hres, _, rfl, by rw [g6]; exact ⟨false, rfl, rfl⟩, hgone.1, hgone.2⟩
  · obtain ⟨c, r, hx⟩ : ∃ c r, st.xs = c :: r := by
      cases hx : st.xs with
      | nil => simp [hx] at hz
      | cons c r => exact ⟨c, r, rfl⟩
    have hne : st.xs ≠ [] := by rw [hx]; simp
    obtain ⟨o, cap', hc', _, _, _, _, hsb, hcap, hr, hnil⟩ := h.some hne
    have hsv : (Value.slice q st.xs.length cap) = .slice (some ⟨sb, o, none⟩) st.xs.length cap' := by rw [hc'] at c0; exact (Option.some.inj c0).symm
    obtain ⟨rfl, rfl⟩ : q = some ⟨sb, o, none⟩ ∧ cap = cap' := by simpa using hsv
    have hoc : w.cell? ⟨sb, o + 0, none⟩ = some (.int .u8 c.toNat) := hr 0 _ (by rw [hx]; rfl)
    have hlen : 0 < st.xs.length := List.length_pos_iff.2 hne
    have hc256 : c.toNat < 256 := c.toNat_lt
    refine then_id (wp_seq_k fun K5 hK5 => ?_)
    refine wp_reg ?_
    rw [wpl_cons, wp_move, eval_tmp, g2, wpl_cons]
    refine wp_nilCheck (q := ⟨rb, 0, none⟩) (by rw [eval_tmp, get_put_same (by omega)]) ?_
    rw [wpl_cons]
    refine wp_fieldAddr (b := rb) (i := 0) hF0 (by rw [eval_tmp, get_put_same (by simp only [size_put]; omega)]) ?_
    rw [wpl_cons]
    refine wp_load h22 (b := rb) (o := 0) (v := .slice (some ⟨sb, o, none⟩) st.xs.length cap) (by rw [eval_tmp, get_put_same (by simp only [size_put]; omega)]) c0 ?_
    rw [wpl_cons]
    refine wp_indexAddr hs (b := sb) (o := o) (len := st.xs.length) (cap := cap) (k1 := .i64) (i := 0) (by rw [eval_tmp, get_put_same (by simp only [size_put]; omega)]) rfl (by omega) (by omega) ?_
    rw [wpl_cons]
    refine wp_load h5 (b := sb) (o := o + 0) (v := .int .u8 c.toNat) (by rw [eval_tmp, get_put_same (by simp only [size_put]; omega)]; simp) hoc ?_
    rw [wpl_cons]
    refine wp_neq (k1 := .u8) (i := (c.toNat : Int)) (j := 0) (by rw [eval_tmp, get_put_same (by simp only [size_put]; omega)]) rfl ?_
    rw [wpl_cons]
    rw [wp_assign, eval_tmp, get_put_same (by simp only [size_put]; omega), wpl_nil]
    generalize ha3 : (((((((a2.put (some 16) (.pointer (some ⟨rb, 0, none⟩))).put (some 17) (.pointer (some ⟨rb, 0, none⟩))).put (some 18) (.pointer (some ⟨rb, 0 + 0, none⟩))).put (some 19) (.slice (some ⟨sb, o, none⟩) st.xs.length cap)).put (some 20) (.pointer (some ⟨sb, o + (0 : Int).toNat * 1, none⟩))).put (some 21) (.int .u8 c.toNat)).put (some 22) (.bool ((c.toNat : Int) != 0))).put (some 3) (.bool ((c.toNat : Int) != 0)) = a3
    have k3 : Kept 3 a2 a3 := by subst ha3; exact (((((((Kept.put0 (by omega) _).put (by omega) _).put (by omega) _).put (by omega) _).put (by omega) _).put (by omega) _).put (by omega) _).put (by omega) _
    have q3 : get a3 3 = .bool ((c.toNat : Int) != 0) := by subst ha3; exact get_put_same (by simp only [size_put]; omega)
    clear ha3
    have hz3 := k3.size
    have g3 : get a3 0 = .pointer (some ⟨rb, 0, none⟩) := by rw [k3.get 0 (by omega), g2]
    refine hK5 a3 w (then_up ?_)
    refine then_id (wp_seq_k fun K6 hK6 => ?_)
    refine wp_reg ?_
    rw [wpl_cons, wp_move, eval_tmp, g3, wpl_cons, wp_move, eval_tmp, get_put_ne (by omega), g3, wpl_cons]
    refine wp_nilCheck (q := ⟨rb, 0, none⟩) (by rw [eval_tmp, get_put_same (by simp only [size_put]; omega)]) ?_
    rw [wpl_cons]
    refine wp_fieldAddr (b := rb) (i := 0) hF0 (by rw [eval_tmp, get_put_same (by simp only [size_put]; omega)]) ?_
    rw [wpl_cons]
    refine wp_load h22 (b := rb) (o := 0) (v := .slice (some ⟨sb, o, none⟩) st.xs.length cap) (by rw [eval_tmp, get_put_same (by simp only [size_put]; omega)]) c0 ?_
    rw [wpl_cons]
    refine wp_sliceLo (q := some ⟨sb, o, none⟩) (len := st.xs.length) (cap := cap) (l := 1) (k1 := .i64) hs (by rw [eval_tmp, get_put_same (by simp only [size_put]; omega)]) rfl (by omega) ?_
    rw [wpl_cons]
    refine wp_nilCheck (q := ⟨rb, 0, none⟩) (by rw [eval_tmp, get_put_ne (by omega), get_put_ne (by omega), get_put_ne (by omega), get_put_ne (by omega), get_put_ne (by omega), get_put_same (by omega)]) ?_
    rw [wpl_cons]
    refine wp_fieldAddr (b := rb) (i := 0) hF0 (by rw [eval_tmp, get_put_same (by simp only [size_put]; omega)]) ?_
    rw [wpl_cons]
    generalize hvv : Value.slice (if cap = 1 then some ⟨sb, o, none⟩ else Option.map (fun y : Addr => y.add (1 * 1)) (some ⟨sb, o, none⟩)) (st.xs.length - 1) (cap - 1) = vv
    have hvv' : vv = .slice (if cap = 1 then some ⟨sb, o, none⟩ else some ⟨sb, o + 1, none⟩) (st.xs.length - 1) (cap - 1) := by rw [← hvv]; simp [add_addr]
    have hone : vv.oneCell' = true := by rw [hvv']; rfl
    refine wp_store h22 (b := rb) (o := 0 + 0) (v := vv) (by rw [eval_tmp, get_put_same (by simp only [size_put]; omega)]) (by rw [eval_tmp, get_put_ne (by omega), get_put_ne (by omega), get_put_same (by simp only [size_put]; omega)]) hone (there_part hthere (by omega) (by omega)) ?_
    rw [put_none, wpl_nil]
    have hon := h.on (w1 := w) (k := 1) c0 hr hcap hnil (by omega) (Fr.refl _ _) hvv'
    generalize ha4 : ((((((((a3.put (some 23) (.pointer (some ⟨rb, 0, none⟩))).put (some 24) (.pointer (some ⟨rb, 0, none⟩))).put (some 25) (.pointer (some ⟨rb, 0, none⟩))).put (some 26) (.pointer (some ⟨rb, 0 + 0, none⟩))).put (some 27) (.slice (some ⟨sb, o, none⟩) st.xs.length cap)).put (some 28) vv).put (some 29) (.pointer (some ⟨rb, 0, none⟩))).put (some 30) (.pointer (some ⟨rb, 0 + 0, none⟩))) = a4
    have k4 : Kept 4 a3 a4 := by subst ha4; exact (((((((Kept.put0 (by omega) _).put (by omega) _).put (by omega) _).put (by omega) _).put (by omega) _).put (by omega) _).put (by omega) _).put (by omega) _
    clear ha4
    have hz4 := k4.size
    refine hK6 a4 _ (then_up ?_)
    refine then_id (wp_seq_k fun K7 hK7 => ?_)
    refine wp_reg ?_
    rw [wpl_cons, wp_move, eval_tmp, k4.get 3 (by omega), q3, wpl_cons]
    rw [wp_assign, eval_tmp, get_put_same (by first | omega | (simp only [size_put]; omega)), wpl_nil]
    refine hK7 _ _ (wp_ret ?_)
    have hgr : g.2 = { st with xs := st.xs.drop 1 } := by rw [← hg]; simp [gBool, hx]
    refine ⟨by simp only [defers_put]; rw [k4.defers, k3.defers, hd2], _, results_one hres, _, rfl, ?_, by rw [hgr]; exact hon.1, hon.2⟩
    rw [get_put_same (by simp only [size_put]; omega), ← hg]
    refine ⟨(c.toNat : Int) != 0, rfl, ?_⟩
    simp [gBool, hx]
set_option maxRecDepth 10000 in
theorem rdi8_m {P : Program} {f : FuncId} {fn : Func} {et : TypeId}
    {T3 T4 T5 T22 T177 T216 : TypeId}
    {i0 i1 i2 i3 i4 i5 i6 i7 : Nat}
    {t0 t1 t2 t3 t4 t5 t6 t7 t8 t9 t10 t11 t12 t13 t14 t15 t16 t17 t18 t19 t20 t21 t22 t23 t24 t25 t26 t27 t28 t29 t30 t31 t32 t33 t34 : TypeId} {p0 p1 p2 p3 p4 p5 p6 p7 p8 p9 p10 p11 p12 p13 p14 p15 p16 p17 p18 p19 p20 p21 p22 p23 p24 p25 p26 p27 p28 p29 p30 p31 p32 p33 p34 : String} {e0 e1 e2 e3 e4 e5 e6 e7 e8 e9 e10 e11 e12 e13 e14 e15 e16 e17 e18 e19 e20 e21 e22 e23 e24 e25 e26 e27 e28 e29 e30 e31 e32 e33 e34 : Array Edge}
    (hf : P.funcs[f]? = some fn) (hname : (fn.name == "runtime.NumGoroutine") = false) (hres : fn.results = #[.tmp 2]) (hN : fn.ntmps = 32)
    (hbody : fn.body = some (.seq (Code.region i0 ⟨[⟨some 2, .assign (.const (.int .i8 0)), t0, p0, e0, none⟩]⟩ false)
  (.seq (.seq (Code.region i1 ⟨[⟨some 4, .move (.tmp 0), t1, p1, e1, none⟩,
    ⟨some 5, .nilCheck (.tmp 4), t2, p2, e2, none⟩,
    ⟨some 6, .fieldAddr T216 (.tmp 5) 0, t3, p3, e3, none⟩,
    ⟨some 7, .load T22 (.tmp 6), t4, p4, e4, none⟩,
    ⟨some 8, .call ⟨.builtin .len, #[(.tmp 7)], #[T22]⟩, t5, p5, e5, none⟩,
    ⟨some 9, .binOp .lss T3 (.tmp 8) (.const (.int .i64 1)) T3, t6, p6, e6, none⟩]⟩ false)
  (.cond (.tmp 9) (.seq (Code.region i2 ⟨[⟨some 10, .move (.tmp 0), t7, p7, e7, none⟩,
    ⟨some 11, .nilCheck (.tmp 10), t8, p8, e8, none⟩,
    ⟨some 12, .fieldAddr T216 (.tmp 11) 1, t9, p9, e9, none⟩,
    ⟨none, .store T4 (.tmp 12) (.const (.bool true)), t10, p10, e10, none⟩]⟩ false)
  (.seq (Code.region i3 ⟨[⟨some 13, .move (.tmp 0), t11, p11, e11, none⟩,
    ⟨some 14, .nilCheck (.tmp 13), t12, p12, e12, none⟩,
    ⟨some 15, .fieldAddr T216 (.tmp 14) 0, t13, p13, e13, none⟩,
    ⟨none, .store T22 (.tmp 15) (.const (.slice none 0 0)), t14, p14, e14, none⟩]⟩ false)
  (.seq (Code.region i4 ⟨[⟨some 2, .assign (.const (.int .i8 0)), t15, p15, e15, none⟩]⟩ false)
  .ret)))
  .skip))
  (.seq (Code.region i5 ⟨[⟨some 16, .move (.tmp 0), t16, p16, e16, none⟩,
    ⟨some 17, .nilCheck (.tmp 16), t17, p17, e17, none⟩,
    ⟨some 18, .fieldAddr T216 (.tmp 17) 0, t18, p18, e18, none⟩,
    ⟨some 19, .load T22 (.tmp 18), t19, p19, e19, none⟩,
    ⟨some 20, .indexAddr T22 (.tmp 19) (.const (.int .i64 0)), t20, p20, e20, none⟩,
    ⟨some 21, .load T5 (.tmp 20), t21, p21, e21, none⟩,
    ⟨some 3, .assign (.tmp 21), t22, p22, e22, none⟩]⟩ false)
  (.seq (Code.region i6 ⟨[⟨some 22, .move (.tmp 0), t23, p23, e23, none⟩,
    ⟨some 23, .move (.tmp 0), t24, p24, e24, none⟩,
    ⟨some 24, .nilCheck (.tmp 23), t25, p25, e25, none⟩,
    ⟨some 25, .fieldAddr T216 (.tmp 24) 0, t26, p26, e26, none⟩,
    ⟨some 26, .load T22 (.tmp 25), t27, p27, e27, none⟩,
    ⟨some 27, .slice T22 (.tmp 26) (some (.const (.int .i64 1))) none none, t28, p28, e28, none⟩,
    ⟨some 28, .nilCheck (.tmp 22), t29, p29, e29, none⟩,
    ⟨some 29, .fieldAddr T216 (.tmp 28) 0, t30, p30, e30, none⟩,
    ⟨none, .store T22 (.tmp 29) (.tmp 27), t31, p31, e31, none⟩]⟩ false)
  (.seq (Code.region i7 ⟨[⟨some 30, .move (.tmp 3), t32, p32, e32, none⟩,
    ⟨some 31, .convert T5 T177 (.tmp 30), t33, p33, e33, none⟩,
    ⟨some 2, .assign (.tmp 31), t34, p34, e34, none⟩]⟩ false)
  .ret))))))
    (hs : sliceOf P T22 et 1 1 = true) (h22 : scal P T22 = true) (h4 : scal P T4 = true) (h5 : scal P T5 = true) (hF0 : fieldOf P T216 0 0 = true) (hF1 : fieldOf P T216 1 1 = true) (h5i : intOf P T5 .u8 = true) (h177 : intOf P T177 .i8 = true) : MethV P f (.int .i8) gI8 := by
  refine ⟨enters_of hf hname hbody, ?_⟩
  intro w rb sb st h
  generalize hg : gI8 st = g
  have hgone := h.gone
  have hthere : w.there rb 0 2 := h.2.1
  obtain ⟨q, cap, c0, c1, fz0, fz1, hrb⟩ := h.slice
  refine calls_of_wp hf hbody ?_
  generalize ha0 : ({ tmps := #[Value.pointer (some ⟨rb, 0, none⟩)] ++ Array.replicate (fn.ntmps - #[Value.pointer (some ⟨rb, 0, none⟩)].size) undef, defers := [] } : Act) = a0
  have hsz : a0.tmps.size = 32 := by subst ha0; simp [hN]
  have hd0 : a0.defers = [] := by subst ha0; rfl
  have g0 : get a0 0 = .pointer (some ⟨rb, 0, none⟩) := by subst ha0; exact get_args rfl
  clear ha0
  refine then_id (wp_seq_k fun K1 hK1 => ?_)
  refine r_const (m := 2) (by omega) (by omega) fun a1 k1 _ => hK1 a1 w (then_up ?_)
  have hz1 := k1.size
  have g1 : get a1 0 = .pointer (some ⟨rb, 0, none⟩) := by rw [k1.get 0 (by omega), g0]
  refine then_id (wp_seq_k fun K2 hK2 => ?_)
  refine wp_seq_k fun K3 hK3 => ?_
  refine wp_reg ?_
  rw [wpl_cons, wp_move, eval_tmp, g1, wpl_cons]
  refine wp_nilCheck (q := ⟨rb, 0, none⟩) (by rw [eval_tmp, get_put_same (by omega)]) ?_
  rw [wpl_cons]
  refine wp_fieldAddr (b := rb) (i := 0) hF0 (by rw [eval_tmp, get_put_same (by simp only [size_put]; omega)]) ?_
  rw [wpl_cons]
  refine wp_load h22 (b := rb) (o := 0) (v := .slice q st.xs.length cap) (by rw [eval_tmp, get_put_same (by simp only [size_put]; omega)]) c0 ?_
  rw [wpl_cons]
  refine wp_len hs (by rw [eval_tmp, get_put_same (by simp only [size_put]; omega)]) ?_
  rw [wpl_cons]
  refine wp_lss (k1 := .i64) (i := st.xs.length) (j := 1) (by rw [eval_tmp, get_put_same (by simp only [size_put]; omega)]) rfl ?_
  rw [wpl_nil]
  generalize ha2 : (((((a1.put (some 4) (.pointer (some ⟨rb, 0, none⟩))).put (some 5) (.pointer (some ⟨rb, 0, none⟩))).put (some 6) (.pointer (some ⟨rb, 0 + 0, none⟩))).put (some 7) (.slice q st.xs.length cap)).put (some 8) (.int .i64 st.xs.length)).put (some 9) (.bool (decide ((st.xs.length : Int) < 1))) = a2
  have k2 : Kept 4 a1 a2 := by subst ha2; exact (((((Kept.put0 (by omega) _).put (by omega) _).put (by omega) _).put (by omega) _).put (by omega) _).put (by omega) _
  have q9 : get a2 9 = .bool (decide ((st.xs.length : Int) < 1)) := by subst ha2; exact get_put_same (by simp only [size_put]; omega)
  clear ha2
  have hz2 := k2.size
  have g2 : get a2 0 = .pointer (some ⟨rb, 0, none⟩) := by rw [k2.get 0 (by omega), g1]
  have hd2 : a2.defers = [] := by rw [k2.defers, k1.defers, hd0]
  refine hK3 a2 w ?_
  refine wp_cond_split (t := decide ((st.xs.length : Int) < 1)) (by rw [eval_tmp, q9]) (fun hz => ?_) fun hz => wp_skip (hK2 a2 w (then_up ?_))
  · have hx : st.xs = [] := List.eq_nil_of_length_eq_zero (by simp at hz; omega)
    obtain rfl : g = (.n 0, .fail) := by rw [← hg]; simp [gI8, hx]
    refine wp_seq_k fun K5 hK5 => ?_
    refine wp_reg ?_
    rw [wpl_cons, wp_move, eval_tmp, g2, wpl_cons]
    refine wp_nilCheck (q := ⟨rb, 0, none⟩) (by rw [eval_tmp, get_put_same (by omega)]) ?_
    rw [wpl_cons]
    refine wp_fieldAddr (b := rb) (i := 0) hF1 (by rw [eval_tmp, get_put_same (by simp only [size_put]; omega)]) ?_
    rw [wpl_cons]
    refine wp_store h4 (b := rb) (o := 0 + 1) (v := .bool true) (by rw [eval_tmp, get_put_same (by simp only [size_put]; omega)]) rfl rfl (there_part hthere (by omega) (by omega)) ?_
    rw [put_none, wpl_nil]
    generalize ha4 : ((a2.put (some 10) (.pointer (some ⟨rb, 0, none⟩))).put (some 11) (.pointer (some ⟨rb, 0, none⟩))).put (some 12) (.pointer (some ⟨rb, 0 + 1, none⟩)) = a4
    have k4 : Kept 4 a2 a4 := by subst ha4; exact ((Kept.put0 (by omega) _).put (by omega) _).put (by omega) _
    clear ha4
    have hz4 := k4.size
    refine hK5 a4 _ ?_
    refine wp_seq_k fun K6 hK6 => ?_
    refine wp_reg ?_
    rw [wpl_cons, wp_move, eval_tmp, k4.get 0 (by omega), g2, wpl_cons]
    refine wp_nilCheck (q := ⟨rb, 0, none⟩) (by rw [eval_tmp, get_put_same (by omega)]) ?_
    rw [wpl_cons]
    refine wp_fieldAddr (b := rb) (i := 0) hF0 (by rw [eval_tmp, get_put_same (by simp only [size_put]; omega)]) ?_
    rw [wpl_cons]
    refine wp_store h22 (b := rb) (o := 0 + 0) (v := .slice none 0 0) (by rw [eval_tmp, get_put_same (by simp only [size_put]; omega)]) rfl rfl (there_part ((Fr.set w rb (0 + 1) (.bool true)).there hthere) (by omega) (by omega)) ?_
    rw [put_none, wpl_nil]
    generalize ha5 : ((a4.put (some 13) (.pointer (some ⟨rb, 0, none⟩))).put (some 14) (.pointer (some ⟨rb, 0, none⟩))).put (some 15) (.pointer (some ⟨rb, 0 + 0, none⟩)) = a5
    have k5 : Kept 4 a4 a5 := by subst ha5; exact ((Kept.put0 (by omega) _).put (by omega) _).put (by omega) _
    clear ha5
    have hz5 := k5.size
    refine hK6 a5 _ ?_
    refine wp_seq_k fun K7 hK7 => ?_
    refine r_const (m := 2) (by omega) (by omega) fun a6 k6 g6 => hK7 a6 _ ?_
    exact wp_ret ⟨by rw [k6.defers, k5.defers, k4.defers, hd2], _, results_one hres, _, rfl, by rw [g6]; exact ⟨0, rfl, rfl, by decide, by decide⟩, hgone.1, hgone.2⟩
  · obtain ⟨c, r, hx⟩ : ∃ c r, st.xs = c :: r := by
      cases hx : st.xs with
      | nil => simp [hx] at hz
      | cons c r => exact ⟨c, r, rfl⟩
    have hne : st.xs ≠ [] := by rw [hx]; simp
    obtain ⟨o, cap', hc', _, _, _, _, hsb, hcap, hr, hnil⟩ := h.some hne
    have hsv : (Value.slice q st.xs.length cap) = .slice (some ⟨sb, o, none⟩) st.xs.length cap' := by rw [hc'] at c0; exact (Option.some.inj c0).symm
    obtain ⟨rfl, rfl⟩ : q = some ⟨sb, o, none⟩ ∧ cap = cap' := by simpa using hsv
    have hoc : w.cell? ⟨sb, o + 0, none⟩ = some (.int .u8 c.toNat) := hr 0 _ (by rw [hx]; rfl)
    have hlen : 0 < st.xs.length := List.length_pos_iff.2 hne
    have hc256 : c.toNat < 256 := c.toNat_lt
    refine then_id (wp_seq_k fun K5 hK5 => ?_)
    refine wp_reg ?_
    rw [wpl_cons, wp_move, eval_tmp, g2, wpl_cons]
    refine wp_nilCheck (q := ⟨rb, 0, none⟩) (by rw [eval_tmp, get_put_same (by omega)]) ?_
    rw [wpl_cons]
    refine wp_fieldAddr (b := rb) (i := 0) hF0 (by rw [eval_tmp, get_put_same (by simp only [size_put]; omega)]) ?_
    rw [wpl_cons]
    refine wp_load h22 (b := rb) (o := 0) (v := .slice (some ⟨sb, o, none⟩) st.xs.length cap) (by rw [eval_tmp, get_put_same (by simp only [size_put]; omega)]) c0 ?_
    rw [wpl_cons]
    refine wp_indexAddr hs (b := sb) (o := o) (len := st.xs.length) (cap := cap) (k1 := .i64) (i := 0) (by rw [eval_tmp, get_put_same (by simp only [size_put]; omega)]) rfl (by omega) (by omega) ?_
    rw [wpl_cons]
    refine wp_load h5 (b := sb) (o := o + 0) (v := .int .u8 c.toNat) (by rw [eval_tmp, get_put_same (by simp only [size_put]; omega)]; simp) hoc ?_
    rw [wpl_cons]
    rw [wp_assign, eval_tmp, get_put_same (by simp only [size_put]; omega), wpl_nil]
    generalize ha3 : ((((((a2.put (some 16) (.pointer (some ⟨rb, 0, none⟩))).put (some 17) (.pointer (some ⟨rb, 0, none⟩))).put (some 18) (.pointer (some ⟨rb, 0 + 0, none⟩))).put (some 19) (.slice (some ⟨sb, o, none⟩) st.xs.length cap)).put (some 20) (.pointer (some ⟨sb, o + (0 : Int).toNat * 1, none⟩))).put (some 21) (.int .u8 c.toNat)).put (some 3) (.int .u8 c.toNat) = a3
    have k3 : Kept 3 a2 a3 := by subst ha3; exact ((((((Kept.put0 (by omega) _).put (by omega) _).put (by omega) _).put (by omega) _).put (by omega) _).put (by omega) _).put (by omega) _
    have q3 : get a3 3 = .int .u8 c.toNat := by subst ha3; exact get_put_same (by simp only [size_put]; omega)
    clear ha3
    have hz3 := k3.size
    have g3 : get a3 0 = .pointer (some ⟨rb, 0, none⟩) := by rw [k3.get 0 (by omega), g2]
    refine hK5 a3 w (then_up ?_)
    refine then_id (wp_seq_k fun K6 hK6 => ?_)
    refine wp_reg ?_
    rw [wpl_cons, wp_move, eval_tmp, g3, wpl_cons, wp_move, eval_tmp, get_put_ne (by omega), g3, wpl_cons]
    refine wp_nilCheck (q := ⟨rb, 0, none⟩) (by rw [eval_tmp, get_put_same (by simp only [size_put]; omega)]) ?_
    rw [wpl_cons]
    refine wp_fieldAddr (b := rb) (i := 0) hF0 (by rw [eval_tmp, get_put_same (by simp only [size_put]; omega)]) ?_
    rw [wpl_cons]
    refine wp_load h22 (b := rb) (o := 0) (v := .slice (some ⟨sb, o, none⟩) st.xs.length cap) (by rw [eval_tmp, get_put_same (by simp only [size_put]; omega)]) c0 ?_
    rw [wpl_cons]
    refine wp_sliceLo (q := some ⟨sb, o, none⟩) (len := st.xs.length) (cap := cap) (l := 1) (k1 := .i64) hs (by rw [eval_tmp, get_put_same (by simp only [size_put]; omega)]) rfl (by omega) ?_
    rw [wpl_cons]
    refine wp_nilCheck (q := ⟨rb, 0, none⟩) (by rw [eval_tmp, get_put_ne (by omega), get_put_ne (by omega), get_put_ne (by omega), get_put_ne (by omega), get_put_ne (by omega), get_put_same (by omega)]) ?_
    rw [wpl_cons]
    refine wp_fieldAddr (b := rb) (i := 0) hF0 (by rw [eval_tmp, get_put_same (by simp only [size_put]; omega)]) ?_
    rw [wpl_cons]
    generalize hvv : Value.slice (if cap = 1 then some ⟨sb, o, none⟩ else Option.map (fun y : Addr => y.add (1 * 1)) (some ⟨sb, o, none⟩)) (st.xs.length - 1) (cap - 1) = vv
    have hvv' : vv = .slice (if cap = 1 then some ⟨sb, o, none⟩ else some ⟨sb, o + 1, none⟩) (st.xs.length - 1) (cap - 1) := by rw [← hvv]; simp [add_addr]
    have hone : vv.oneCell' = true := by rw [hvv']; rfl
    refine wp_store h22 (b := rb) (o := 0 + 0) (v := vv) (by rw [eval_tmp, get_put_same (by simp only [size_put]; omega)]) (by rw [eval_tmp, get_put_ne (by omega), get_put_ne (by omega), get_put_same (by simp only [size_put]; omega)]) hone (there_part hthere (by omega) (by omega)) ?_
    rw [put_none, wpl_nil]
    have hon := h.on (w1 := w) (k := 1) c0 hr hcap hnil (by omega) (Fr.refl _ _) hvv'
    generalize ha4 : ((((((((a3.put (some 22) (.pointer (some ⟨rb, 0, none⟩))).put (some 23) (.pointer (some ⟨rb, 0, none⟩))).put (some 24) (.pointer (some ⟨rb, 0, none⟩))).put (some 25) (.pointer (some ⟨rb, 0 + 0, none⟩))).put (some 26) (.slice (some ⟨sb, o, none⟩) st.xs.length cap)).put (some 27) vv).put (some 28) (.pointer (some ⟨rb, 0, none⟩))).put (some 29) (.pointer (some ⟨rb, 0 + 0, none⟩))) = a4
    have k4 : Kept 4 a3 a4 := by subst ha4; exact (((((((Kept.put0 (by omega) _).put (by omega) _).put (by omega) _).put (by omega) _).put (by omega) _).put (by omega) _).put (by omega) _).put (by omega) _
    clear ha4
    have hz4 := k4.size
    refine hK6 a4 _ (then_up ?_)
    refine then_id (wp_seq_k fun K7 hK7 => ?_)
    refine wp_reg ?_
    rw [wpl_cons, wp_move, eval_tmp, k4.get 3 (by omega), q3, wpl_cons]
    refine wp_convert (k1 := .u8) (i := (c.toNat : Int)) h5i h177 (by rw [eval_tmp, get_put_same (by omega)]) ?_
    rw [wpl_cons]
    rw [wp_assign, eval_tmp, get_put_same (by first | omega | (simp only [size_put]; omega)), wpl_nil]
    refine hK7 _ _ (wp_ret ?_)
    have hgr : g.2 = { st with xs := st.xs.drop 1 } := by rw [← hg]; simp [gI8, hx]
    refine ⟨by simp only [defers_put]; rw [k4.defers, k3.defers, hd2], _, results_one hres, _, rfl, ?_, by rw [hgr]; exact hon.1, hon.2⟩
    rw [get_put_same (by simp only [size_put]; omega), ← hg]
    have hw : -128 ≤ IntKind.i8.wrap (c.toNat : Int) ∧ IntKind.i8.wrap (c.toNat : Int) ≤ 127 := by simp [IntKind.wrap, IntKind.bits, IntKind.signed]; split <;> omega
    exact ⟨IntKind.i8.wrap (c.toNat : Int), rfl, by simp [gI8, hx], hw.1, hw.2⟩
end Go.Kq

/- The reader's methods that give octets. Written by mk_rdb.py. -/
namespace Go.Kq
open Go Go.Proofs

def gBytes (st : RSt) : V × RSt := if (rdNum .i32 4 st).1 = -1 then (.s [], (rdNum .i32 4 st).2) else (.oct (rdSpan (rdNum .i32 4 st).1 (rdNum .i32 4 st).2).1, (rdSpan (rdNum .i32 4 st).1 (rdNum .i32 4 st).2).2)
def gCBytes (st : RSt) : V × RSt := if ((rdUv st).1 : Int) - 1 = -1 then (.s [], (rdUv st).2) else (.oct (rdSpan (((rdUv st).1 : Int) - 1) (rdUv st).2).1, (rdSpan (((rdUv st).1 : Int) - 1) (rdUv st).2).2)
theorem Rep.i32 {w : World} {A : Nat → Prop} {v : Value} {n : Int} (h : Rep w A (.int .i32) [v] (.n n)) : v = .int .i32 n := by
  obtain ⟨i, h1, h2, _⟩ := h
  simp at h1 h2
  rw [h1, h2]

set_option maxRecDepth 10000 in
theorem bytes_m {P : Program} {f : FuncId} {fn : Func} {et : TypeId}
    {T3 T21 T22 : TypeId}
    {f218 f279 : FuncId}
    {a0 : Array TypeId}
    {a1 : Array TypeId}
    {i0 i1 i2 i3 i4 : Nat}
    {t0 t1 t2 t3 t4 t5 t6 t7 t8 t9 t10 t11 t12 : TypeId} {p0 p1 p2 p3 p4 p5 p6 p7 p8 p9 p10 p11 p12 : String} {e0 e1 e2 e3 e4 e5 e6 e7 e8 e9 e10 e11 e12 : Array Edge}
    (hf : P.funcs[f]? = some fn) (hname : (fn.name == "runtime.NumGoroutine") = false) (hres : fn.results = #[.tmp 2]) (hN : fn.ntmps = 13)
    (hbody : fn.body = some (.seq (Code.region i0 ⟨[⟨some 2, .assign (.const (.slice none 0 0)), t0, p0, e0, none⟩]⟩ false)
  (.seq (Code.region i1 ⟨[⟨some 4, .move (.tmp 0), t1, p1, e1, none⟩,
    ⟨some 5, .call ⟨.value (.func f218), #[(.tmp 4)], a0⟩, t2, p2, e2, none⟩,
    ⟨some 3, .assign (.tmp 5), t3, p3, e3, none⟩]⟩ false)
  (.seq (.seq (Code.region i2 ⟨[⟨some 6, .move (.tmp 3), t4, p4, e4, none⟩,
    ⟨some 7, .binOp .eql T21 (.tmp 6) (.const (.int .i32 (-1))) T21, t5, p5, e5, none⟩]⟩ false)
  (.cond (.tmp 7) (.seq (Code.region i3 ⟨[⟨some 8, .buildSlice T22 0 #[], t6, p6, e6, none⟩,
    ⟨some 2, .assign (.tmp 8), t7, p7, e7, none⟩]⟩ false)
  .ret)
  .skip))
  (.seq (Code.region i4 ⟨[⟨some 9, .move (.tmp 0), t8, p8, e8, none⟩,
    ⟨some 10, .move (.tmp 3), t9, p9, e9, none⟩,
    ⟨some 11, .convert T21 T3 (.tmp 10), t10, p10, e10, none⟩,
    ⟨some 12, .call ⟨.value (.func f279), #[(.tmp 9), (.tmp 11)], a1⟩, t11, p11, e11, none⟩,
    ⟨some 2, .assign (.tmp 12), t12, p12, e12, none⟩]⟩ false)
  .ret)))))
    (h3 : intOf P T3 .i64 = true) (h21 : intOf P T21 .i32 = true) (hu : MethV P f218 (.int .i32) (gNum .i32 4)) (hsp : SpanM P f279) (h22 : sliceOf P T22 et 1 1 = true) : MethV P f .bytes gBytes := by
  refine ⟨enters_of hf hname hbody, ?_⟩
  intro w rb sb st h
  generalize hg : gBytes st = g
  unfold gBytes at hg
  refine calls_of_wp hf hbody ?_
  generalize ha0 : ({ tmps := #[Value.pointer (some ⟨rb, 0, none⟩)] ++ Array.replicate (fn.ntmps - #[Value.pointer (some ⟨rb, 0, none⟩)].size) undef, defers := [] } : Act) = a0
  have hsz : a0.tmps.size = 13 := by subst ha0; simp [hN]
  have hd0 : a0.defers = [] := by subst ha0; rfl
  have g0 : get a0 0 = .pointer (some ⟨rb, 0, none⟩) := by subst ha0; exact get_args rfl
  clear ha0
  refine then_id (wp_seq_k fun K1 hK1 => ?_)
  refine r_const (m := 2) (by omega) (by omega) fun a1 k1 _ => hK1 a1 w (then_up ?_)
  have hz1 := k1.size
  have g1 : get a1 0 = .pointer (some ⟨rb, 0, none⟩) := by rw [k1.get 0 (by omega), g0]
  refine then_id (wp_seq_k fun K2 hK2 => ?_)
  refine wp_reg ?_
  rw [wpl_cons, wp_move, eval_tmp, g1, wpl_cons]
  refine wp_calls (R := fun x w' => x = .int .i32 (rdNum .i32 4 st).1 ∧ RW w' rb sb (rdNum .i32 4 st).2 ∧ Fr [⟨rb, 0, 2⟩] w w') hu.enters (vs := #[.pointer (some ⟨rb, 0, none⟩)]) (by simp only [List.map_toArray, List.map_cons, List.map_nil, eval_tmp]; rw [get_put_same (by omega)])
    ((hu.call w rb sb st h).mono (by rintro e' w' ⟨x, rfl, h1, h2, h3⟩; exact ⟨_, rfl, h1.i32, h2, h3⟩)) ?_
  rintro _ w1 ⟨rfl, hr1, f1⟩
  have hb := rdNum_i32 st
  generalize (rdNum .i32 4 st).1 = z at *
  generalize (rdNum .i32 4 st).2 = s at *
  rw [wpl_cons, wp_assign, eval_tmp, get_put_same (by simp only [size_put]; omega), wpl_nil]
  generalize ha2 : ((a1.put (some 4) (.pointer (some ⟨rb, 0, none⟩))).put (some 5) (.int .i32 z)).put (some 3) (.int .i32 z) = a2
  have k2 : Kept 2 a1 a2 := by subst ha2; exact ((Kept.put0 (by omega) _).put (by omega) _).put (by omega) _
  have q3 : get a2 3 = .int .i32 z := by subst ha2; exact get_put_same (by simp only [size_put]; omega)
  clear ha2
  have hz2 := k2.size
  have g2 : get a2 0 = .pointer (some ⟨rb, 0, none⟩) := by rw [k2.get 0 (by omega), g1]
  have hd2 : a2.defers = [] := by rw [k2.defers, k1.defers, hd0]
  refine hK2 a2 w1 (then_up ?_)
  refine then_id (wp_seq_k fun K3 hK3 => ?_)
  refine wp_seq_k fun K4 hK4 => ?_
  refine wp_reg ?_
  rw [wpl_cons, wp_move, eval_tmp, q3, wpl_cons]
  refine wp_eql (k1 := .i32) (i := z) (j := -1) (by rw [eval_tmp, get_put_same (by omega)]) rfl ?_
  rw [wpl_nil]
  have k3 : Kept 4 a2 ((a2.put (some 6) (.int .i32 z)).put (some 7) (.bool (z == -1))) := (Kept.put0 (by omega) _).put (by omega) _
  have qc : get ((a2.put (some 6) (.int .i32 z)).put (some 7) (.bool (z == -1))) 7 = .bool (z == -1) := get_put_same (by simp only [size_put]; omega)
  generalize (a2.put (some 6) (.int .i32 z)).put (some 7) (.bool (z == -1)) = a3 at k3 qc ⊢
  have hz3 := k3.size
  have g3 : get a3 0 = .pointer (some ⟨rb, 0, none⟩) := by rw [k3.get 0 (by omega), g2]
  have r3 : get a3 3 = .int .i32 z := by rw [k3.get 3 (by omega), q3]
  have hd3 : a3.defers = [] := by rw [k3.defers, hd2]
  have sz1 := f1.size
  refine hK4 a3 w1 ?_
  refine wp_cond_split (t := (z == -1)) (by rw [eval_tmp, qc]) (fun hz => ?_) fun hz => wp_skip (hK3 a3 w1 (then_up ?_))
  · have hz : z = -1 := by simpa using hz
    rw [if_pos hz] at hg
    subst hg
    refine wp_seq_k fun K5 hK5 => ?_
    refine wp_reg ?_
    rw [wpl_cons]
    refine wp_slice00 h22 ?_
    rw [wpl_cons, wp_assign, eval_tmp, get_put_same (by omega), wpl_nil]
    have fa := Fr.alloc [] w1 (.cells #[] et)
    have sza := size_alloc w1 (.cells #[] et)
    generalize w1.alloc (.cells #[] et) = w2 at fa sza ⊢
    refine hK5 _ w2 (wp_ret ?_)
    refine ⟨by simp only [defers_put]; exact hd3, _, results_one hres, _, rfl, ?_, hr1.kept fa (by simp), f1.tr fa.nil⟩
    rw [get_put_same (by simp only [size_put]; omega)]
    exact ⟨_, some [], rfl, .inr ⟨w1.heap.size, 0, 0, [], .inr ⟨sz1, by omega⟩, rfl, ⟨by simp, by simp⟩, (by intro j u hj; simp [octets] at hj), rfl⟩, rfl⟩
  have hz : ¬ z = -1 := by simpa using hz
  rw [if_neg hz] at hg
  subst hg
  refine then_id (wp_seq_k fun K6 hK6 => ?_)
  refine wp_reg ?_
  rw [wpl_cons, wp_move, eval_tmp, g3, wpl_cons, wp_move, eval_tmp, get_put_ne (by omega), r3, wpl_cons]
  refine wp_convert (k1 := .i32) (i := z) h21 h3 (by rw [eval_tmp, get_put_same (by simp only [size_put]; omega)]) ?_
  rw [wrap64 (by omega), wpl_cons]
  refine wp_calls hsp.enters (vs := #[.pointer (some ⟨rb, 0, none⟩), .int .i64 z]) (by simp only [List.map_toArray, List.map_cons, List.map_nil, eval_tmp]; rw [get_put_ne (by omega), get_put_ne (by omega), get_put_same (by omega), get_put_same (by simp only [size_put]; omega)]) (hsp.call w1 rb sb s z hr1) ?_
  rintro sv w2 ⟨ho, hr2, f2⟩
  rw [wpl_cons, wp_assign, eval_tmp, get_put_same (by simp only [size_put]; omega), wpl_nil]
  refine hK6 _ _ (wp_ret ?_)
  refine ⟨by simp only [defers_put]; exact hd3, _, results_one hres, _, rfl, ?_, hr2, f1.tr f2⟩
  rw [get_put_same (by simp only [size_put]; omega)]
  exact ⟨_, _, rfl, ho.kept (Fr.refl [] w2) (by simp) (fun b hb => .inl hb), rfl⟩
set_option maxRecDepth 10000 in
theorem cbytes_m {P : Program} {f : FuncId} {fn : Func} {et : TypeId}
    {T3 T22 T61 : TypeId}
    {f279 f287 : FuncId}
    {a0 : Array TypeId}
    {a1 : Array TypeId}
    {i0 i1 i2 i3 i4 : Nat}
    {t0 t1 t2 t3 t4 t5 t6 t7 t8 t9 t10 t11 t12 t13 : TypeId} {p0 p1 p2 p3 p4 p5 p6 p7 p8 p9 p10 p11 p12 p13 : String} {e0 e1 e2 e3 e4 e5 e6 e7 e8 e9 e10 e11 e12 e13 : Array Edge}
    (hf : P.funcs[f]? = some fn) (hname : (fn.name == "runtime.NumGoroutine") = false) (hres : fn.results = #[.tmp 2]) (hN : fn.ntmps = 14)
    (hbody : fn.body = some (.seq (Code.region i0 ⟨[⟨some 2, .assign (.const (.slice none 0 0)), t0, p0, e0, none⟩]⟩ false)
  (.seq (Code.region i1 ⟨[⟨some 4, .move (.tmp 0), t1, p1, e1, none⟩,
    ⟨some 5, .call ⟨.value (.func f287), #[(.tmp 4)], a0⟩, t2, p2, e2, none⟩,
    ⟨some 6, .convert T61 T3 (.tmp 5), t3, p3, e3, none⟩,
    ⟨some 7, .binOp .sub T3 (.tmp 6) (.const (.int .i64 1)) T3, t4, p4, e4, none⟩,
    ⟨some 3, .assign (.tmp 7), t5, p5, e5, none⟩]⟩ false)
  (.seq (.seq (Code.region i2 ⟨[⟨some 8, .move (.tmp 3), t6, p6, e6, none⟩,
    ⟨some 9, .binOp .eql T3 (.tmp 8) (.const (.int .i64 (-1))) T3, t7, p7, e7, none⟩]⟩ false)
  (.cond (.tmp 9) (.seq (Code.region i3 ⟨[⟨some 10, .buildSlice T22 0 #[], t8, p8, e8, none⟩,
    ⟨some 2, .assign (.tmp 10), t9, p9, e9, none⟩]⟩ false)
  .ret)
  .skip))
  (.seq (Code.region i4 ⟨[⟨some 11, .move (.tmp 0), t10, p10, e10, none⟩,
    ⟨some 12, .move (.tmp 3), t11, p11, e11, none⟩,
    ⟨some 13, .call ⟨.value (.func f279), #[(.tmp 11), (.tmp 12)], a1⟩, t12, p12, e12, none⟩,
    ⟨some 2, .assign (.tmp 13), t13, p13, e13, none⟩]⟩ false)
  .ret)))))
    (h3 : intOf P T3 .i64 = true) (h61 : intOf P T61 .u32 = true) (hu : MethV P f287 (.int .u32) gUv) (hsp : SpanM P f279) (h22 : sliceOf P T22 et 1 1 = true) : MethV P f .bytes gCBytes := by
  refine ⟨enters_of hf hname hbody, ?_⟩
  intro w rb sb st h
  generalize hg : gCBytes st = g
  unfold gCBytes at hg
  refine calls_of_wp hf hbody ?_
  generalize ha0 : ({ tmps := #[Value.pointer (some ⟨rb, 0, none⟩)] ++ Array.replicate (fn.ntmps - #[Value.pointer (some ⟨rb, 0, none⟩)].size) undef, defers := [] } : Act) = a0
  have hsz : a0.tmps.size = 14 := by subst ha0; simp [hN]
  have hd0 : a0.defers = [] := by subst ha0; rfl
  have g0 : get a0 0 = .pointer (some ⟨rb, 0, none⟩) := by subst ha0; exact get_args rfl
  clear ha0
  refine then_id (wp_seq_k fun K1 hK1 => ?_)
  refine r_const (m := 2) (by omega) (by omega) fun a1 k1 _ => hK1 a1 w (then_up ?_)
  have hz1 := k1.size
  have g1 : get a1 0 = .pointer (some ⟨rb, 0, none⟩) := by rw [k1.get 0 (by omega), g0]
  refine then_id (wp_seq_k fun K2 hK2 => ?_)
  refine wp_reg ?_
  rw [wpl_cons, wp_move, eval_tmp, g1, wpl_cons]
  refine wp_calls (R := fun x w' => x = .int .u32 ((rdUv st).1 : Int) ∧ RW w' rb sb (rdUv st).2 ∧ Fr [⟨rb, 0, 2⟩] w w') hu.enters (vs := #[.pointer (some ⟨rb, 0, none⟩)]) (by simp only [List.map_toArray, List.map_cons, List.map_nil, eval_tmp]; rw [get_put_same (by omega)])
    ((hu.call w rb sb st h).mono (by rintro e' w' ⟨x, rfl, h1, h2, h3⟩; exact ⟨_, rfl, h1.u32, h2, h3⟩)) ?_
  rintro _ w1 ⟨rfl, hr1, f1⟩
  have hlt := rdUv_lt st
  generalize (rdUv st).1 = x at *
  generalize (rdUv st).2 = s at *
  rw [wpl_cons]
  refine wp_convert (k1 := .u32) (i := (x : Int)) h61 h3 (by rw [eval_tmp, get_put_same (by simp only [size_put]; omega)]) ?_
  rw [wrap64 (by omega), wpl_cons]
  refine wp_sub (k1 := .i64) (i := (x : Int)) (j := 1) (by rw [eval_tmp, get_put_same (by simp only [size_put]; omega)]) rfl ?_
  rw [wrap64 (by omega), wpl_cons, wp_assign, eval_tmp, get_put_same (by simp only [size_put]; omega), wpl_nil]
  generalize hzz : (x : Int) - 1 = z at *
  have hb : -9223372036854775808 ≤ z ∧ z ≤ 9223372036854775807 := by omega
  generalize ha2 : ((((a1.put (some 4) (.pointer (some ⟨rb, 0, none⟩))).put (some 5) (.int .u32 (x : Int))).put (some 6) (.int .i64 (x : Int))).put (some 7) (.int .i64 z)).put (some 3) (.int .i64 z) = a2
  have k2 : Kept 2 a1 a2 := by subst ha2; exact ((((Kept.put0 (by omega) _).put (by omega) _).put (by omega) _).put (by omega) _).put (by omega) _
  have q3 : get a2 3 = .int .i64 z := by subst ha2; exact get_put_same (by simp only [size_put]; omega)
  clear ha2
  have hz2 := k2.size
  have g2 : get a2 0 = .pointer (some ⟨rb, 0, none⟩) := by rw [k2.get 0 (by omega), g1]
  have hd2 : a2.defers = [] := by rw [k2.defers, k1.defers, hd0]
  refine hK2 a2 w1 (then_up ?_)
  refine then_id (wp_seq_k fun K3 hK3 => ?_)
  refine wp_seq_k fun K4 hK4 => ?_
  refine wp_reg ?_
  rw [wpl_cons, wp_move, eval_tmp, q3, wpl_cons]
  refine wp_eql (k1 := .i64) (i := z) (j := -1) (by rw [eval_tmp, get_put_same (by omega)]) rfl ?_
  rw [wpl_nil]
  have k3 : Kept 4 a2 ((a2.put (some 8) (.int .i64 z)).put (some 9) (.bool (z == -1))) := (Kept.put0 (by omega) _).put (by omega) _
  have qc : get ((a2.put (some 8) (.int .i64 z)).put (some 9) (.bool (z == -1))) 9 = .bool (z == -1) := get_put_same (by simp only [size_put]; omega)
  generalize (a2.put (some 8) (.int .i64 z)).put (some 9) (.bool (z == -1)) = a3 at k3 qc ⊢
  have hz3 := k3.size
  have g3 : get a3 0 = .pointer (some ⟨rb, 0, none⟩) := by rw [k3.get 0 (by omega), g2]
  have r3 : get a3 3 = .int .i64 z := by rw [k3.get 3 (by omega), q3]
  have hd3 : a3.defers = [] := by rw [k3.defers, hd2]
  have sz1 := f1.size
  refine hK4 a3 w1 ?_
  refine wp_cond_split (t := (z == -1)) (by rw [eval_tmp, qc]) (fun hz => ?_) fun hz => wp_skip (hK3 a3 w1 (then_up ?_))
  · have hz : z = -1 := by simpa using hz
    rw [if_pos hz] at hg
    subst hg
    refine wp_seq_k fun K5 hK5 => ?_
    refine wp_reg ?_
    rw [wpl_cons]
    refine wp_slice00 h22 ?_
    rw [wpl_cons, wp_assign, eval_tmp, get_put_same (by omega), wpl_nil]
    have fa := Fr.alloc [] w1 (.cells #[] et)
    have sza := size_alloc w1 (.cells #[] et)
    generalize w1.alloc (.cells #[] et) = w2 at fa sza ⊢
    refine hK5 _ w2 (wp_ret ?_)
    refine ⟨by simp only [defers_put]; exact hd3, _, results_one hres, _, rfl, ?_, hr1.kept fa (by simp), f1.tr fa.nil⟩
    rw [get_put_same (by simp only [size_put]; omega)]
    exact ⟨_, some [], rfl, .inr ⟨w1.heap.size, 0, 0, [], .inr ⟨sz1, by omega⟩, rfl, ⟨by simp, by simp⟩, (by intro j u hj; simp [octets] at hj), rfl⟩, rfl⟩
  have hz : ¬ z = -1 := by simpa using hz
  rw [if_neg hz] at hg
  subst hg
  refine then_id (wp_seq_k fun K6 hK6 => ?_)
  refine wp_reg ?_
  rw [wpl_cons, wp_move, eval_tmp, g3, wpl_cons, wp_move, eval_tmp, get_put_ne (by omega), r3, wpl_cons]
  refine wp_calls hsp.enters (vs := #[.pointer (some ⟨rb, 0, none⟩), .int .i64 z]) (by simp only [List.map_toArray, List.map_cons, List.map_nil, eval_tmp]; rw [get_put_ne (by omega), get_put_same (by omega), get_put_same (by simp only [size_put]; omega)]) (hsp.call w1 rb sb s z hr1) ?_
  rintro sv w2 ⟨ho, hr2, f2⟩
  rw [wpl_cons, wp_assign, eval_tmp, get_put_same (by simp only [size_put]; omega), wpl_nil]
  refine hK6 _ _ (wp_ret ?_)
  refine ⟨by simp only [defers_put]; exact hd3, _, results_one hres, _, rfl, ?_, hr2, f1.tr f2⟩
  rw [get_put_same (by simp only [size_put]; omega)]
  exact ⟨_, _, rfl, ho.kept (Fr.refl [] w2) (by simp) (fun b hb => .inl hb), rfl⟩
end Go.Kq

/- sort.Slice of keys: out of the library's contract. -/
namespace Go.Kq
open Go Go.Proofs Go.Shelf

def ltN (x y : Nat) : Bool := decide (x < y)
theorem swo_ltN : Sort.SWO ltN where
  irrefl x := by simp [ltN]
  trans x y z h1 h2 := by simp only [ltN, decide_eq_true_eq] at *; omega
  ntrans x y z h1 h2 := by simp only [ltN, decide_eq_false_iff_not] at *; omega

theorem Fr.growth (w : World) (os : Array Obj) : Fr [] w (Sort.grow w os) where
  os := rfl
  tape := rfl
  output := rfl
  size := by rw [Sort.size_grow]; omega
  block k hk _ := Sort.heap_grow_old w os hk
  cells k cs T fz hk := ⟨cs, by rw [Sort.heap_grow_old w os (lt_of_block hk)]; exact hk, rfl, fun _ _ => rfl⟩
theorem Fr.drewN (w : World) (n : Nat) : Fr [] w (w.drewN n) where
  os := rfl
  tape := rfl
  output := rfl
  size := Nat.le_refl _
  block _ _ _ := rfl
  cells k cs T fz hk := ⟨cs, hk, rfl, fun _ _ => rfl⟩

/-- What the order of two keys says. -/
structure LessM (P : Program) (g : FuncId) : Prop where
  enters : Enters P g
  call : ∀ (W : World) (ob b o c n : Nat) (G : Nat → Nat), W.cell? ⟨ob, 0, none⟩ = some (.slice (some ⟨b, o, none⟩) n c) → (∀ t, t < n → W.cell? ⟨b, o + t, none⟩ = some (.int .u32 ((G t : Nat) : Int))) → ∀ i j : Nat, i < n → j < n →
    Calls P g #[.int .i64 (i : Int), .int .i64 (j : Int), .pointer (some ⟨ob, 0, none⟩)] W fun e w' => e = .returned (.bool (decide (G i < G j))) ∧ ∃ q, w' = W.drewN q

def encK (k : Nat) : Value := .int .u32 (k : Int)
theorem u32s_enc (ks : List Nat) : u32s ks = ks.map encK := rfl

theorem sort_m {P : Program} {ρ : Ren} (L : LaysGg.n6 P ρ) {t e : TypeId} {i ie : TypeInfo} {fs g f2 f6 : FuncId} (hfs : ρ.f 6 = fs) (he : Enters P fs)
    (hi : P.info? t = some i) (hd : i.desc = .slice e) (hpk : P.packed t = false) (hie : P.info? e = some ie) (hke : ∀ w, (Extern.Rtype.kind e).run P w = .ok 10 w) (hs1 : ie.size = 1) (hp : ie.hasPointers = false) (hb : ie.bytes = 4) (hagg : ∀ w, (isAgg e).run P w = .ok false w)
    (hf2 : P.funcs.findIdx? (·.name == "internal/reflectlite" ++ ".Swapper$" ++ toString 2) = some f2) (hf6 : P.funcs.findIdx? (·.name == "internal/reflectlite" ++ ".Swapper$" ++ toString 6) = some f6)
    (gS : Bool) (hx : ∀ args W, (callFunc f6 args).run P W = ((Extern.ReflectliteSwapper.swap gS args).run P W).andThen fun v w' => .ok (.value v) w')
    (hl : LessM P g) : SortM P t fs g := by
  refine ⟨he, ?_⟩
  intro w ob b o c ks hcell hr hth hne h32 hlen hks
  subst hfs
  have hpos : 0 < ks.length := List.length_pos_iff.2 hks
  have hblk : b < w.heap.size := by
    have := hr 0 (.int .u32 (ks[0] : Nat)) (by simp [u32s, hpos])
    exact lt_of_cell this
  have hH : Sort.Holds encK w b o ks.toArray := by
    intro j hj
    have hj' : j < ks.length := by simpa using hj
    refine ⟨?_, (hth j hj').2⟩
    have := hr j (.int .u32 (ks[j] : Nat)) (by simp [u32s, hj'])
    rw [this]; simp [encK, hj']
  by_cases h2 : 2 ≤ ks.length
  · have hK : Lib.swapperK ks.toArray.size ie 10 = 6 := by
      have c1 : (ks.toArray.size == 0) = false := by simp; omega
      have c2 : (ks.toArray.size == 1) = false := by simp; omega
      simp only [Lib.swapperK, c1, c2, hp, hb, Bool.false_and, Bool.false_eq_true, if_false]
    have hless : LessReads P g #[.pointer (some ⟨ob, 0, none⟩)] encK ltN b o ks.toArray.size w := by
      intro m os dk hs i j hi hj
      have e1 : sortWorld encK w b o m dk os = Sort.putRow encK (Sort.grow (Sort.ahead w m) os) b o dk := by
        unfold sortWorld; rw [Sort.putRow_grow _ (Sort.ahead w m) _ b o _ hblk]
      have hHg : Sort.Holds encK (Sort.grow (Sort.ahead w m) os) b o ks.toArray := Sort.holds_grow _ _ _ b o _ hblk (Sort.holds_ahead _ _ _ _ _ _ hH)
      rw [show (#[Value.int .i64 (i : Int), Value.int .i64 (j : Int)] ++ #[Value.pointer (some ⟨ob, 0, none⟩)]) = #[Value.int .i64 (i : Int), Value.int .i64 (j : Int), Value.pointer (some ⟨ob, 0, none⟩)] from by simp]
      refine hl.call _ ob b o c ks.toArray.size (fun t => dk[t]!) ?_ (fun t ht => ?_) i j hi hj
      · rw [e1, Sort.cell?_putRow_other _ _ b o dk _ (Or.inl hne), Sort.cell?_grow _ _ _ (lt_of_cell hcell)]
        show w.cell? _ = _
        rw [hcell]; simp
      · rw [e1]; exact Sort.cell?_putRow _ _ b o ks.toArray dk hHg hs t (by omega)
    have hS := Any.sort_Slice_sorted L t e i ie hi hd hpk hie 10 hke hs1 hagg encK (fun _ => rfl) ltN swo_ltN g #[.pointer (some ⟨ob, 0, none⟩)] hl.enters b o c ks.toArray (by simpa using h2) (by simp; omega) f6 (by rw [hK]; exact hf6) gS hx w hless hH hblk
    have hsz : ks.toArray.size = ks.length := by simp
    rw [hsz] at hS
    refine hS.mono ?_
    rintro e w' ⟨rfl, d', n, os, hpm, hso, rfl⟩
    obtain ⟨p1, _, p3⟩ := hpm
    have p1' : d'.size = ks.length := by rw [p1, hsz]
    have hperm : d'.toList.Perm ks := by
      have e1 : d'.extract 0 ks.length = d' := by rw [← p1']; simp
      have e2 : ks.toArray.extract 0 ks.length = ks.toArray := by rw [← hsz]; simp
      rw [e1, e2] at p3
      simpa using p3
    have hw : Sort.grow (Sort.putRow encK (Sort.ahead w n) b o d') os = Sort.grow ((w.drewN n).setCells b o (u32s d'.toList)) os := by
      have := Lib.sorted_world encK w b o n ks.toArray d'.toList os hH (by rw [Array.length_toList, p1])
      rw [Array.toArray_toList] at this
      rw [this, u32s_enc]
    rw [hw]
    have f1 := Fr.drewN w n
    have f2 := Fr.sets b (u32s d'.toList) (w.drewN n) o
    have hul : (u32s d'.toList).length = ks.length := by simp [u32s, p1']
    have r2 := World.rangeAt_setCells_same (w.drewN n) b o (u32s d'.toList) (by rw [hul]; exact f1.there hth)
    generalize (w.drewN n).setCells b o (u32s d'.toList) = w2 at f2 r2 ⊢
    have f3 := Fr.growth w2 os
    refine ⟨⟨_, rfl⟩, d'.toList, hperm, ?_, f3.range r2 .nil, ?_⟩
    · rw [List.pairwise_iff_getElem]
      intro i j hi hj hij
      have hi' : i < d'.size := by simpa using hi
      have hj' : j < d'.size := by simpa using hj
      have := hso i j (Nat.zero_le _) hij (by omega)
      simp only [ltN, decide_eq_false_iff_not, getElem!_pos d' i hi', getElem!_pos d' j hj'] at this
      simp only [Array.getElem_toList]; omega
    · refine (f1.nil (l := [⟨b, o, o + ks.length⟩])).tr (Fr.tr (b := w2) ?_ (f3.nil))
      rw [hul] at f2; exact f2
  · have h1 : ks.length = 1 := by omega
    have hK : Lib.swapperK ks.length ie 10 = 2 := by rw [h1]; rfl
    refine (Any.sort_Slice_tiny L t e i ie hi hd hpk hie 10 hke (some ⟨b, o, none⟩) ks.length c (by omega) f2 (by rw [hK]; exact hf2) (.func g) #[] #[.pointer (some ⟨ob, 0, none⟩)] w).mono ?_
    rintro e w' ⟨rfl, os, rfl⟩
    have f3 := Fr.growth w os
    refine ⟨⟨_, rfl⟩, ks, List.Perm.refl _, ?_, f3.range hr .nil, f3.nil⟩
    obtain ⟨k, rfl⟩ := List.length_eq_one_iff.1 h1
    simp
end Go.Kq
