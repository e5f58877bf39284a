/- A part of the library: rules of reasoning about the program's operations and what its shared functions do. -/
import Derived.Test.YtkdlpnbonlnffaaGreatKqP05
import Derived.Test.YtkdlpnbonlnffaaGreatKqP01
import Derived.Test.YtkdlpnbonlnffaaGreatKqP03
import Derived.Test.YtkdlpnbonlnffaaGreatKqP04
import Derived.Test.YtkdlpnbonlnffaaGreatKqP02
import Derived.Lib.SortBridge
import Derived.Sort.LotA
import Derived.Shelf.GgSortFunc.Whole
import Derived.Shelf.GgSortFunc.Tiny
set_option linter.unusedVariables false
set_option linter.unusedSimpArgs false
namespace Go.Kq
open Go Go.Proofs
structure ApUu (P : Program) (f : FuncId) : Prop where
  enters : Enters P f
  call : ∀ (w : World) (A : Nat → Prop) (dst : Value) (xs l : List UInt8), Own w A 1 dst xs.length (octets xs) → l.length = 16 → (xs ++ l).length ≤ 4294967296 → Calls P f #[dst, .agg (octets l).toArray] w (Apd w A dst (xs ++ l))
theorem ap_uuid {P : Program} {f : FuncId} {fn : Func} {T22 TU te : TypeId} {i0 i1 : Nat} {t0 t1 t2 t3 t4 t5 : TypeId} {p0 p1 p2 p3 p4 p5 : String} {e0 e1 e2 e3 e4 e5 : Array Edge}
    (hf : P.funcs[f]? = some fn) (hname : (fn.name == "runtime.NumGoroutine") = false) (hres : fn.results = #[.tmp 4]) (hN : fn.ntmps = 8)
    (hbody : fn.body = some (.seq (Code.region i0 ⟨[⟨some 3, .box TU (.tmp 1), t0, p0, e0, none⟩, oA 4 (.const (.slice none 0 0)) t1 p1 e1]⟩ false) (.seq (Code.region i1 ⟨[oM 5 0 t2 p2 e2, ⟨some 6, .slice TU (.tmp 3) none none none, t3, p3, e3, none⟩, ⟨some 7, .call ⟨.builtin .append, #[(.tmp 5), (.tmp 6)], #[T22, T22]⟩, t4, p4, e4, none⟩, oT 4 7 t5 p5 e5]⟩ false) .ret)))
    (hT : RowT P TU zU) (hs_T22 : sliceOf P T22 te 1 1 = true) (hz_T22 : zeroIs P te [.int .u8 0]) : ApUu P f := by
  refine ⟨enters_of hf hname hbody, ?_⟩;intro w A dst xs l own hl hb;refine calls_of_wp hf hbody ?_;generalize ha0 : ({ tmps := #[dst, Value.agg (octets l).toArray] ++ Array.replicate (fn.ntmps - (#[dst, Value.agg (octets l).toArray] : Array Value).size) undef, defers := [] } : Act) = a0;have hz0 : a0.tmps.size = 8 := by subst ha0; simp [hN]
  have hd0 : a0.defers = [] := by subst ha0; rfl
  have g0_0 : get a0 0 = dst := by subst ha0; exact gAr rfl
  have g0_1 : get a0 1 = .agg (octets l).toArray := by subst ha0; exact gAr rfl
  refine wT fun K1 hK1 => ?_;refine wC (wp_box (v := .agg (octets l).toArray) (eK g0_1) ?_);have hr := range_new w (octets l).toArray TU (0, 0);have f1 : Fr [] w (w.alloc (.cells (Value.agg (octets l).toArray).cells TU)) := Fr.alloc _ _ _;have hr : (w.alloc (.cells (Value.agg (octets l).toArray).cells TU)).rangeAt w.heap.size 0 (octets l) := by simp only [List.toList_toArray] at hr; exact hr
  have sz1 := size_alloc w (.cells (Value.agg (octets l).toArray).cells TU);generalize w.alloc (.cells (Value.agg (octets l).toArray).cells TU) = w1 at f1 hr sz1 ⊢;refine wC (wAs (v := .slice none 0 0) rfl ?_);refine wEk hz0 hd0 fun a2 ha2 hz2 hd2 => ?_;have g2_0 := kP ha2 g0_0;have g2_3 : get a2 3 = .pointer (some ⟨w.heap.size, 0, none⟩) := kG ha2 hz0;refine hK1 a2 w1 (tUp ?_);refine wT fun K3 hK3 => ?_;refine wC (wMv (v := dst) (eK g2_0) ?_);refine wC (wp_sliceRow hT (b := w.heap.size) (o := 0) (eK g2_3) (by simp [zU, uuid0, octets]) ?_);rw [wCo];have hzl : zU.length = l.length := by rw [hl]; rfl
  have hoc : OctE w1 (fun b => b = w.heap.size) (.slice (some ⟨w.heap.size, 0, none⟩) zU.length zU.length) l := by
    rw [hzl];exact .inl ⟨some l, .inr ⟨w.heap.size, 0, l.length, l, rfl, rfl, ⟨Nat.le_refl _, by omega⟩, hr, rfl⟩, rfl⟩
  have own1 : Own w1 (fun b => A b ∨ (w.heap.size ≤ b ∧ b < w1.heap.size)) 1 dst xs.length (octets xs) := own.kept f1 (by simp) (fun b hb => .inl hb);refine wp_appA (xs := xs) (ys := l) hs_T22 hz_T22 (eS hz2) (eS hz2) own1 hoc (by rw [List.length_append] at hb; omega) ?_;intro v8 w8 ha8;obtain ⟨_, hv8, f8, ho8, hi8⟩ := ha8 _ rfl
  cases hv8
  refine wC (wAs (v := v8) (eS hz2) ?_);refine wEn fun a10 ha10 => ?_;have hd10 := kD ha10 hd2;have g10_4 : get a10 4 = v8 := kG ha10 hz2;refine hK3 a10 w8 (tUp ?_);refine wp_ret ?_;have h9 : Fr (spare dst 1) w w8 := (f1.nil (l := spare dst 1)).trans f8 fun r hr => Rng.in_self hr;exact ⟨hd10, _, rIs hres g10_4, _, rfl, h9, ho8.imp_A (own_or f1.size f8.size), fun r hr => Rng.in_trans (hi8 r hr) (fun x hx => Rng.in_self hx) f1.size⟩
section
variable {P : Program} {N : Nat} {e : AE} {c : Ctx} {k : Code} {ys : List UInt8} {g : V → List UInt8} {id n s L fi o pb po : Nat} {t0 t1 t2 t3 t4 : TypeId} {p0 p1 p2 p3 p4 : String} {e0 e1 e2 e3 e4 : Array Edge}
theorem ASt.rng {xs : List UInt8} {v : Value} {w : World} {b o : Nat} {cs : List Value} (h : ASt e xs v w) (hB : e.B b) (hc : e.w0.rangeAt b o cs) : w.rangeAt b o cs := by
  intro i u hi;exact h.cell hB (hc i u hi)
theorem ASt.fresh {xs : List UInt8} {v : Value} {w w' : World} (h : ASt e xs v w) (f : Fr [] w w') : ASt e xs v w' :=
  ⟨h.ok, h.fr.trans f (by simp), h.own.kept f (by simp) (fun b hb => hb.imp id fun q => ⟨q.1, Nat.lt_of_lt_of_le q.2 f.size⟩), h.inn⟩
theorem af_uuid {TU S : TypeId} {f : FuncId} {ats : Array TypeId} {id2 n2 : Nat} {t5 t6 t7 t8 t9 : TypeId} {p5 p6 p7 p8 p9 : String} {e5 e6 e7 e8 e9 : Array Edge} (hf : ApUu P f) (hs : (s, Value.pointer (some ⟨pb, po, none⟩)) ∈ c) (hF : fieldOf P S fi o = true) (hT : RowT P TU zU) (hB : e.B pb)
    (hb : (c.free n [L, 1] && c.free n2 [L, 1] && decide (L < n) && decide (1 < n) && decide (n + 3 < N) && decide (L ≠ 1) && decide (L < n2) && decide (1 < n2) && decide (n2 + 2 < N)) = true) {x : V} (hx : FA e pb (po + o) .uuid x) :
    ApC P N e c (.seq (Code.region id ⟨[oM n s t0 p0 e0, ⟨some (n + 1), .nilCheck (.tmp n), t1, p1, e1, none⟩, oF (n + 2) S (n + 1) fi t2 p2 e2, oL (n + 3) TU (n + 2) t3 p3 e3, ⟨some L, .alloc TU, t4, p4, e4, none⟩, oS TU L (n + 3) t5 p5 e5]⟩ false)
      (Code.region id2 ⟨[oM n2 1 t6 p6 e6, oL (n2 + 1) TU L t7 p7 e7, oC (n2 + 2) f #[.tmp n2, .tmp (n2 + 1)] ats t8 p8 e8, oT 1 (n2 + 2) t9 p9 e9]⟩ false)) (apUuid x) := by
  obtain ⟨cs, hcs, l, hl, rfl, rfl⟩ := hx;intro K Q a w v xs hN hd hc hv hst hbd hK;simp only [Bool.and_eq_true, decide_eq_true_eq] at hb;obtain ⟨⟨⟨⟨⟨⟨⟨⟨b1, b1'⟩, b2⟩, b3⟩, b4⟩, b5⟩, b6⟩, b7⟩, b8⟩ := hb;have hzl : (octets l).length = zU.length := by rw [lOc, hl]; rfl
  refine wS fun K1 hK1 => ?_;refine wC (wMv (v := .pointer (some ⟨pb, po, none⟩)) (by rw [eTm]; exact hc _ hs) ?_);refine wC (wNc (q := ⟨pb, po, none⟩) (by rw [eTm, gQ]) ?_);refine wC (wFa hF (b := pb) (i := po) (by rw [eTm, gQ]) ?_);refine wC (wp_loadRow hT (cs := octets l) hzl (by rw [eTm, gQ]) (hst.rng hB hcs) ?_);refine wC (wp_alloc hT.zero ?_);have f1 : Fr [] w (w.alloc (.cells (Value.agg zU.toArray).cells TU)) := Fr.alloc _ _ _;have th1 : (w.alloc (.cells (Value.agg zU.toArray).cells TU)).there w.heap.size 0 zU.length := there_new w zU.toArray TU;have sz1 := size_alloc w (.cells (Value.agg zU.toArray).cells TU);generalize w.alloc (.cells (Value.agg zU.toArray).cells TU) = w1 at f1 th1 sz1 ⊢;rw [wCo];refine wp_storeRow hT (cs := octets l) (b := w.heap.size) (o := 0) hzl (by rw [eTm, gQ]) (by rw [eTm, gR, gQ]) (by
    intro u hu;simp only [octets, List.mem_map] at hu;obtain ⟨_, _, rfl⟩ := hu
    rfl) (by rw [hzl]; exact th1) ?_
  rw [pNo, wNi];have f2 := Fr.sets w.heap.size (octets l) w1 0;have r2 := World.rangeAt_setCells_same w1 w.heap.size 0 (octets l) (by rw [hzl]; exact th1);generalize w1.setCells w.heap.size 0 (octets l) = w2 at f2 r2 ⊢;have hF2 : Fr [] w w2 := f1.trans f2 (by intro r hr; simp at hr; subst hr; exact .inl (Nat.le_refl _));have hst2 := hst.fresh hF2;refine hK1 _ w2 ?_;refine wp_reg ?_;refine wC (wMv (v := v) (by rw [eTm, gPn b5, gR, gR, gR, gR]; exact hv) ?_);refine wC (wp_loadRow hT (cs := octets l) (b := w.heap.size) (o := 0) hzl (by rw [eTm, gR, gQ]) r2 ?_);refine wC (wCr (vs := #[v, .agg (octets l).toArray]) hf.enters (by simp only [List.map_toArray, List.map_cons, List.map_nil, eTm]; rw [gR, gQ, gQ]) (Apd.ret (hf.call w2 _ v xs l hst2.own hl (by have : (apUuid (.s l)) = l := rfl; rw [this] at hbd; omega))) ?_);intro v' w' hr;refine wC (wAs (v := v') (by rw [eTm, gQ]) ?_);rw [wNi];have c1 := Ctx.on_put (v := .pointer (some ⟨w.heap.size, 0, none⟩)) (Ctx.on_put (v := .agg (octets l).toArray) (Ctx.on_put (v := .pointer (some ⟨pb, po + o, none⟩)) (Ctx.on_put (v := .pointer (some ⟨pb, po, none⟩)) (Ctx.on_put (v := .pointer (some ⟨pb, po, none⟩)) hc b1 (.inl (Nat.le_refl n))) b1 (.inl (show n ≤ n + 1 by omega))) b1 (.inl (show n ≤ n + 2 by omega))) b1 (.inl (show n ≤ n + 3 by omega))) b1 (.inr (show L ∈ [L, 1] by simp));exact ApC.done (c := c) (by simp only [sPu]; exact hN) (by simp only [dPu]; exact hd) (Ctx.on_put (Ctx.on_put (Ctx.on_put (Ctx.on_put c1 b1' (.inl (by omega))) b1' (.inl (by omega))) b1' (.inl (by omega))) b1' (.inr (by simp))) (gQ) hst2 hK hr
end
theorem fat_uuid : Fat .uuid apUuid := by
  rintro w A cs x ⟨l, hl, _, rfl⟩;show 1 ≤ l.length
  omega
end Go.Kq

namespace Go.Kq
open Go Go.Proofs
def okN : Nat → List Fd → Bool
  | 0, fs => fs.all fun fd => decide (fd.tag < 4294967295) && decide (fd.kind ≠ 10) && decide (fd.kind ≠ 11)
  | k + 1, fs => fs.all fun fd => decide (fd.tag < 4294967295) && decide (fd.kind = 11 → fd.of ≠ 11) && okN k fd.sub
end Go.Kq

namespace Go.Kq
open Go Go.Proofs
def fitN : Nat → Fd → Int → T → T
  | 0, fd => fitK (fun _ t => t) (fun _ t => t) fd
  | k + 1, fd => fitK (fun ver t => .mk 0 [] false (fitL (fitN k) fd.sub ver t.l 0) (unksW fd.sub t)) (fitK (fun ver t => .mk 0 [] false (fitL (fitN k) fd.sub ver t.l 0) (unksW fd.sub t)) (fun _ t => t) (oneF fd)) fd
def fitT (k : Nat) (fs : List Fd) (ver : Int) (t : T) : T := .mk 0 [] false (fitL (fitN k) fs ver t.l 0) (unksW fs t)
theorem fit_all {P : Program} {fT ff : FuncId} (hF : ∀ (fd : Fd) (gS gO : Int → T → T), (fd.kind = 10 → FitTM P fT fd.sub gS) → (fd.kind = 11 → FitFM P ff (oneF fd) gO) → FitFM P ff fd (fitK gS gO fd))
    (hT : ∀ (fs : List Fd) (g : Fd → Int → T → T), (∀ f ∈ fs, f.tag < 4294967295) → (∀ fd ∈ fs, FitFM P ff fd (g fd)) → FitTM P fT fs (fun ver t => .mk 0 [] false (fitL g fs ver t.l 0) (unksW fs t))) :
    ∀ (k : Nat) (fs : List Fd), okN k fs = true → FitTM P fT fs (fitT k fs)
  | 0, fs, h => by
    have h' : ∀ fd ∈ fs, fd.tag < 4294967295 ∧ fd.kind ≠ 10 ∧ fd.kind ≠ 11 := by
      intro fd hfd;have := List.all_eq_true.1 h fd hfd;simp only [Bool.and_eq_true, decide_eq_true_eq] at this;exact ⟨this.1.1, this.1.2, this.2⟩
    exact hT fs _ (fun fd hfd => (h' fd hfd).1) fun fd hfd => hF fd _ _ (fun h => absurd h (h' fd hfd).2.1) (fun h => absurd h (h' fd hfd).2.2)
  | k + 1, fs, h => by
    have h' : ∀ fd ∈ fs, fd.tag < 4294967295 ∧ (fd.kind = 11 → fd.of ≠ 11) ∧ okN k fd.sub = true := by
      intro fd hfd;have := List.all_eq_true.1 h fd hfd;simp only [Bool.and_eq_true, decide_eq_true_eq] at this;exact ⟨this.1.1, this.1.2, this.2⟩
    refine hT fs _ (fun fd hfd => (h' fd hfd).1) fun fd hfd => ?_;obtain ⟨_, h2, h3⟩ := h' fd hfd;have ih := fit_all hF hT k fd.sub h3;exact hF fd _ _ (fun _ => ih) fun h11 => hF (oneF fd) _ _ (fun _ => ih) (fun h => absurd h (h2 h11))
end Go.Kq

namespace Go.Kq
open Go Go.Proofs
def Rch (B : Nat → Prop) (pb : Nat) (w : World) (b : Nat) : Prop := B b ∨ (pb < b ∧ b < w.heap.size)
theorem Rch.mono {B : Nat → Prop} {pb b : Nat} {w w' : World} (h : Rch B pb w b) (hs : w.heap.size ≤ w'.heap.size) : Rch B pb w' b := h.imp id fun h => ⟨h.1, by omega⟩
theorem Rch.self {B : Nat → Prop} {pb : Nat} {w : World} (h : Rch B pb w pb) (hB : ∀ b, B b → b < pb) : False := by
  rcases h with h | h
  · have := hB _ h; omega
  omega
structure FSt (N sv sb se : Nat) (ev : Value) (pb tb : Nat) (B : Nat → Prop) (ct : List Value) (t : T) (tys : List Ty) (a : Act) (w : World) (xs : List V) : Prop where
  sz : a.tmps.size = N
  df : a.defers = []
  gv : get a sv = .pointer (some ⟨pb, 0, none⟩)
  gb : get a sb = .pointer (some ⟨tb, 0, none⟩)
  ge : get a se = ev
  tr : w.rangeAt tb 0 ct
  rt : RepT w B ct t
  pt : pb ≠ tb
  bp : ∀ b, B b → b < pb
  cs : ∃ z, w.rangeAt pb 0 z ∧ w.there pb 0 z.length ∧ Reps w (Rch B pb w) tys z xs
def FRun (P : Program) (N sv sb se : Nat) (c : Code) (tys : List Ty) (R : T → List V → List V → Prop) : Prop :=
  ∀ (ev : Value) (pb tb : Nat) (B : Nat → Prop) (ct : List Value) (t : T) (K : Act → World → Prop) (Q : Exit → Act → World → Prop) (a : Act) (w : World) (xs : List V), FSt N sv sb se ev pb tb B ct t tys a w xs →
    (∀ a' w' xs', R t xs xs' → FSt N sv sb se ev pb tb B ct t tys a' w' xs' → Fr [⟨pb, 0, Ty.sizes tys⟩] w w' → K a' w') → c.wp P (Exit.then K Q) a w
def MidOk (P : Program) (N n r : Nat) (mid : List Oper) (ty : Ty) (g : T → V) : Prop :=
  ∀ (pb : Nat) (B : Nat → Prop) (Q : Exit → Act → World → Prop) (a : Act) (w : World) (cs : List Value) (x : T) (rest : List Oper), a.tmps.size = N → get a (n + 2) = .agg cs.toArray → RepT w B cs x → (∀ b, B b → b < pb) → pb < w.heap.size →
    (∀ a' w' v, Kept (n + 3) a a' → get a' r = v → v.oneCell' = true → Fr [] w w' → Rep w' (Rch B pb w') ty [v] (g x) → wpl P Q rest a' w') → wpl P Q (mid ++ rest) a w
theorem repT_n {w : World} {A : Nat → Prop} {cs : List Value} {t : T} (h : RepT w A cs t) : cs[0]? = some (.int .i64 t.n) ∧ -9223372036854775808 ≤ t.n ∧ t.n ≤ 9223372036854775807 := by
  cases t with
  | mk n s nl l u => obtain ⟨_, _, _, rfl, h, _⟩ := repT_iff.1 h; exact ⟨rfl, h⟩
theorem wrap_le (k : IntKind) (i : Int) (h : fits64 k = true) : k.min ≤ k.wrap i ∧ k.wrap i ≤ k.max := by
  cases k <;> simp [fits64, IntKind.min, IntKind.max, IntKind.wrap, IntKind.signed, IntKind.bits] at h ⊢ <;> (try split) <;> omega
theorem unguarded_app : ∀ {l l' : List Oper}, unguarded l = true → unguarded l' = true → unguarded (l ++ l') = true
  | [], _, _, h => h
  | o :: os, l', h, h' => by
    simp only [unguarded, Bool.and_eq_true, List.cons_append] at h ⊢;exact ⟨h.1, unguarded_app h.2 h'⟩
theorem fr_gen {P : Program} {N sv sb se n r i j k q idr : Nat} {TT S TK : TypeId} {fat : FuncId} {mid : List Oper} {ty : Ty} {tys : List Ty} {g : T → V} {ats : Array TypeId} {o : Nat}
    {t0 t1 t2 t3 t4 t5 : TypeId} {p0 p1 p2 p3 p4 p5 : String} {e0 e1 e2 e3 e4 e5 : Array Edge}
    (hm : MidOk P N n r mid ty g) (hu : unguarded mid = true) (hT : Flat P TT zT) (hAt : AtM P fat) (hF : fieldOf P S k o = true) (hs : scal P TK = true) (hj : tys[j]? = some ty) (h1 : ty.size = 1) (ho : o = Ty.sizes (tys.take j)) (hq : q = n + 3 + mid.length)
    (hb : (decide (se < n) && decide (sv < n) && decide (sb < n) && decide (n + 2 < r + 1) && decide (r < q) && decide (q + 1 < N)) = true) :
    FRun P N sv sb se (Code.region idr ⟨[oM n sv t0 p0 e0, oL (n + 1) TT sb t1 p1 e1, oC (n + 2) fat #[.tmp (n + 1), .const (.int .i64 i)] ats t2 p2 e2] ++ (mid ++
      [⟨some q, .nilCheck (.tmp n), t3, p3, e3, none⟩, oF (q + 1) S q k t4 p4 e4, oS TK (q + 1) r t5 p5 e5])⟩ false) tys (fun t xs ys => ys = xs.set j (g (atT t.l i))) := by
  intro ev pb tb B ct t K Q a w xs st hK;simp only [Bool.and_eq_true, decide_eq_true_eq] at hb;obtain ⟨⟨⟨⟨⟨b2e, b1⟩, b2⟩, b3⟩, b4⟩, b5⟩ := hb;have hN := st.sz;obtain ⟨z, hz, hth, hrep⟩ := st.cs;have hlt := hrep.setLt hj h1;have hpw : pb < w.heap.size := there_lt hth (by omega);have hpw0 : pb ≠ tb := st.pt;refine wp_reg ?_ (unguarded_app rfl (unguarded_app hu rfl));show wpl P _ (_ :: _ :: _ :: (mid ++ _)) a w
  rw [wCo, wMw, eTm, st.gv, wCo];refine wp_loadFlat hT (by rw [st.rt.length]; rfl) (by rw [eTm, gR, st.gb]) st.tr ?_;rw [wCo];refine wp_calls (R := fun v w' => ∃ cs : List Value, v = .agg cs.toArray ∧ Fr [] w w' ∧ RepT w' B cs (atT t.l i)) hAt.enters (vs := #[.agg ct.toArray, .int .i64 i])
    (by simp only [List.map_toArray, List.map_cons, List.map_nil, eTm, eCo]; rw [gQ])
    ((hAt.call w B ct t i st.rt).mono (by rintro e' w' ⟨cs, rfl, h1, h2⟩; exact ⟨_, rfl, cs, rfl, h1, h2 (fun b hb => by have := st.bp b hb; omega)⟩)) ?_
  rintro _ w1 ⟨cs, rfl, f1, hcs⟩;have sz1 := f1.size;refine hm pb B _ _ w1 cs (atT t.l i) _ (by simp only [sPu]; exact hN) (gQ) hcs st.bp (by omega) ?_;intro a2 w2 v k2 g2 hv1 f2 hv;have sz2 := f2.size;have kk : Kept n a a2 := (((Kept.put0 (Nat.le_refl _) _).put (by omega) _).put (by omega) _).trans (k2.mono (by omega));have gn : get a2 n = .pointer (some ⟨pb, 0, none⟩) := by
    rw [k2.get n (by omega), gR, gR, gQ]
  have hN2 : a2.tmps.size = N := kk.size.trans hN;have f02 : Fr [] w w2 := f1.tr f2;refine wC (wNc (q := ⟨pb, 0, none⟩) (by rw [eTm, gn]) ?_);refine wC (wFa (b := pb) (i := 0) hF (by rw [eTm, gQ]) ?_);rw [wCo];subst ho;refine wp_store hs (b := pb) (o := 0 + Ty.sizes (tys.take j)) (v := v) (by rw [eTm, gQ]) (by rw [eTm, gR, gR, g2]) hv1 (there_part (f02.there hth) (by omega) (by omega)) ?_;rw [pNo, wNi];have f3 := Fr.set w2 pb (0 + Ty.sizes (tys.take j)) v;have rg := range_setAt (v := v) (f02.range hz .nil) (f02.there hth) hlt;have hr2 : Reps w2 (Rch B pb w2) tys z xs := hrep.kept f02 (by simp) (fun b hb => hb.mono (by omega));have hr' := (hr2.set hj h1 hv).kept f3 (A' := Rch B pb (w2.setCell ⟨pb, 0 + Ty.sizes (tys.take j), none⟩ v)) (by intro r hr hA; simp at hr; subst hr; exact hA.self st.bp) (fun b hb => hb.mono f3.size);have hzl : z.length = Ty.sizes tys := hrep.length;have sz3 := f3.size;generalize w2.setCell ⟨pb, 0 + Ty.sizes (tys.take j), none⟩ v = w3 at f3 rg hr' sz3 ⊢;have k3 : Kept n a ((a2.put (some q) (.pointer (some ⟨pb, 0, none⟩))).put (some (q + 1)) (.pointer (some ⟨pb, 0 + Ty.sizes (tys.take j), none⟩))) := (kk.put (by omega) _).put (by omega) _;refine hK _ w3 _ rfl ⟨k3.size.trans hN, k3.defers.trans st.df, (k3.get sv b1).trans st.gv, (k3.get sb b2).trans st.gb, (k3.get se b2e).trans st.ge, ?_, ?_, st.pt, st.bp, _, rg, ?_, hr'⟩ ?_
  · exact f3.range (f02.range st.tr .nil) (.cons (.inl hpw0) .nil)
  · exact (st.rt.kept f02 (by simp) (fun _ h => h)).kept f3 (by intro r hr hA; simp at hr; subst hr; have := st.bp _ hA; simp only at this; omega) (fun _ h => h)
  · rw [List.length_set]; exact f3.there (f02.there hth)
  refine Fr.trans (l := [⟨pb, 0, Ty.sizes tys⟩]) (f02.mono (by simp)) f3 ?_;intro r hr; simp at hr; subst hr;exact .inr ⟨_, List.mem_singleton.2 rfl, rfl, by simp, by simp only; omega⟩
section
variable {P : Program} {N n : Nat} {TT TI TK : TypeId} {t0 t1 : TypeId} {p0 p1 : String} {e0 e1 : Array Edge} {ats : Array TypeId}
theorem mid_num {kd : IntKind} (hi : fldInt P TT 0 = true) (ho : fieldOf P TT 0 0 = true) (h1 : intOf P TI .i64 = true) (h2 : intOf P TK kd = true) (hk : fits64 kd = true) (hb : (decide (n + 4 < N)) = true) :
    MidOk P N n (n + 4) [⟨some (n + 3), .field TT (.tmp (n + 2)) 0, t0, p0, e0, none⟩, ⟨some (n + 4), .convert TI TK (.tmp (n + 3)), t1, p1, e1, none⟩] (.int kd) (fun x => .n (kd.wrap x.n)) := by
  intro pb B Q a w cs x rest hN hg hr hBp hp hK;have hb := of_decide_eq_true hb;obtain ⟨h0, h3, h4⟩ := repT_n hr;show wpl P Q (_ :: _ :: rest) a w
  refine wC (wp_fieldT hi ho (by rw [eTm]; exact hg) h0 ?_);refine wC (wCv h1 h2 (by rw [eTm, gQ]) ?_);have := wrap_le kd x.n hk;exact hK _ w (.int kd (kd.wrap x.n)) ((Kept.put0 (by omega) _).put (by omega) _) (gQ) rfl (Fr.refl _ _) ⟨_, rfl, rfl, this.1, this.2⟩
structure MkF (P : Program) (f : FuncId) (ty : Ty) (g : T → V) : Prop where
  enters : Enters P f
  call : ∀ (w : World) (pb : Nat) (B : Nat → Prop) (cs : List Value) (x : T), RepT w B cs x → (∀ b, B b → b < pb) → pb < w.heap.size → Calls P f #[.agg cs.toArray] w fun e w' => ∃ v, e = .returned v ∧ v.oneCell' = true ∧ Fr [] w w' ∧ Rep w' (Rch B pb w') ty [v] (g x)
theorem mid_fn {f : FuncId} {ty : Ty} {g : T → V} (h : MkF P f ty g) (hb : (decide (n + 3 < N)) = true) :
    MidOk P N n (n + 3) [oC (n + 3) f #[.tmp (n + 2)] ats t0 p0 e0] ty g := by
  intro pb B Q a w cs x rest hN hg hr hBp hp hK;have hb := of_decide_eq_true hb;show wpl P Q (_ :: rest) a w
  rw [wCo];refine wp_calls (R := fun v w' => v.oneCell' = true ∧ Fr [] w w' ∧ Rep w' (Rch B pb w') ty [v] (g x)) h.enters (vs := #[.agg cs.toArray])
    (by simp only [List.map_toArray, List.map_cons, List.map_nil, eTm]; rw [hg])
    ((h.call w pb B cs x hr hBp hp).mono (by rintro e' w' ⟨v, rfl, h1⟩; exact ⟨_, rfl, h1⟩)) ?_
  rintro v w' ⟨h1, h2, h3⟩;exact hK _ w' v (Kept.put0 (by omega) _) (gQ) h1 h2 h3
def fldSl (P : Program) (s : TypeId) (k : Nat) : Bool := match P.underlying s with
  | some (.struct fs) => (match fs[k]? with | some f => (match P.underlying f.type with | some (.slice _) => true | _ => false) | none => false)
  | _ => false
theorem wp_fieldS {a : Act} {w : World} {K : Act → World → Prop} {Q : Exit → Act → World → Prop} {d : Option Tmp} {t : TypeId} {p : String} {af : Array Edge} {g : Option (Nat × Bool)} {s : TypeId} {cs : List Value} {k : Nat} {x : Operand} {v : Value} (hi : fldSl P s k = true) (ho : fieldOf P s k k = true) (hx : a.eval x = .agg cs.toArray) (hv : cs[k]? = some v)
    (kk : K (a.put d v) w) : OW P ⟨d, .field s x k, t, p, af, g⟩ a w K Q := by
  refine wp_val (v := v) (w' := w) ?_ kk;unfold fldSl at hi;unfold fieldOf at ho
  cases hu : P.underlying s with
  | none => simp [hu] at hi
  | some td =>
    cases td <;> simp only [hu] at hi ho <;> first | (simp at hi; done) | skip
    rename_i fs
    cases hf : fs[k]? with
    | none => simp [hf] at hi
    | some f =>
      simp only [hf] at hi ho
      cases hk : P.underlying f.type with
      | none => simp [hk] at hi
      | some tk =>
        cases tk <;> simp only [hk] at hi <;> first | (simp at hi; done) | skip
        have : f.offset = k := by simp only [Bool.and_eq_true, beq_iff_eq] at ho; exact ho.1
        simp [execOp, Instr.field, hx, run_underlying hu, hf, asAgg, part, isAgg, run_underlying hk, this, hv]
theorem repT_s {w : World} {A : Nat → Prop} {cs : List Value} {t : T} (h : RepT w A cs t) : ∃ sv, cs[1]? = some sv ∧ OctE w A sv t.s := by
  cases t with
  | mk n s nl l u => obtain ⟨sv, _, _, rfl, _, h, _⟩ := repT_iff.1 h; exact ⟨sv, rfl, h⟩
theorem wp_toStrE {a : Act} {w : World} {K : Act → World → Prop} {Q : Exit → Act → World → Prop} {d : Option Tmp} {t : TypeId} {p : String} {af : Array Edge} {g : Option (Nat × Bool)} {A : Nat → Prop} {x : Operand} {l : List UInt8} {s u : TypeId} {v : Value} (hs : byteSl P s = true) (ht : strTy P u = true) (hx : a.eval x = v) (h : OctE w A v l)
    (k : K (a.put d (.string (strOf l))) w) : OW P ⟨d, .convert s u x, t, p, af, g⟩ a w K Q := by
  rcases h with ⟨y, h1, rfl⟩ | ⟨⟨q, rfl⟩, rfl⟩
  · exact wp_toString hs ht hx h1 k
  obtain ⟨e, h1, h2⟩ := under_bytes hs;have h3 := under_str ht;have hl : (loadCells q 0).run P w = .ok #[] w := run_loadCells_list (P := P) w q [] (fun j v hv => by simp at hv);have hr : (Conv.bytesToString (.slice (some q) 0 0)).run P w = .ok (.string (strOf [])) w := by
    rw [run_bytesToString w q 0 0 [] (by simpa using hl)]; rfl
  refine wp_val ?_ k;simp [execOp, hx, convert, run_underlying h1, run_underlying h2, run_underlying h3, hr]
theorem octE_big {w : World} {A : Nat → Prop} {v : Value} {s : List UInt8} (h : OctE w A v s) : s.length ≤ 4294967296 := by
  rcases h with ⟨y, h1, rfl⟩ | ⟨_, rfl⟩
  · rcases h1 with ⟨_, rfl⟩ | ⟨b, o, cap, l, _, _, h, _, rfl⟩
    · simp
    exact h.2
  simp
theorem mid_str {TB TS : TypeId} (hi : fldSl P TT 1 = true) (ho : fieldOf P TT 1 1 = true) (h1 : byteSl P TB = true) (h2 : strTy P TS = true) (hb : (decide (n + 4 < N)) = true) :
    MidOk P N n (n + 4) [⟨some (n + 3), .field TT (.tmp (n + 2)) 1, t0, p0, e0, none⟩, ⟨some (n + 4), .convert TB TS (.tmp (n + 3)), t1, p1, e1, none⟩] .str (fun x => .s x.s) := by
  intro pb B Q a w cs x rest hN hg hr hBp hp hK;have hb := of_decide_eq_true hb;obtain ⟨sv, h0, h3⟩ := repT_s hr;show wpl P Q (_ :: _ :: rest) a w
  refine wC (wp_fieldS hi ho (by rw [eTm]; exact hg) h0 ?_);refine wC (wp_toStrE h1 h2 (by rw [eTm, gQ]) h3 ?_);exact hK _ w (.string (strOf x.s)) ((Kept.put0 (by omega) _).put (by omega) _) (gQ) rfl (Fr.refl _ _) ⟨_, rfl, by rw [strOf_list], by rw [strOf_list]; exact octE_big h3⟩
end
end Go.Kq

namespace Go.Kq
open Go Go.Proofs
structure MakeM (P : Program) (f : FuncId) (g : Int → T → List UInt8 → Prop) : Prop where
  enters : Enters P f
  call : ∀ (w : World) (B : Nat → Prop) (ver : Int) (ct : List Value) (t : T), 0 ≤ ver → ver ≤ 32767 → RepT w B ct t → (∀ b, B b → b < w.heap.size) → (∀ ys, g ver t ys → ys.length < 4294967296) →
    Calls P f #[.int .i64 ver, .agg ct.toArray] w fun e w' => ∃ ov ys, e = .returned ov ∧ g ver t ys ∧ Fr [] w w' ∧ OctE w' (From w.heap.size w') ov ys
end Go.Kq

namespace Go.Kq
open Go Go.Proofs
structure Fit3M (P : Program) (f : FuncId) : Prop where
  enters : Enters P f
  call : ∀ (w : World) (A : Nat → Prop) (k : Nat) (xv : Value) (x : List UInt8), OctE w A xv x → Calls P f #[.agg ([.int .u32 (k : Int), xv] : List Value).toArray] w fun e w' => (∃ b : Bool, e = .returned (.bool b)) ∧ Fr [] w w'
structure Fit2M (P : Program) (f : FuncId) : Prop where
  enters : Enters P f
  call : ∀ (w : World) (A : Nat → Prop) (v : Value) (u : List (Nat × List UInt8)), TagsR w A v u → Calls P f #[v] w fun e w' => (∃ b : Bool, e = .returned (.bool b)) ∧ Fr [] w w'
structure FitM (P : Program) (f : FuncId) : Prop where
  enters : Enters P f
  call : ∀ (w : World) (A : Nat → Prop) (ct : List Value) (t : T), RepT w A ct t → Calls P f #[.agg ct.toArray] w fun e w' => (∃ b : Bool, e = .returned (.bool b)) ∧ Fr [] w w'
theorem fits3_m {P : Program} {f : FuncId} {fn : Func} {T3 T22 T60 : TypeId} {i0 i1 i2 i3 : Nat} {t0 t1 t2 t3 t4 t5 t6 t7 : TypeId} {p0 p1 p2 p3 p4 p5 p6 p7 : String} {e0 e1 e2 e3 e4 e5 e6 e7 : Array Edge} 
    (hf : P.funcs[f]? = some fn) (hname : (fn.name == "runtime.NumGoroutine") = false) (hres : fn.results = #[.tmp 2]) (hN : fn.ntmps = 7)
    (hbody : fn.body = some (.seq (Code.region i0 ⟨[⟨some 1, .box T60 (.tmp 0), t0, p0, e0, none⟩,
    oA 2 (.const (.bool false)) t1 p1 e1]⟩ false) (.seq (.seq (Code.region i1 ⟨[oF 3 T60 1 1 t2 p2 e2,
    oL 4 T22 3 t3 p3 e3, ⟨some 5, .call ⟨.builtin .len, #[(.tmp 4)], #[T22]⟩, t4, p4, e4, none⟩, ⟨some 6, .binOp .gtr T3 (.tmp 5) (.const (.int .i64 2147483647)) T3, t5, p5, e5, none⟩]⟩ false) (.cond (.tmp 6) (.seq (Code.region i2 ⟨[oA 2 (.const (.bool false)) t6 p6 e6]⟩ false) .ret) .skip)) (.seq (Code.region i3 ⟨[oA 2 (.const (.bool true)) t7 p7 e7]⟩ false) .ret))))
    (hFlT60 : Flat P T60 zTag) (hcT22 : scal P T22 = true) (hsT22 : slTy P T22 = true)  : Fit3M P f := by
  refine ⟨enters_of hf hname hbody, ?_⟩;intro w A k xv x ho;obtain ⟨q, cap, rfl, -, hl, -⟩ := ho.slice2;refine calls_of_wp hf hbody ?_;generalize ha0 : ({ tmps := #[Value.agg ([.int .u32 (k : Int), .slice q x.length cap] : List Value).toArray] ++ Array.replicate (fn.ntmps - (#[Value.agg ([.int .u32 (k : Int), .slice q x.length cap] : List Value).toArray] : Array Value).size) undef, defers := [] } : Act) = a0;have hz0 : a0.tmps.size = 7 := by subst ha0; simp [hN]
  have hd0 : a0.defers = [] := by subst ha0; rfl
  have g0_0 : get a0 0 = .agg ([.int .u32 (k : Int), .slice q x.length cap] : List Value).toArray := by subst ha0; exact gAr rfl
  refine wT fun K1 hK1 => ?_;refine wC (wp_boxL (cs := [.int .u32 (k : Int), .slice q x.length cap]) (eK g0_0) ?_);rintro w2 f2 sz2 r2 th2;have hF3 : Fr [] w w2 := f2;refine wC (wAs (v := .bool false) rfl ?_);refine wEk hz0 hd0 fun a4 ha4 hz4 hd4 => ?_;have g4_1 : get a4 1 = .pointer (some ⟨w.heap.size, 0, none⟩) := kG ha4 hz0;refine hK1 a4 w2 (tUp ?_);refine tId (wp_seq_k fun K5 hK5 => ?_);refine wS fun K6 hK6 => ?_;refine wC (wFa (b := w.heap.size) (i := 0) (hFlT60.fld (by decide)) (eK g4_1) ?_);rw [show (0 + 1 : Nat) = 1 from rfl];refine wC (wL0 (j := 1) (v := .slice q x.length cap) hcT22 (eS hz4) r2 rfl ?_);refine wC (wp_lenS (n := x.length) hsT22 (eS hz4) ?_);refine wC (wp_gtr (k1 := .i64) (i := ((x.length : Nat) : Int)) (j := 2147483647) (eS hz4) rfl ?_);refine wEk hz4 hd4 fun a7 ha7 hz7 hd7 => ?_;have g7_6 : get a7 6 = .bool (decide ((((x.length : Nat) : Int) : Int) > (2147483647 : Int))) := kG ha7 hz4;refine hK6 a7 w2 ?_;refine wp_cond_split (t := decide ((((x.length : Nat) : Int) : Int) > (2147483647 : Int))) (eK g7_6) (fun hc8 => ?_) (fun hc8 => ?_)
  · refine wp_seq_k fun K9 hK9 => ?_;refine wp_reg ?_;refine wC (wAs (v := .bool false) rfl ?_);refine wEk hz7 hd7 fun a10 ha10 hz10 hd10 => ?_;have g10_2 : get a10 2 = .bool false := kG ha10 hz7;refine hK9 a10 w2 ?_;refine wp_ret ?_;exact ⟨hd10, _, rIs hres g10_2, ⟨_, rfl⟩, hF3⟩
  refine wp_skip ?_;refine hK5 a7 w2 (tUp ?_);refine wT fun K11 hK11 => ?_;refine wC (wAs (v := .bool true) rfl ?_);refine wEk hz7 hd7 fun a12 ha12 hz12 hd12 => ?_;have g12_2 : get a12 2 = .bool true := kG ha12 hz7;refine hK11 a12 w2 (tUp ?_);refine wp_ret ?_;exact ⟨hd12, _, rIs hres g12_2, ⟨_, rfl⟩, hF3⟩
theorem fits2_m {P : Program} {f : FuncId} {fn : Func} {T3 T4 T24 T60 : TypeId} {f45 : FuncId} {a0 : Array TypeId} {i0 i1 i2 i3 i4 i5 i6 i7 i8 i9 : Nat} {t0 t1 t2 t3 t4 t5 t6 t7 t8 t9 t10 t11 t12 t13 t14 t15 t16 t17 t18 t19 : TypeId} {p0 p1 p2 p3 p4 p5 p6 p7 p8 p9 p10 p11 p12 p13 p14 p15 p16 p17 p18 p19 : String} {e0 e1 e2 e3 e4 e5 e6 e7 e8 e9 e10 e11 e12 e13 e14 e15 e16 e17 e18 e19 : Array Edge} {te : TypeId} {tb : Nat}
    (hf : P.funcs[f]? = some fn) (hname : (fn.name == "runtime.NumGoroutine") = false) (hres : fn.results = #[.tmp 2]) (hN : fn.ntmps = 18)
    (hbody : fn.body = some (.seq (Code.region i0 ⟨[oA 2 (.const (.bool false)) t0 p0 e0]⟩ false) (.seq (.seq (Code.region i1 ⟨[oM 5 0 t1 p1 e1, ⟨some 6, .call ⟨.builtin .len, #[(.tmp 5)], #[T24]⟩, t2, p2, e2, none⟩, ⟨some 7, .binOp .gtr T3 (.tmp 6) (.const (.int .i64 2147483647)) T3, t3, p3, e3, none⟩]⟩ false) (.cond (.tmp 7) (.seq (Code.region i2 ⟨[oA 2 (.const (.bool false)) t4 p4 e4]⟩ false) .ret) .skip)) (.seq (.seq (Code.region i3 ⟨[oM 8 0 t5 p5 e5, ⟨some 9, .call ⟨.builtin .len, #[(.tmp 8)], #[T24]⟩, t6, p6, e6, none⟩, ⟨some 10, .move (.const (.int .i64 0)), t7, p7, e7, none⟩]⟩ false) (.block 0 (.loop (.seq (Code.region i4 ⟨[⟨some 11, .binOp .lss T3 (.tmp 10) (.tmp 9) T3, t8, p8, e8, none⟩]⟩ false) (.seq (.cond (.tmp 11) .skip
  (.exit 0)) (.seq (.block 1 (.seq (Code.region i5 ⟨[⟨some 12, .indexAddr T24 (.tmp 8) (.tmp 10), t9, p9, e9, none⟩,
    oL 13 T60 12 t10 p10 e10, ⟨some 4, .alloc T60, t11, p11, e11, none⟩,
    oS T60 4 13 t12 p12 e12]⟩ false) (.seq (Code.region i6 ⟨[oL 14 T60 4 t13 p13 e13,
    oC 15 f45 #[(.tmp 14)] a0 t14 p14 e14, ⟨some 16, .unOp .not T4 (.tmp 15), t15, p15, e15, none⟩]⟩ false) (.cond (.tmp 16) (.seq (Code.region i7 ⟨[oA 2 (.const (.bool false)) t16 p16 e16]⟩ false) .ret) .skip))))
  (Code.region i8 ⟨[⟨some 17, .binOp .add T3 (.tmp 10) (.const (.int .i64 1)) T3, t17, p17, e17, none⟩,
    oM 10 17 t18 p18 e18]⟩ false))))))) (.seq (Code.region i9 ⟨[oA 2 (.const (.bool true)) t19 p19 e19]⟩ false) .ret)))))
    (hsT24 : slTy P T24 = true) (hs_T24 : sliceOf P T24 te 2 tb = true) (hFlT60 : Flat P T60 zTag) (h3 : Fit3M P f45) : Fit2M P f := by
  refine ⟨enters_of hf hname hbody, ?_⟩;intro w A v u hu;obtain ⟨q, cap, rfl, -, hbig, hk⟩ := hu.sl2;refine calls_of_wp hf hbody ?_;generalize ha0 : ({ tmps := #[Value.slice q u.length cap] ++ Array.replicate (fn.ntmps - (#[Value.slice q u.length cap] : Array Value).size) undef, defers := [] } : Act) = a0;have hz0 : a0.tmps.size = 18 := by subst ha0; simp [hN]
  have hd0 : a0.defers = [] := by subst ha0; rfl
  have g0_0 : get a0 0 = .slice q u.length cap := by subst ha0; exact gAr rfl
  refine wT fun K1 hK1 => ?_;refine wC (wAs (v := .bool false) rfl ?_);refine wEk hz0 hd0 fun a2 ha2 hz2 hd2 => ?_;have g2_0 := kP ha2 g0_0;refine hK1 a2 w (tUp ?_);refine tId (wp_seq_k fun K3 hK3 => ?_);refine wS fun K4 hK4 => ?_;refine wC (wMv (v := .slice q u.length cap) (eK g2_0) ?_);refine wC (wp_lenS (n := u.length) hsT24 (eS hz2) ?_);refine wC (wp_gtr (k1 := .i64) (i := ((u.length : Nat) : Int)) (j := 2147483647) (eS hz2) rfl ?_);refine wEk hz2 hd2 fun a5 ha5 hz5 hd5 => ?_;have g5_0 := kP ha5 g2_0;have g5_7 : get a5 7 = .bool (decide ((((u.length : Nat) : Int) : Int) > (2147483647 : Int))) := kG ha5 hz2;refine hK4 a5 w ?_;refine wp_cond_split (t := decide ((((u.length : Nat) : Int) : Int) > (2147483647 : Int))) (eK g5_7) (fun hc6 => ?_) (fun hc6 => ?_)
  · refine wp_seq_k fun K7 hK7 => ?_;refine wp_reg ?_;refine wC (wAs (v := .bool false) rfl ?_);refine wEk hz5 hd5 fun a8 ha8 hz8 hd8 => ?_;have g8_2 : get a8 2 = .bool false := kG ha8 hz5;refine hK7 a8 w ?_;refine wp_ret ?_;exact ⟨hd8, _, rIs hres g8_2, ⟨_, rfl⟩, Fr.refl _ _⟩
  refine wp_skip ?_;refine hK3 a5 w (tUp ?_);refine tId (wp_seq_k fun K9 hK9 => ?_);refine wS fun K10 hK10 => ?_;refine wC (wMv (v := .slice q u.length cap) (eK g5_0) ?_);refine wC (wp_lenS (n := u.length) hsT24 (eS hz5) ?_);refine wC (wMv (v := .int .i64 0) rfl ?_);refine wEk hz5 hd5 fun a11 ha11 hz11 hd11 => ?_;have g11_8 : get a11 8 = .slice q u.length cap := kG ha11 hz5;have g11_9 : get a11 9 = .int .i64 ((u.length : Nat) : Int) := kG ha11 hz5;have g11_10 : get a11 10 = .int .i64 0 := kG ha11 hz5;refine hK10 a11 w ?_;refine wp_block (wp_loop_ghost (fun (m : Nat) a' w' => ∃ (j : Nat), a'.tmps.size = 18 ∧ a'.defers = [] ∧ get a' 8 = .slice q u.length cap ∧ get a' 9 = .int .i64 (u.length : Int) ∧ get a' 10 = .int .i64 (j : Int) ∧ j + m = u.length ∧ Fr [] w w') u.length ?_ ?_)
  · exact ⟨0, hz11, hd11, g11_8, g11_9, g11_10, by omega, Fr.refl _ _⟩
  rintro m a12 w12 ⟨j, hz12, hd12, g12_8, g12_9, g12_10, hjm, hfw⟩;refine wS fun K13 hK13 => ?_;refine wC (wp_lss (k1 := .i64) (i := (j : Int)) (j := (u.length : Int)) (eK g12_10) (eK g12_9) ?_);refine wEk hz12 hd12 fun a14 ha14 hz14 hd14 => ?_;have g14_8 := kP ha14 g12_8;have g14_9 := kP ha14 g12_9;have g14_10 := kP ha14 g12_10;have g14_11 : get a14 11 = .bool (decide (((j : Int) : Int) < ((u.length : Int) : Int))) := kG ha14 hz12;refine hK13 a14 w12 ?_;refine wp_seq_k fun K15 hK15 => ?_;refine wp_cond_split (t := decide (((j : Int) : Int) < ((u.length : Int) : Int))) (eK g14_11) (fun hc16 => ?_) (fun hc16 => ?_)
  · have hjl : j < u.length := by simp at hc16; omega
    obtain ⟨k, x, hkx⟩ : ∃ k x, u[j]? = some (k, x) := ⟨(u[j]).1, (u[j]).2, by simp [hjl]⟩;obtain ⟨bl, ol, xv, hq, hbl, hk32, hrl, hox⟩ := hk j k x hkx;refine wp_skip ?_;refine hK15 a14 w12 ?_;refine wp_seq_k fun K17 hK17 => ?_;refine wp_blockT ?_;refine wS fun K18 hK18 => ?_;refine wC (wp_ixN (b := bl) (o := ol) (i := j) hs_T24 (by rw [eTm, g14_8, hq]) (eK g14_10) hjl ?_);refine wC (wp_loadFlat (cs := [.int .u32 (k : Int), xv]) (b := bl) (o := ol + j * 2) hFlT60 rfl (eS hz14) (hfw.range hrl .nil) ?_);refine wC (wp_allocL hFlT60 ?_);rintro w19 f19 sz19 r19 th19;have hF20 : Fr [] w w19 := hfw.tr f19;refine wC (wp_storeL (cs := [.int .u32 (k : Int), xv]) (o := 0) hFlT60 rfl (eS hz14) (eS hz14) (by intro u hu; simp at hu; rcases hu with rfl | rfl; rfl; exact hox.one) th19 ?_);rintro w21 f21 sz21 r21 th21;have hF21 : Fr [] w w21 := hF20.trans f21 (fun r hr => .inl (by simp at hr; subst hr; have := hfw.size; simp only; omega));refine wEk hz14 hd14 fun a22 ha22 hz22 hd22 => ?_;have g22_4 : get a22 4 = .pointer (some ⟨w12.heap.size, 0, none⟩) := kG ha22 hz14;have g22_8 := kP ha22 g14_8;have g22_9 := kP ha22 g14_9;have g22_10 := kP ha22 g14_10;refine hK18 a22 w21 ?_;refine wS fun K23 hK23 => ?_;refine wC (wp_loadFlat (cs := [.int .u32 (k : Int), xv]) (b := w12.heap.size) (o := 0) hFlT60 rfl (eK g22_4) r21 ?_);refine wC (wCr (R := fun vz wz => (∃ b : Bool, vz = .bool b) ∧ Fr [] w21 wz) (vs := #[.agg ([.int .u32 (k : Int), xv] : List Value).toArray]) h3.enters (mX1 (eS hz22)) ((h3.call w21 A k xv x (hox.kept hF21 (by simp) (fun _ h => h))).mono (by rintro e wz ⟨⟨b, rfl⟩, h⟩; exact ⟨_, rfl, ⟨b, rfl⟩, h⟩)) ?_);rintro _ w24 ⟨⟨bb, rfl⟩, fr24⟩;have hF25 : Fr [] w w24 := hF21.tr fr24;have rb26 := fr24.range r21 .nil;refine wC (wp_not (b := bb) (eS hz22) ?_);refine wEk hz22 hd22 fun a27 ha27 hz27 hd27 => ?_;have g27_8 := kP ha27 g22_8;have g27_9 := kP ha27 g22_9;have g27_10 := kP ha27 g22_10;have g27_16 : get a27 16 = .bool (!bb) := kG ha27 hz22;refine hK23 a27 w24 ?_;refine wp_cond_split (t := !bb) (eK g27_16) (fun hc28 => ?_) (fun hc28 => ?_)
    · refine wp_seq_k fun K29 hK29 => ?_;refine wp_reg ?_;refine wC (wAs (v := .bool false) rfl ?_);refine wEk hz27 hd27 fun a30 ha30 hz30 hd30 => ?_;have g30_2 : get a30 2 = .bool false := kG ha30 hz27;refine hK29 a30 w24 ?_;refine wp_ret ?_;exact ⟨hd30, _, rIs hres g30_2, ⟨_, rfl⟩, hF25⟩
    refine wp_skip ?_;refine hK17 a27 w24 ?_;refine wp_reg ?_;refine wC (wp_add (k1 := .i64) (i := (j : Int)) (j := 1) (eK g27_10) rfl ?_);rw [show (IntKind.i64.wrap (((j : Int) : Int) + (1 : Int)) : Int) = (((j + 1 : Nat) : Int) : Int) from by simp only [IntKind.wrap, IntKind.bits, IntKind.signed]; simp; omega];refine wC (wMv (v := .int .i64 ((j + 1 : Nat) : Int)) (eS hz27) ?_);refine wEk hz27 hd27 fun a31 ha31 hz31 hd31 => ?_;have g31_8 := kP ha31 g27_8;have g31_9 := kP ha31 g27_9;have g31_10 : get a31 10 = .int .i64 ((j + 1 : Nat) : Int) := kG ha31 hz27;exact ⟨m - 1, by omega, j + 1, hz31, hd31, g31_8, g31_9, g31_10, by omega, hF25⟩
  refine wp_exit ?_;show K9 a14 w12
  refine hK9 a14 w12 (tUp ?_);refine wT fun K32 hK32 => ?_;refine wC (wAs (v := .bool true) rfl ?_);refine wEk hz14 hd14 fun a33 ha33 hz33 hd33 => ?_;have g33_2 : get a33 2 = .bool true := kG ha33 hz14;refine hK32 a33 w12 (tUp ?_);refine wp_ret ?_;exact ⟨hd33, _, rIs hres g33_2, ⟨_, rfl⟩, hfw⟩
theorem fits1_m {P : Program} {f : FuncId} {fn : Func} {T3 T4 T22 T23 T24 T26 : TypeId} {f23 : FuncId} {a0 : Array TypeId} {i0 i1 i2 i3 i4 i5 i6 i7 : Nat} {t0 t1 t2 t3 t4 t5 t6 t7 t8 t9 t10 t11 t12 t13 t14 t15 t16 t17 : TypeId} {p0 p1 p2 p3 p4 p5 p6 p7 p8 p9 p10 p11 p12 p13 p14 p15 p16 p17 : String} {e0 e1 e2 e3 e4 e5 e6 e7 e8 e9 e10 e11 e12 e13 e14 e15 e16 e17 : Array Edge} 
    (hf : P.funcs[f]? = some fn) (hname : (fn.name == "runtime.NumGoroutine") = false) (hres : fn.results = #[.tmp 2]) (hN : fn.ntmps = 15)
    (hbody : fn.body = some (.seq (Code.region i0 ⟨[⟨some 1, .box T26 (.tmp 0), t0, p0, e0, none⟩,
    oA 2 (.const (.bool false)) t1 p1 e1]⟩ false) (.seq (.seq (Code.region i1 ⟨[oF 3 T26 1 1 t2 p2 e2,
    oL 4 T22 3 t3 p3 e3, ⟨some 5, .call ⟨.builtin .len, #[(.tmp 4)], #[T22]⟩, t4, p4, e4, none⟩, ⟨some 6, .binOp .gtr T3 (.tmp 5) (.const (.int .i64 2147483647)) T3, t5, p5, e5, none⟩]⟩ false) (.cond (.tmp 6) (.seq (Code.region i2 ⟨[oA 2 (.const (.bool false)) t6 p6 e6]⟩ false) .ret) .skip)) (.seq (.seq (Code.region i3 ⟨[oF 7 T26 1 3 t7 p7 e7,
    oL 8 T23 7 t8 p8 e8, ⟨some 9, .call ⟨.builtin .len, #[(.tmp 8)], #[T23]⟩, t9, p9, e9, none⟩, ⟨some 10, .binOp .gtr T3 (.tmp 9) (.const (.int .i64 2147483647)) T3, t10, p10, e10, none⟩]⟩ false) (.cond (.tmp 10) (.seq (Code.region i4 ⟨[oA 2 (.const (.bool false)) t11 p11 e11]⟩ false) .ret) .skip)) (.seq (.seq (Code.region i5 ⟨[oF 11 T26 1 4 t12 p12 e12,
    oL 12 T24 11 t13 p13 e13,
    oC 13 f23 #[(.tmp 12)] a0 t14 p14 e14, ⟨some 14, .unOp .not T4 (.tmp 13), t15, p15, e15, none⟩]⟩ false) (.cond (.tmp 14) (.seq (Code.region i6 ⟨[oA 2 (.const (.bool false)) t16 p16 e16]⟩ false) .ret) .skip)) (.seq (Code.region i7 ⟨[oA 2 (.const (.bool true)) t17 p17 e17]⟩ false) .ret))))))
    (hFlT26 : Flat P T26 zT) (hcT22 : scal P T22 = true) (hsT22 : slTy P T22 = true) (hcT23 : scal P T23 = true) (hsT23 : slTy P T23 = true) (hcT24 : scal P T24 = true) (h2 : Fit2M P f23) : FitM P f := by
  refine ⟨enters_of hf hname hbody, ?_⟩;intro w A ct t ht
  cases t with
  | mk n s nl l u =>
  obtain ⟨sv, lv, uv, rfl, hn, hs, hl, hu⟩ := repT_iff.1 ht;obtain ⟨q, cap, rfl, -, -, -⟩ := hs.slice2;obtain ⟨lq, lcap, rfl⟩ := hl.slice;refine calls_of_wp hf hbody ?_;generalize ha0 : ({ tmps := #[Value.agg ([.int .i64 n, .slice q s.length cap, .bool nl, .slice lq l.length lcap, uv] : List Value).toArray] ++ Array.replicate (fn.ntmps - (#[Value.agg ([.int .i64 n, .slice q s.length cap, .bool nl, .slice lq l.length lcap, uv] : List Value).toArray] : Array Value).size) undef, defers := [] } : Act) = a0;have hz0 : a0.tmps.size = 15 := by subst ha0; simp [hN]
  have hd0 : a0.defers = [] := by subst ha0; rfl
  have g0_0 : get a0 0 = .agg ([.int .i64 n, .slice q s.length cap, .bool nl, .slice lq l.length lcap, uv] : List Value).toArray := by subst ha0; exact gAr rfl
  refine wT fun K1 hK1 => ?_;refine wC (wp_boxL (cs := [.int .i64 n, .slice q s.length cap, .bool nl, .slice lq l.length lcap, uv]) (eK g0_0) ?_);rintro w2 f2 sz2 r2 th2;have hF3 : Fr [] w w2 := f2;refine wC (wAs (v := .bool false) rfl ?_);refine wEk hz0 hd0 fun a4 ha4 hz4 hd4 => ?_;have g4_1 : get a4 1 = .pointer (some ⟨w.heap.size, 0, none⟩) := kG ha4 hz0;refine hK1 a4 w2 (tUp ?_);refine tId (wp_seq_k fun K5 hK5 => ?_);refine wS fun K6 hK6 => ?_;refine wC (wFa (b := w.heap.size) (i := 0) (hFlT26.fld (by decide)) (eK g4_1) ?_);rw [show (0 + 1 : Nat) = 1 from rfl];refine wC (wL0 (j := 1) (v := .slice q s.length cap) hcT22 (eS hz4) r2 rfl ?_);refine wC (wp_lenS (n := s.length) hsT22 (eS hz4) ?_);refine wC (wp_gtr (k1 := .i64) (i := ((s.length : Nat) : Int)) (j := 2147483647) (eS hz4) rfl ?_);refine wEk hz4 hd4 fun a7 ha7 hz7 hd7 => ?_;have g7_1 := kP ha7 g4_1;have g7_6 : get a7 6 = .bool (decide ((((s.length : Nat) : Int) : Int) > (2147483647 : Int))) := kG ha7 hz4;refine hK6 a7 w2 ?_;refine wp_cond_split (t := decide ((((s.length : Nat) : Int) : Int) > (2147483647 : Int))) (eK g7_6) (fun hc8 => ?_) (fun hc8 => ?_)
  · refine wp_seq_k fun K9 hK9 => ?_;refine wp_reg ?_;refine wC (wAs (v := .bool false) rfl ?_);refine wEk hz7 hd7 fun a10 ha10 hz10 hd10 => ?_;have g10_2 : get a10 2 = .bool false := kG ha10 hz7;refine hK9 a10 w2 ?_;refine wp_ret ?_;exact ⟨hd10, _, rIs hres g10_2, ⟨_, rfl⟩, hF3⟩
  refine wp_skip ?_;refine hK5 a7 w2 (tUp ?_);refine tId (wp_seq_k fun K11 hK11 => ?_);refine wS fun K12 hK12 => ?_;refine wC (wFa (b := w.heap.size) (i := 0) (hFlT26.fld (by decide)) (eK g7_1) ?_);rw [show (0 + 3 : Nat) = 3 from rfl];refine wC (wL0 (j := 3) (v := .slice lq l.length lcap) hcT23 (eS hz7) r2 rfl ?_);refine wC (wp_lenS (n := l.length) hsT23 (eS hz7) ?_);refine wC (wp_gtr (k1 := .i64) (i := ((l.length : Nat) : Int)) (j := 2147483647) (eS hz7) rfl ?_);refine wEk hz7 hd7 fun a13 ha13 hz13 hd13 => ?_;have g13_1 := kP ha13 g7_1;have g13_10 : get a13 10 = .bool (decide ((((l.length : Nat) : Int) : Int) > (2147483647 : Int))) := kG ha13 hz7;refine hK12 a13 w2 ?_;refine wp_cond_split (t := decide ((((l.length : Nat) : Int) : Int) > (2147483647 : Int))) (eK g13_10) (fun hc14 => ?_) (fun hc14 => ?_)
  · refine wp_seq_k fun K15 hK15 => ?_;refine wp_reg ?_;refine wC (wAs (v := .bool false) rfl ?_);refine wEk hz13 hd13 fun a16 ha16 hz16 hd16 => ?_;have g16_2 : get a16 2 = .bool false := kG ha16 hz13;refine hK15 a16 w2 ?_;refine wp_ret ?_;exact ⟨hd16, _, rIs hres g16_2, ⟨_, rfl⟩, hF3⟩
  refine wp_skip ?_;refine hK11 a13 w2 (tUp ?_);refine tId (wp_seq_k fun K17 hK17 => ?_);refine wS fun K18 hK18 => ?_;refine wC (wFa (b := w.heap.size) (i := 0) (hFlT26.fld (by decide)) (eK g13_1) ?_);rw [show (0 + 4 : Nat) = 4 from rfl];refine wC (wL0 (j := 4) (v := uv) hcT24 (eS hz13) r2 rfl ?_);refine wC (wCr (R := fun vz wz => (∃ b : Bool, vz = .bool b) ∧ Fr [] w2 wz) (vs := #[uv]) h2.enters (mX1 (eS hz13)) ((h2.call w2 A _ u (hu.kept hF3 (by simp) (fun _ h => h))).mono (by rintro e wz ⟨⟨b, rfl⟩, h⟩; exact ⟨_, rfl, ⟨b, rfl⟩, h⟩)) ?_);rintro _ w19 ⟨⟨bb, rfl⟩, fr19⟩;have hF20 : Fr [] w w19 := hF3.tr fr19;have rb21 := fr19.range r2 .nil;refine wC (wp_not (b := bb) (eS hz13) ?_);refine wEk hz13 hd13 fun a22 ha22 hz22 hd22 => ?_;have g22_14 : get a22 14 = .bool (!bb) := kG ha22 hz13;refine hK18 a22 w19 ?_;refine wp_cond_split (t := !bb) (eK g22_14) (fun hc23 => ?_) (fun hc23 => ?_)
  · refine wp_seq_k fun K24 hK24 => ?_;refine wp_reg ?_;refine wC (wAs (v := .bool false) rfl ?_);refine wEk hz22 hd22 fun a25 ha25 hz25 hd25 => ?_;have g25_2 : get a25 2 = .bool false := kG ha25 hz22;refine hK24 a25 w19 ?_;refine wp_ret ?_;exact ⟨hd25, _, rIs hres g25_2, ⟨_, rfl⟩, hF20⟩
  refine wp_skip ?_;refine hK17 a22 w19 (tUp ?_);refine wT fun K26 hK26 => ?_;refine wC (wAs (v := .bool true) rfl ?_);refine wEk hz22 hd22 fun a27 ha27 hz27 hd27 => ?_;have g27_2 : get a27 2 = .bool true := kG ha27 hz22;refine hK26 a27 w19 (tUp ?_);refine wp_ret ?_;exact ⟨hd27, _, rIs hres g27_2, ⟨_, rfl⟩, hF20⟩
end Go.Kq

namespace Go.Kq
open Go Go.Proofs
structure LawK (P : Program) (f : FuncId) (small : T → Prop) : Prop where
  enters : Enters P f
  call : ∀ (w : World) (n : Nat) (B : Nat → Prop) (ct : List Value) (t : T), n < 256 → RepT w B ct t → (∀ b, B b → b < w.heap.size) → small t →
    Calls P f #[.int .u8 (n : Int), .agg ct.toArray] w fun e w' => e = .returned (.bool true) ∧ Fr [] w w'
end Go.Kq

namespace Go.Kq
open Go Go.Proofs
def tagO (l : List (Nat × V)) : List (Nat × List UInt8) := l.map fun p => (p.1, p.2.octs)
structure Bx (s1 : Nat) (A : Nat → Prop) (cb : Nat) (zs : List UInt8) (v : Value) (w : World) : Prop where
  cell : w.cell? ⟨cb, 0, none⟩ = some v
  th : w.there cb 0 1
  own : Own w (fun b => A b ∨ (s1 ≤ b ∧ b < w.heap.size)) 1 v zs.length (octets zs)
  top : s1 ≤ w.heap.size
  lt : cb < s1
  nA : ∀ b, A b → b ≠ cb ∧ b < s1
theorem Bx.kept {s1 cb : Nat} {A : Nat → Prop} {zs : List UInt8} {v : Value} {w w' : World} (h : Bx s1 A cb zs v w) (hf : Fr [] w w') : Bx s1 A cb zs v w' :=
  ⟨hf.cell h.cell .nil, hf.there h.th, h.own.kept hf (by simp) (fun b hb => hb.imp id fun h => ⟨h.1, Nat.lt_of_lt_of_le h.2 hf.size⟩), Nat.le_trans h.top hf.size, h.lt, h.nA⟩
theorem In.cons {x r : Rng} {l : List Rng} {w : World} (h : r.In l w) : r.In (x :: l) w := h.imp id fun ⟨y, hy, h⟩ => ⟨y, List.mem_cons_of_mem _ hy, h⟩
theorem Bx.step {s1 cb : Nat} {A : Nat → Prop} {zs zs' : List UInt8} {v v' : Value} {w w1 : World} (h : Bx s1 A cb zs v w)
    (hr : Fr (spare v 1) w w1 ∧ Own w1 (fun b => (A b ∨ (s1 ≤ b ∧ b < w.heap.size)) ∨ (w.heap.size ≤ b ∧ b < w1.heap.size)) 1 v' zs'.length (octets zs') ∧ ∀ r ∈ spare v' 1, r.In (spare v 1) w) :
    w1.there cb 0 1 ∧ Bx s1 A cb zs' v' (w1.setCell ⟨cb, 0, none⟩ v') ∧ Fr (⟨cb, 0, 1⟩ :: spare v 1) w (w1.setCell ⟨cb, 0, none⟩ v') ∧ ∀ z ∈ (⟨cb, 0, 1⟩ :: spare v' 1 : List Rng), z.In (⟨cb, 0, 1⟩ :: spare v 1) w := by
  obtain ⟨f, ho, hi⟩ := hr;have hth := f.there h.th;have hs := Fr.set w1 cb 0 v';have htop := h.top;have hlt := h.lt;have f2 : Fr (⟨cb, 0, 1⟩ :: spare v 1) w (w1.setCell ⟨cb, 0, none⟩ v') := by
    refine (f.mono fun r hr => In.cons (Rng.in_self hr)).tr (hs.mono fun r hr => ?_);simp at hr; subst hr
    exact .inr ⟨⟨cb, 0, 1⟩, by simp, rfl, by simp, by simp⟩
  refine ⟨hth, ⟨range_set hth, hs.there hth, ?_, Nat.le_trans htop f2.size, hlt, h.nA⟩, f2, ?_⟩
  · have hz := hs.size;have hz1 := f.size;refine ho.kept hs ?_ ?_
    · intro r hr hA;simp at hr; subst hr
      rcases hA with (hA | hA) | hA
      · exact absurd rfl (h.nA _ hA).1
      · simp only at hA; omega
      simp only at hA; omega
    rintro b ((hA | hA) | hA)
    · exact .inl hA
    · exact .inr ⟨hA.1, by omega⟩
    exact .inr ⟨by omega, by omega⟩
  intro z hz
  rcases List.mem_cons.1 hz with rfl | hz
  · exact Rng.in_self (by simp)
  exact In.cons (hi z hz)
def AeI (s1 : Nat) (A : Nat → Prop) (cb : Nat) (xs : List UInt8) (done : List (Nat × V)) (own : List Rng) (w : World) : Prop :=
  ∃ v, Bx s1 A cb (xs ++ tagsW (tagO done)) v w ∧ own = ⟨cb, 0, 1⟩ :: spare v 1
structure AeM (P : Program) (f : FuncId) : Prop where
  enters : Enters P f
  call : ∀ (w : World) (A B : Nat → Prop) (s1 cb : Nat) (xs : List UInt8) (done : List (Nat × V)) (own : List Rng) (k : Nat) (y : Option (List UInt8)) (u : Value), AeI s1 A cb xs done own w → k < 4294967296 → OctsV w B u y →
    (∀ b, A b → ¬ B b) → ¬ B cb → (∀ b, B b → b < s1) → (xs ++ tagsW (tagO (done ++ [(k, .oct y)]))).length < 4294967296 →
    Calls P f #[.int .u32 (k : Int), u, .pointer (some ⟨cb, 0, none⟩)] w fun e w' => (∃ z, e = .returned z) ∧ ∃ own', AeI s1 A cb xs (done ++ [(k, .oct y)]) own' w' ∧ Fr own w w' ∧ ∀ z ∈ own', z.In own w
theorem In.chain {l l' l'' : List Rng} {w w1 : World} (h1 : ∀ z ∈ l', z.In l w) (h2 : ∀ z ∈ l'', z.In l' w1) (hs : w.heap.size ≤ w1.heap.size) : ∀ z ∈ l'', z.In l w := fun z hz => Rng.in_trans (h2 z hz) h1 hs
theorem ae_m {P : Program} {f fuv : FuncId} {fn : Func} {et T22 T3 T58 : TypeId} {i0 i1 i2 : Nat} {a0 a1 : Array TypeId}
    {t0 t1 t2 t3 t4 t5 t6 t7 t8 t9 t10 t11 t12 t13 : TypeId} {p0 p1 p2 p3 p4 p5 p6 p7 p8 p9 p10 p11 p12 p13 : String} {e0 e1 e2 e3 e4 e5 e6 e7 e8 e9 e10 e11 e12 e13 : Array Edge}
    (hf : P.funcs[f]? = some fn) (hname : (fn.name == "runtime.NumGoroutine") = false) (hres : fn.results = #[]) (hN : fn.ntmps = 16)
    (hbody : fn.body = some (.seq (Code.region i0 ⟨[oL 5 T22 2 t0 p0 e0, oM 6 0 t1 p1 e1, oC 7 fuv #[.tmp 5, .tmp 6] a0 t2 p2 e2, oS T22 2 7 t3 p3 e3]⟩ false) (.seq (Code.region i1 ⟨[oL 8 T22 2 t4 p4 e4, oM 9 1 t5 p5 e5, ⟨some 10, .call ⟨.builtin .len, #[.tmp 9], #[T22]⟩, t6, p6, e6, none⟩, ⟨some 11, .convert T3 T58 (.tmp 10), t7, p7, e7, none⟩,
        oC 12 fuv #[.tmp 8, .tmp 11] a1 t8 p8 e8, oS T22 2 12 t9 p9 e9]⟩ false)
      (Code.region i2 ⟨[oL 13 T22 2 t10 p10 e10, oM 14 1 t11 p11 e11, ⟨some 15, .call ⟨.builtin .append, #[.tmp 13, .tmp 14], #[T22, T22]⟩, t12, p12, e12, none⟩, oS T22 2 15 t13 p13 e13]⟩ false))))
    (hU : ApU P fuv) (hs : sliceOf P T22 et 1 1 = true) (hz : zeroIs P et [.int .u8 0]) (hc : scal P T22 = true) (h3 : intOf P T3 .i64 = true) (h58 : intOf P T58 .u32 = true) : AeM P f := by
  refine ⟨enters_of hf hname hbody, ?_⟩;intro w A B s1 cb xs done own k y u hI hk hu hAB hBc hB hbd;obtain ⟨v, hb0, rfl⟩ := hI;have hout : xs ++ tagsW (tagO (done ++ [(k, .oct y)])) = ((xs ++ tagsW (tagO done) ++ uvW k) ++ uvW (y.getD []).length) ++ (y.getD []) := by
    have : (V.oct y).octs = y.getD [] := by cases y <;> rfl
    simp [tagO, tagsW, tagW, this]
  rw [hout] at hbd;have hoct : OctE w B u (y.getD []) := hu.octE;obtain ⟨uq, ucap, rfl, -, hyl, -⟩ := hoct.slice2;refine calls_of_wp hf hbody ?_;generalize ha0 : ({ tmps := #[Value.int .u32 (k : Int), Value.slice uq (y.getD []).length ucap, Value.pointer (some ⟨cb, 0, none⟩)] ++ Array.replicate (fn.ntmps - #[Value.int .u32 (k : Int), Value.slice uq (y.getD []).length ucap, Value.pointer (some ⟨cb, 0, none⟩)].size) undef, defers := [] } : Act) = a0;have hz0 : a0.tmps.size = 16 := by subst ha0; simp [hN]
  have hd0 : a0.defers = [] := by subst ha0; rfl
  have g0 : get a0 0 = .int .u32 (k : Int) := by subst ha0; exact gAr rfl
  have g1 : get a0 1 = .slice uq (y.getD []).length ucap := by subst ha0; exact gAr rfl
  have g2 : get a0 2 = .pointer (some ⟨cb, 0, none⟩) := by subst ha0; exact gAr rfl
  have hAB' : ∀ w' : World, ∀ b, (A b ∨ (s1 ≤ b ∧ b < w'.heap.size)) → ¬ B b := by
    rintro w' b (h | h) hb
    · exact hAB b h hb
    have := hB b hb; omega
  have hownB : ∀ (w' : World) (v' : Value) (zs : List UInt8), Bx s1 A cb zs v' w' → ∀ r ∈ (⟨cb, 0, 1⟩ :: spare v' 1 : List Rng), ¬ B r.b := by
    intro w' v' zs h r hr
    rcases List.mem_cons.1 hr with rfl | hr
    · exact hBc
    exact hAB' w' _ (h.own.spare_in r hr)
  refine wT fun K1 hK1 => ?_;refine wC (wp_load hc (v := v) (by rw [eTm, g2]) hb0.cell ?_);refine wC (wMv (v := .int .u32 (k : Int)) (by rw [eTm, gR, g0]) ?_);rw [wCo];refine wCr (vs := #[v, .int .u32 (k : Int)]) hU.enters (by simp only [List.map_toArray, List.map_cons, List.map_nil, eTm]; rw [gR, gQ, gQ])
    (Apd.ret (hU.call w _ v _ k hb0.own hk (by simp only [List.length_append] at hbd ⊢; omega))) ?_
  intro v1 w1 hr1;obtain ⟨th1, hb1, f1, i1⟩ := hb0.step hr1;refine wC (wp_store hc (b := cb) (o := 0) (v := v1) (by rw [eTm, gR, gR, gR, g2]) (by rw [eTm, gQ]) hr1.2.1.one th1 ?_);rw [wNi];have hoct1 := hoct.kept f1 (hownB _ _ _ hb0) (fun _ h => h);generalize w1.setCell ⟨cb, 0, none⟩ v1 = w2 at hb1 f1 hoct1 ⊢;generalize ha1 : (((a0.put (some 5) v).put (some 6) (.int .u32 (k : Int))).put (some 7) v1).put none undef = a1;have hz1 : a1.tmps.size = 16 := by subst ha1; simp only [sPu]; exact hz0
  have hd1 : a1.defers = [] := by subst ha1; simp only [dPu]; exact hd0
  have q1 : get a1 1 = .slice uq (y.getD []).length ucap := by subst ha1; rw [pNo, gR, gR, gR, g1]
  have q2 : get a1 2 = .pointer (some ⟨cb, 0, none⟩) := by subst ha1; rw [pNo, gR, gR, gR, g2]
  refine hK1 a1 w2 (tUp ?_);refine wT fun K2 hK2 => ?_;refine wC (wp_load hc (v := v1) (by rw [eTm, q2]) hb1.cell ?_);refine wC (wMv (v := .slice uq (y.getD []).length ucap) (by rw [eTm, gR, q1]) ?_);refine wC (wp_len hs (q := uq) (len := (y.getD []).length) (cap := ucap) (by rw [eTm, gQ]) ?_);refine wC (wCv (k1 := .i64) (i := ((y.getD []).length : Nat)) h3 h58 (by rw [eTm, gQ]) ?_);have hyb : (y.getD []).length < 4294967296 := by simp only [List.length_append] at hbd; omega
  rw [show IntKind.u32.wrap (((y.getD []).length : Nat) : Int) = (((y.getD []).length : Nat) : Int) from by simp only [IntKind.wrap, IntKind.bits, IntKind.signed]; simp; omega];rw [wCo];refine wCr (vs := #[v1, .int .u32 ((y.getD []).length : Nat)]) hU.enters (by simp only [List.map_toArray, List.map_cons, List.map_nil, eTm]; rw [gR, gR, gR, gQ, gQ])
    (Apd.ret (hU.call w2 _ v1 _ (y.getD []).length hb1.own hyb (by simp only [List.length_append] at hbd ⊢; omega))) ?_
  intro v2 w3 hr2;obtain ⟨th2, hb2, f2, i2⟩ := hb1.step hr2;refine wC (wp_store hc (b := cb) (o := 0) (v := v2) (by rw [eTm, gR, gR, gR, gR, gR, q2]) (by rw [eTm, gQ]) hr2.2.1.one th2 ?_);rw [wNi];have hoct2 := hoct1.kept f2 (hownB _ _ _ hb1) (fun _ h => h);generalize w3.setCell ⟨cb, 0, none⟩ v2 = w4 at hb2 f2 hoct2 ⊢;generalize ha2 : (((((a1.put (some 8) v1).put (some 9) (.slice uq (y.getD []).length ucap)).put (some 10) (.int .i64 ((y.getD []).length : Nat))).put (some 11) (.int .u32 ((y.getD []).length : Nat))).put (some 12) v2).put none undef = a2;have hz2 : a2.tmps.size = 16 := by subst ha2; simp only [sPu]; exact hz1
  have hd2 : a2.defers = [] := by subst ha2; simp only [dPu]; exact hd1
  have r1 : get a2 1 = .slice uq (y.getD []).length ucap := by subst ha2; rw [pNo, gR, gR, gR, gR, gR, q1]
  have r2 : get a2 2 = .pointer (some ⟨cb, 0, none⟩) := by subst ha2; rw [pNo, gR, gR, gR, gR, gR, q2]
  refine hK2 a2 w4 (tUp ?_);refine wp_reg ?_;refine wC (wp_load hc (v := v2) (by rw [eTm, r2]) hb2.cell ?_);refine wC (wMv (v := .slice uq (y.getD []).length ucap) (by rw [eTm, gR, r1]) ?_);refine wC (wp_appA hs hz (v := v2) (by rw [eTm, gR, gQ]) (by rw [eTm, gQ]) hb2.own hoct2 (by simp only [List.length_append] at hbd ⊢; omega) ?_);intro v3 w5 hr3;obtain ⟨_, hv3, hr3⟩ := hr3 _ rfl
  cases hv3
  obtain ⟨th3, hb3, f3, i3⟩ := hb2.step hr3;refine wC (wp_store hc (b := cb) (o := 0) (v := v3) (by rw [eTm, gR, gR, gR, r2]) (by rw [eTm, gQ]) hr3.2.1.one th3 ?_);rw [wNi];generalize w5.setCell ⟨cb, 0, none⟩ v3 = w6 at hb3 f3 ⊢;refine ⟨by simp only [dPu]; exact hd2, .tuple #[], by simp [results, hres], ⟨_, rfl⟩, _, ⟨v3, by rw [hout]; exact hb3, rfl⟩, ?_, ?_⟩
  · exact (f1.trans f2 (In.chain (l := _) (fun z hz => Rng.in_self hz) i1 (Nat.le_refl _))).trans f3 (In.chain i1 i2 f1.size)
  exact In.chain (In.chain i1 i2 f1.size) i3 (Nat.le_trans f1.size f2.size)
theorem tagsW_prefix {l l' : List (Nat × V)} (h : l <+: l') : (tagsW (tagO l)).length ≤ (tagsW (tagO l')).length := by
  obtain ⟨r, rfl⟩ := h;simp only [tagO, tagsW, List.map_append, List.flatten_append, List.length_append]; omega
theorem tagsT_len (x : V) : (tagsT x).length = (tagKv x).length := by
  unfold tagsT;rw [List.length_map, (sortKv_perm _).length_eq]
theorem rep_map {w : World} {A : Nat → Prop} {v : Value} {x : V} (h : Rep w A .tags [v] x) : (∃ q, v = .map q ∧ ((q = none ∧ tagKv x = []) ∨ ∃ r, q = some r ∧ TagM w A r (tagKv x))) ∧ ∀ p ∈ tagKv x, p.1 < 4294967296 := by
  rcases h with ⟨h, rfl⟩ | ⟨r, es, clock, kv, hr, h, h2, h3, rfl, h4⟩
  · simp at h; exact ⟨⟨none, h, .inl ⟨rfl, rfl⟩⟩, by simp [tagKv]⟩
  simp at h; exact ⟨⟨some r, h, .inr ⟨r, rfl, ⟨es, clock, h2, h3, h4⟩⟩⟩, h3.small⟩
theorem taglen_m {P : Program} {f : FuncId} {fn : Func} {T62 T64 kt et : TypeId} {i0 i1 : Nat}
    {t0 t1 t2 t3 t4 t5 t6 : TypeId} {p0 p1 p2 p3 p4 p5 p6 : String} {e0 e1 e2 e3 e4 e5 e6 : Array Edge}
    (hf : P.funcs[f]? = some fn) (hname : (fn.name == "runtime.NumGoroutine") = false) (hres : fn.results = #[.tmp 2]) (hN : fn.ntmps = 8)
    (hbody : fn.body = some (.seq (Code.region i0 ⟨[oA 2 (.const (.int .i64 0)) t0 p0 e0]⟩ false) (.seq (Code.region i1 ⟨[oM 3 0 t1 p1 e1, ⟨some 4, .nilCheck (.tmp 3), t2, p2, e2, none⟩, oF 5 T64 4 0 t3 p3 e3,
      oL 6 T62 5 t4 p4 e4, ⟨some 7, .call ⟨.builtin .len, #[.tmp 6], #[T62]⟩, t5, p5, e5, none⟩, oT 2 7 t6 p6 e6]⟩ false) .ret)))
    (hF : fieldOf P T64 0 0 = true) (h62 : scal P T62 = true) (hT : mapOf P T62 kt et = true) : TagLen P f := by
  refine ⟨enters_of hf hname hbody, ?_⟩;intro w B b o c x hc hr;obtain ⟨⟨q, rfl, hmap⟩, _⟩ := rep_map hr;refine calls_of_wp hf hbody ?_;generalize ha0 : ({ tmps := #[Value.pointer (some ⟨b, o, none⟩)] ++ Array.replicate (fn.ntmps - #[Value.pointer (some ⟨b, o, none⟩)].size) undef, defers := [] } : Act) = a0;have hz0 : a0.tmps.size = 8 := by subst ha0; simp [hN]
  have hd0 : a0.defers = [] := by subst ha0; rfl
  have g0 : get a0 0 = .pointer (some ⟨b, o, none⟩) := by subst ha0; exact gAr rfl
  refine wT fun K1 hK1 => ?_;rw [wCo, wAg, wNi];refine hK1 _ w (tUp ?_);refine wT fun K2 hK2 => ?_;refine wC (wMv (v := .pointer (some ⟨b, o, none⟩)) (by rw [eTm, gR, g0]) ?_);refine wC (wNc (q := ⟨b, o, none⟩) (by rw [eTm, gQ]) ?_);refine wC (wFa (b := b) (i := o) hF (by rw [eTm, gQ]) ?_);refine wC (wp_load h62 (b := b) (o := o) (by rw [eTm, gQ]; simp) hc ?_);refine wC (wp_lenMap (q := q) (A := B) (kv := tagKv x) hT (by rw [eTm, gQ]) hmap ?_);refine wC (wAs (v := .int .i64 (tagKv x).length) (by rw [eTm, gQ]) ?_);rw [wNi];refine hK2 _ w (wp_ret ?_);exact ⟨by simp only [dPu]; exact hd0, _, rIs hres (gQ), by rw [tagsT_len], rfl⟩
theorem tageach_m {P : Program} {f feach fcb : FuncId} {fn : Func} {T22 : TypeId} {i0 i1 i2 : Nat} {a0 : Array TypeId}
    {t0 t1 t2 t3 t4 t5 t6 : TypeId} {p0 p1 p2 p3 p4 p5 p6 : String} {e0 e1 e2 e3 e4 e5 e6 : Array Edge}
    (hf : P.funcs[f]? = some fn) (hname : (fn.name == "runtime.NumGoroutine") = false) (hres : fn.results = #[.tmp 4]) (hN : fn.ntmps = 9)
    (hbody : fn.body = some (.seq (Code.region i0 ⟨[⟨some 3, .box T22 (.tmp 1), t0, p0, e0, none⟩, oA 4 (.const (.slice none 0 0)) t1 p1 e1]⟩ false) (.seq (Code.region i1 ⟨[oM 5 0 t2 p2 e2, ⟨some 6, .makeFunc (.func fcb) #[] #[.tmp 3], t3, p3, e3, none⟩, oC 7 feach #[.tmp 5, .tmp 6] a0 t4 p4 e4]⟩ false) (.seq (Code.region i2 ⟨[oL 8 T22 3 t5 p5 e5, oT 4 8 t6 p6 e6]⟩ false) .ret))))
    (hE : EachM P feach) (hM : AeM P fcb) (hc22 : scal P T22 = true) : TagEach P f := by
  refine ⟨enters_of hf hname hbody, ?_⟩;intro w A B b o c x dst xs hc hr hBb own hAB hB hA hbd;obtain ⟨_, hk⟩ := rep_map hr;refine calls_of_wp hf hbody ?_;generalize ha0 : ({ tmps := #[Value.pointer (some ⟨b, o, none⟩), dst] ++ Array.replicate (fn.ntmps - #[Value.pointer (some ⟨b, o, none⟩), dst].size) undef, defers := [] } : Act) = a0;have hz0 : a0.tmps.size = 9 := by subst ha0; simp [hN]
  have hd0 : a0.defers = [] := by subst ha0; rfl
  have g0 : get a0 0 = .pointer (some ⟨b, o, none⟩) := by subst ha0; exact gAr rfl
  have g1 : get a0 1 = dst := by subst ha0; exact gAr rfl
  refine wT fun K1 hK1 => ?_;refine wC (wp_box (v := dst) (by rw [eTm, g1]) ?_);have hdc : dst.cells = #[dst] := by
    obtain ⟨q, cap, rfl⟩ := own.sl
    rfl
  rw [hdc, wCo, wAg, wNi];have f1 := Fr.alloc [] w (.cells #[dst] T22);have sz1 := size_alloc w (.cells #[dst] T22);have rg1 := range_new w #[dst] T22 (0, 0);have th1 := there_new w #[dst] T22;generalize w.alloc (.cells #[dst] T22) = w1 at f1 sz1 rg1 th1 ⊢;generalize ha1 : (a0.put (some 3) (.pointer (some ⟨w.heap.size, 0, none⟩))).put (some 4) (Act.eval (a0.put (some 3) (.pointer (some ⟨w.heap.size, 0, none⟩))) (.const (.slice none 0 0))) = a1;have hz1 : a1.tmps.size = 9 := by subst ha1; simp only [sPu]; exact hz0
  have hd1 : a1.defers = [] := by subst ha1; simp only [dPu]; exact hd0
  have q0 : get a1 0 = .pointer (some ⟨b, o, none⟩) := by subst ha1; rw [gR, gR, g0]
  have q3 : get a1 3 = .pointer (some ⟨w.heap.size, 0, none⟩) := by subst ha1; rw [gR, gQ]
  refine hK1 a1 w1 (tUp ?_);have hb1 : Bx w1.heap.size A w.heap.size (xs ++ tagsW (tagO [])) dst w1 := by
    refine ⟨range_one.1 rg1, th1, ?_, Nat.le_refl _, by omega, fun b hb => by have := hA b hb; omega⟩;have := own.kept f1 (by simp) (A' := fun b => A b ∨ (w1.heap.size ≤ b ∧ b < w1.heap.size)) fun b h => .inl h
    simpa [tagO, tagsW] using this
  refine wT fun K2 hK2 => ?_;refine wC (wMv (v := .pointer (some ⟨b, o, none⟩)) (by rw [eTm, q0]) ?_);refine wC (wp_makeFunc1 (v := .pointer (some ⟨w.heap.size, 0, none⟩)) (by rw [eTm, gR, q3]) ?_);rw [wCo];have hbnd : (xs ++ tagsW (tagO (sortKv (tagKv x)))).length < 4294967296 := hbd;refine wp_calls (R := fun _ w' => ∃ own', AeI w1.heap.size A w.heap.size xs (sortKv (tagKv x)) own' w' ∧ Fr (⟨w.heap.size, 0, 1⟩ :: spare dst 1) w1 w' ∧ ∀ z ∈ own', z.In (⟨w.heap.size, 0, 1⟩ :: spare dst 1) w1) hE.enters
    (vs := #[.pointer (some ⟨b, o, none⟩), .func (.func fcb) #[] #[.pointer (some ⟨w.heap.size, 0, none⟩)]])
    (by simp only [List.map_toArray, List.map_cons, List.map_nil, eTm]; rw [gR, gQ, gQ])
    ((hE.call w1 B b o c x fcb #[.pointer (some ⟨w.heap.size, 0, none⟩)] (AeI w1.heap.size A w.heap.size xs) (⟨w.heap.size, 0, 1⟩ :: spare dst 1) (f1.cell hc .nil) (Rep.kept f1 (by simp) (fun _ h => h) hr) (fun b hb => by have := hB b hb; omega) hM.enters ⟨dst, hb1, rfl⟩
      (by
        intro z hz
        rcases List.mem_cons.1 hz with rfl | hz
        · exact ⟨fun h => by have := hB _ h; simp only at this; omega, fun h => by have := hB _ hBb; simp only at h; omega, by simp only; omega⟩
        · have h1 := own.spare_in z hz;exact ⟨hAB _ h1, fun h => hAB _ h1 (h ▸ hBb), by have := hA _ h1; omega⟩)
      (fun done own w w' h hf => by obtain ⟨v, h1, h2⟩ := h; exact ⟨v, h1.kept hf, h2⟩)
      (fun done own' w2 k y u hI hkx hu hpre hw1 => by
        rw [show (#[Value.int .u32 (k : Int), u] ++ #[Value.pointer (some ⟨w.heap.size, 0, none⟩)]) = #[Value.int .u32 (k : Int), u, Value.pointer (some ⟨w.heap.size, 0, none⟩)] from by simp];refine hM.call w2 A B w1.heap.size w.heap.size xs done own' k y u hI (hk _ hkx) hu hAB (fun h => by have := hB _ h; omega) (fun b hb => by have := hB b hb; omega) ?_;have := tagsW_prefix hpre;rw [List.length_append] at hbnd ⊢; omega)).mono
      (by rintro e' w' ⟨⟨z, rfl⟩, own', h1, h2, h3⟩; exact ⟨z, rfl, own', h1, h2, h3⟩)) ?_
  rintro zz w2 ⟨own', ⟨v, hb2, rfl⟩, f2, hi2⟩;rw [wNi];refine hK2 _ w2 (tUp ?_);refine wT fun K3 hK3 => ?_;refine wC (wp_load hc22 (v := v) (by rw [eTm, gR, gR, gR, q3]) hb2.cell ?_);refine wC (wAs (v := v) (by rw [eTm, gQ]) ?_);rw [wNi];refine hK3 _ w2 (wp_ret ?_);have hin : ∀ z ∈ (⟨w.heap.size, 0, 1⟩ :: spare dst 1 : List Rng), z.In (spare dst 1) w := by
    intro z hz
    rcases List.mem_cons.1 hz with rfl | hz
    · exact .inl (Nat.le_refl _)
    exact Rng.in_self hz
  refine ⟨by simp only [dPu]; exact hd1, _, rIs hres (gQ), v, rfl, (f1.nil (l := spare dst 1)).trans f2 (fun z hz => ?_), ?_, fun z hz => ?_⟩
  · exact hin z hz
  · refine hb2.own.imp_A fun b hb => hb.imp id fun h => ⟨by omega, h.2⟩
  exact Rng.in_trans (hi2 z (by simp [hz])) hin f1.size
end Go.Kq

namespace Go.Kq
open Go Go.Proofs Go.Shelf
def ltN (x y : Nat) : Bool := decide (x < y)
theorem swo_ltN : Sort.SWO ltN where
  irrefl x := by simp [ltN]
  trans x y z h1 h2 := by simp only [ltN, decide_eq_true_eq] at *; omega
  ntrans x y z h1 h2 := by simp only [ltN, decide_eq_false_iff_not] at *; omega
theorem Fr.growth (w : World) (os : Array Obj) : Fr [] w (Sort.grow w os) where
  os := rfl
  tape := rfl
  output := rfl
  size := by rw [Sort.size_grow]; omega
  block k hk _ := Sort.heap_grow_old w os hk
  cells k cs T fz hk := ⟨cs, by rw [Sort.heap_grow_old w os (lt_of_block hk)]; exact hk, rfl, fun _ _ => rfl⟩
theorem Fr.drewN (w : World) (n : Nat) : Fr [] w (w.drewN n) where
  os := rfl
  tape := rfl
  output := rfl
  size := Nat.le_refl _
  block _ _ _ := rfl
  cells k cs T fz hk := ⟨cs, hk, rfl, fun _ _ => rfl⟩
structure LessM (P : Program) (g : FuncId) : Prop where
  enters : Enters P g
  call : ∀ (W : World) (ob b o c n : Nat) (G : Nat → Nat), W.cell? ⟨ob, 0, none⟩ = some (.slice (some ⟨b, o, none⟩) n c) → (∀ t, t < n → W.cell? ⟨b, o + t, none⟩ = some (.int .u32 ((G t : Nat) : Int))) → ∀ i j : Nat, i < n → j < n →
    Calls P g #[.int .i64 (i : Int), .int .i64 (j : Int), .pointer (some ⟨ob, 0, none⟩)] W fun e w' => e = .returned (.bool (decide (G i < G j))) ∧ ∃ q, w' = W.drewN q
def encK (k : Nat) : Value := .int .u32 (k : Int)
theorem u32s_enc (ks : List Nat) : u32s ks = ks.map encK := rfl
theorem sort_m {P : Program} {ρ : Ren} (L : LaysGg.n6 P ρ) {t e : TypeId} {i ie : TypeInfo} {fs g f2 f6 : FuncId} (hfs : ρ.f 6 = fs) (he : Enters P fs)
    (hi : P.info? t = some i) (hd : i.desc = .slice e) (hpk : P.packed t = false) (hie : P.info? e = some ie) (hke : ∀ w, (Extern.Rtype.kind e).run P w = .ok 10 w) (hs1 : ie.size = 1) (hp : ie.hasPointers = false) (hb : ie.bytes = 4) (hagg : ∀ w, (isAgg e).run P w = .ok false w)
    (hf2 : P.funcs.findIdx? (·.name == "internal/reflectlite" ++ ".Swapper$" ++ toString 2) = some f2) (hf6 : P.funcs.findIdx? (·.name == "internal/reflectlite" ++ ".Swapper$" ++ toString 6) = some f6)
    (gS : Bool) (hx : ∀ args W, (callFunc f6 args).run P W = ((Extern.ReflectliteSwapper.swap gS args).run P W).andThen fun v w' => .ok (.value v) w')
    (hl : LessM P g) : SortM P t fs g := by
  refine ⟨he, ?_⟩;intro w ob b o c ks hcell hr hth hne h32 hlen hks;subst hfs;have hpos : 0 < ks.length := List.length_pos_iff.2 hks;have hblk : b < w.heap.size := by
    have := hr 0 (.int .u32 (ks[0] : Nat)) (by simp [u32s, hpos]);exact lt_of_cell this
  have hH : Sort.Holds encK w b o ks.toArray := by
    intro j hj;have hj' : j < ks.length := by simpa using hj
    refine ⟨?_, (hth j hj').2⟩;have := hr j (.int .u32 (ks[j] : Nat)) (by simp [u32s, hj']);rw [this]; simp [encK, hj']
  by_cases h2 : 2 ≤ ks.length
  · have hK : Lib.swapperK ks.toArray.size ie 10 = 6 := by
      have c1 : (ks.toArray.size == 0) = false := by simp; omega
      have c2 : (ks.toArray.size == 1) = false := by simp; omega
      simp only [Lib.swapperK, c1, c2, hp, hb, Bool.false_and, Bool.false_eq_true, if_false]
    have hless : LessReads P g #[.pointer (some ⟨ob, 0, none⟩)] encK ltN b o ks.toArray.size w := by
      intro m os dk hs i j hi hj;have e1 : sortWorld encK w b o m dk os = Sort.putRow encK (Sort.grow (Sort.ahead w m) os) b o dk := by
        unfold sortWorld; rw [Sort.putRow_grow _ (Sort.ahead w m) _ b o _ hblk]
      have hHg : Sort.Holds encK (Sort.grow (Sort.ahead w m) os) b o ks.toArray := Sort.holds_grow _ _ _ b o _ hblk (Sort.holds_ahead _ _ _ _ _ _ hH);rw [show (#[Value.int .i64 (i : Int), Value.int .i64 (j : Int)] ++ #[Value.pointer (some ⟨ob, 0, none⟩)]) = #[Value.int .i64 (i : Int), Value.int .i64 (j : Int), Value.pointer (some ⟨ob, 0, none⟩)] from by simp];refine hl.call _ ob b o c ks.toArray.size (fun t => dk[t]!) ?_ (fun t ht => ?_) i j hi hj
      · rw [e1, Sort.cell?_putRow_other _ _ b o dk _ (Or.inl hne), Sort.cell?_grow _ _ _ (lt_of_cell hcell)];show w.cell? _ = _
        rw [hcell]; simp
      rw [e1]; exact Sort.cell?_putRow _ _ b o ks.toArray dk hHg hs t (by omega)
    have hS := Any.sort_Slice_sorted L t e i ie hi hd hpk hie 10 hke hs1 hagg encK (fun _ => rfl) ltN swo_ltN g #[.pointer (some ⟨ob, 0, none⟩)] hl.enters b o c ks.toArray (by simpa using h2) (by simp; omega) f6 (by rw [hK]; exact hf6) gS hx w hless hH hblk;have hsz : ks.toArray.size = ks.length := by simp
    rw [hsz] at hS;refine hS.mono ?_;rintro e w' ⟨rfl, d', n, os, hpm, hso, rfl⟩;obtain ⟨p1, _, p3⟩ := hpm;have p1' : d'.size = ks.length := by rw [p1, hsz]
    have hperm : d'.toList.Perm ks := by
      have e1 : d'.extract 0 ks.length = d' := by rw [← p1']; simp
      have e2 : ks.toArray.extract 0 ks.length = ks.toArray := by rw [← hsz]; simp
      rw [e1, e2] at p3
      simpa using p3
    have hw : Sort.grow (Sort.putRow encK (Sort.ahead w n) b o d') os = Sort.grow ((w.drewN n).setCells b o (u32s d'.toList)) os := by
      have := Lib.sorted_world encK w b o n ks.toArray d'.toList os hH (by rw [Array.length_toList, p1]);rw [Array.toArray_toList] at this;rw [this, u32s_enc]
    rw [hw];have f1 := Fr.drewN w n;have f2 := Fr.sets b (u32s d'.toList) (w.drewN n) o;have hul : (u32s d'.toList).length = ks.length := by simp [u32s, p1']
    have r2 := World.rangeAt_setCells_same (w.drewN n) b o (u32s d'.toList) (by rw [hul]; exact f1.there hth);generalize (w.drewN n).setCells b o (u32s d'.toList) = w2 at f2 r2 ⊢;have f3 := Fr.growth w2 os;refine ⟨⟨_, rfl⟩, d'.toList, hperm, ?_, f3.range r2 .nil, ?_⟩
    · rw [List.pairwise_iff_getElem];intro i j hi hj hij;have hi' : i < d'.size := by simpa using hi
      have hj' : j < d'.size := by simpa using hj
      have := hso i j (Nat.zero_le _) hij (by omega);simp only [ltN, decide_eq_false_iff_not, getElem!_pos d' i hi', getElem!_pos d' j hj'] at this;simp only [Array.getElem_toList]; omega
    refine (f1.nil (l := [⟨b, o, o + ks.length⟩])).tr (Fr.tr (b := w2) ?_ (f3.nil));rw [hul] at f2; exact f2
  have h1 : ks.length = 1 := by omega
  have hK : Lib.swapperK ks.length ie 10 = 2 := by rw [h1]; rfl
  refine (Any.sort_Slice_tiny L t e i ie hi hd hpk hie 10 hke (some ⟨b, o, none⟩) ks.length c (by omega) f2 (by rw [hK]; exact hf2) (.func g) #[] #[.pointer (some ⟨ob, 0, none⟩)] w).mono ?_;rintro e w' ⟨rfl, os, rfl⟩;have f3 := Fr.growth w os;refine ⟨⟨_, rfl⟩, ks, List.Perm.refl _, ?_, f3.range hr .nil, f3.nil⟩;obtain ⟨k, rfl⟩ := List.length_eq_one_iff.1 h1;simp
end Go.Kq

namespace Go.Kq
open Go Go.Proofs
theorem lawm_m {P : Program} {f : FuncId} {fn : Func} {T3 T4 T26 T28 T30 : TypeId} {f8 f10 f12 f13 f15 f16 f17 f18 f19 : FuncId} {ct0 : Array TypeId} {ct1 : Array TypeId} {ct2 : Array TypeId} {ct3 : Array TypeId} {ct4 : Array TypeId} {ct5 : Array TypeId} {ct6 : Array TypeId} {ct7 : Array TypeId} {ct8 : Array TypeId} {i0 i1 i2 i3 i4 i5 i6 i7 : Nat} {t0 t1 t2 t3 t4 t5 t6 t7 t8 t9 t10 t11 t12 t13 t14 t15 t16 t17 t18 t19 t20 t21 t22 t23 t24 t25 t26 t27 t28 t29 t30 t31 : TypeId} {p0 p1 p2 p3 p4 p5 p6 p7 p8 p9 p10 p11 p12 p13 p14 p15 p16 p17 p18 p19 p20 p21 p22 p23 p24 p25 p26 p27 p28 p29 p30 p31 : String} {e0 e1 e2 e3 e4 e5 e6 e7 e8 e9 e10 e11 e12 e13 e14 e15 e16 e17 e18 e19 e20 e21 e22 e23 e24 e25 e26 e27 e28 e29 e30 e31 : Array Edge} {mx : Nat} {fx : Int} {fs : List Fd} {enc : Int → Bool → T → List UInt8} {ft : Int → T → T} {g : Int → T → List UInt8 → Prop} {small : T → Prop}
    (hf : P.funcs[f]? = some fn) (hname : (fn.name == "runtime.NumGoroutine") = false) (hres' : fn.results = #[.tmp 4]) (hN : fn.ntmps = 31)
    (hbody : fn.body = some (.seq (Code.region i0 ⟨[⟨some 3, .box T26 (.tmp 1), t0, p0, e0, none⟩,
    oA 4 (.const (.bool false)) t1 p1 e1]⟩ false) (.seq (.seq (Code.region i1 ⟨[oL 8 T26 3 t2 p2 e2,
    oC 9 f8 #[(.tmp 8)] ct0 t3 p3 e3, ⟨some 10, .unOp .not T4 (.tmp 9), t4, p4, e4, none⟩]⟩ false) (.cond (.tmp 10) (.seq (Code.region i2 ⟨[oA 4 (.const (.bool true)) t5 p5 e5]⟩ false) .ret) .skip)) (.seq (Code.region i3 ⟨[oC 11 f15 #[] ct1 t6 p6 e6,
    oT 5 11 t7 p7 e7]⟩ false) (.seq (.seq (Code.region i4 ⟨[oM 12 5 t8 p8 e8, ⟨some 13, .binOp .lss T3 (.tmp 12) (.const (.int .i64 0)) T3, t9, p9, e9, none⟩]⟩ false) (.cond (.tmp 13) (.seq (Code.region i5 ⟨[oA 4 (.const (.bool false)) t10 p10 e10]⟩ false) .ret) .skip)) (.seq (Code.region i6 ⟨[oC 14 f16 #[] ct2 t11 p11 e11,
    oM 15 0 t12 p12 e12,
    oM 16 5 t13 p13 e13,
    oC 17 f17 #[(.tmp 15), (.tmp 16)] ct3 t14 p14 e14, ⟨some 6, .alloc T30, t15, p15, e15, none⟩,
    oS T30 6 14 t16 p16 e16,
    oT 7 17 t17 p17 e17]⟩ false) (.seq (Code.region i7 ⟨[oM 18 7 t18 p18 e18,
    oF 19 T30 6 0 t19 p19 e19,
    oL 20 T28 19 t20 p20 e20,
    oM 21 7 t21 p21 e21,
    oL 22 T26 3 t22 p22 e22,
    oC 23 f13 #[(.tmp 20), (.tmp 21), (.tmp 22)] ct4 t23 p23 e23,
    oC 24 f12 #[(.tmp 23)] ct5 t24 p24 e24,
    oC 25 f18 #[(.tmp 18), (.tmp 24)] ct6 t25 p25 e25,
    oL 26 T30 6 t26 p26 e26,
    oM 27 7 t27 p27 e27,
    oL 28 T26 3 t28 p28 e28,
    oC 29 f19 #[(.tmp 26), (.tmp 27), (.tmp 28)] ct7 t29 p29 e29,
    oC 30 f10 #[(.tmp 25), (.tmp 29)] ct8 t30 p30 e30,
    oT 4 30 t31 p31 e31]⟩ true) .ret)))))))
    (hFlT26 : Flat P T26 zT) (hFlT30 : Flat P T30 zM) (hcT28 : scal P T28 = true) (he7 : edgeOk 0 [e18, e19, e20, e21, e22, e23, e24, e25, e26, e27, e28, e29, e30, e31] [[], [], [1], [], [], [2, 3, 4], [5], [0, 6], [], [], [], [8, 9, 10], [7, 11], [0, 1, 2, 3, 4, 5, 6, 7, 8, 9, 10, 11, 12]] = true) (hmx : P.follows .mixedOrders = true) (hFit : FitM P f8) (hMax : MaxM P f15 mx) (hmb : mx < 32768) (hSch : SchM P f16 fs fx) (hVer : VerM P f17) (hFt : FitTM P f13 fs ft) (hGi : Enters P f12 ∧ ∀ t, GotCall P f12 t) (hMk : MakeM P f18 g) (hWr : WriteM P f19 fs enc) (hSame : SameM P f10)
    (hplain : ∀ ver : Int, 0 ≤ ver → ver ≤ mx → ∀ t, small t → (enc ver (decide (fx ≥ 0) && decide (ver ≥ fx)) t).length ≤ 2147483648 ∧ ∀ ys, g ver (ft ver t) ys → ys = enc ver (decide (fx ≥ 0) && decide (ver ≥ fx)) t) : LawK P f small := by
  refine ⟨enters_of hf hname hbody, ?_⟩;intro w n B ct t hn ht hB hsm
  cases t with
  | mk tn s nl l u =>
  have ht0 := ht;obtain ⟨sv, lv, uv, rfl, hn0, hs, hl, hu⟩ := repT_iff.1 ht;have hF0 : Fr [] w w := Fr.refl [] w;have hv1 : n % (mx + 1) ≤ mx := by have := Nat.mod_lt n (show 0 < mx + 1 by omega); omega
  obtain ⟨hlen, hres⟩ := hplain ((n % (mx + 1) : Nat) : Int) (by omega) (by omega) _ hsm;refine calls_of_wp hf hbody ?_;generalize ha0 : ({ tmps := #[Value.int .u8 (n : Int), Value.agg ([.int .i64 tn, sv, .bool nl, lv, uv] : List Value).toArray] ++ Array.replicate (fn.ntmps - (#[Value.int .u8 (n : Int), Value.agg ([.int .i64 tn, sv, .bool nl, lv, uv] : List Value).toArray] : Array Value).size) undef, defers := [] } : Act) = a0;have hz0 : a0.tmps.size = 31 := by subst ha0; simp [hN]
  have hd0 : a0.defers = [] := by subst ha0; rfl
  have g0_0 : get a0 0 = .int .u8 (n : Int) := by subst ha0; exact gAr rfl
  have g0_1 : get a0 1 = .agg ([.int .i64 tn, sv, .bool nl, lv, uv] : List Value).toArray := by subst ha0; exact gAr rfl
  refine wT fun K1 hK1 => ?_;refine wC (wp_boxL (cs := [.int .i64 tn, sv, .bool nl, lv, uv]) (eK g0_1) ?_);rintro w2 f2 sz2 r2 th2;have hF3 : Fr [] w w2 := hF0.tr f2;refine wC (wAs (v := .bool false) rfl ?_);refine wEk hz0 hd0 fun a4 ha4 hz4 hd4 => ?_;have g4_0 := kP ha4 g0_0;have g4_3 : get a4 3 = .pointer (some ⟨w.heap.size, 0, none⟩) := kG ha4 hz0;refine hK1 a4 w2 (tUp ?_);refine tId (wp_seq_k fun K5 hK5 => ?_);refine wS fun K6 hK6 => ?_;refine wC (wp_loadFlat (cs := [.int .i64 tn, sv, .bool nl, lv, uv]) (b := w.heap.size) (o := 0) hFlT26 rfl (eK g4_3) r2 ?_);refine wC (wCr (R := fun vz wz => (∃ b : Bool, vz = .bool b) ∧ Fr [] w2 wz) (vs := #[.agg ([.int .i64 tn, sv, .bool nl, lv, uv] : List Value).toArray]) hFit.enters (mX1 (eS hz4)) ((hFit.call w2 B _ _ (ht0.kept hF3 (by simp) (fun _ h => h))).mono (by rintro e wz ⟨⟨b, rfl⟩, h⟩; exact ⟨_, rfl, ⟨b, rfl⟩, h⟩)) ?_);rintro _ w7 ⟨⟨bb, rfl⟩, fr7⟩;have hF8 : Fr [] w w7 := hF3.tr fr7;have hL8_w2 : Fr [] w2 w7 := (Fr.refl [] w2).tr fr7;have rb9 := fr7.range r2 .nil;refine wC (wp_not (b := bb) (eS hz4) ?_);refine wEk hz4 hd4 fun a10 ha10 hz10 hd10 => ?_;have g10_0 := kP ha10 g4_0;have g10_3 := kP ha10 g4_3;have g10_10 : get a10 10 = .bool (!bb) := kG ha10 hz4;refine hK6 a10 w7 ?_;refine wp_cond_split (t := !bb) (eK g10_10) (fun hc11 => ?_) (fun hc11 => ?_)
  · refine wp_seq_k fun K12 hK12 => ?_;refine wp_reg ?_;refine wC (wAs (v := .bool true) rfl ?_);refine wEk hz10 hd10 fun a13 ha13 hz13 hd13 => ?_;have g13_4 : get a13 4 = .bool true := kG ha13 hz10;refine hK12 a13 w7 ?_;refine wp_ret ?_;exact ⟨hd13, _, rIs hres' g13_4, rfl, hF8⟩
  refine wp_skip ?_;refine hK5 a10 w7 (tUp ?_);refine wT fun K14 hK14 => ?_;refine wC (wCr (R := fun vz wz => vz = .int .i64 (mx : Int) ∧ Fr [] w7 wz) (vs := #[]) hMax.1 (by simp) ((hMax.2 w7).mono (by rintro e wz ⟨rfl, h⟩; exact ⟨_, rfl, rfl, h⟩)) ?_);rintro _ w15 ⟨rfl, fr15⟩;have hF16 : Fr [] w w15 := hF8.tr fr15;have hL16_w2 : Fr [] w2 w15 := hL8_w2.tr fr15;have rb17 := fr15.range rb9 .nil;refine wC (wAs (v := .int .i64 (mx : Int)) (eS hz10) ?_);refine wEk hz10 hd10 fun a18 ha18 hz18 hd18 => ?_;have g18_0 := kP ha18 g10_0;have g18_3 := kP ha18 g10_3;have g18_5 : get a18 5 = .int .i64 (mx : Int) := kG ha18 hz10;refine hK14 a18 w15 (tUp ?_);refine tId (wp_seq_k fun K19 hK19 => ?_);refine wS fun K20 hK20 => ?_;refine wC (wMv (v := .int .i64 (mx : Int)) (eK g18_5) ?_);refine wC (wp_lssF (k1 := .i64) (i := (mx : Int)) (j := 0) (by omega) (eS hz18) rfl ?_);refine wEk hz18 hd18 fun a21 ha21 hz21 hd21 => ?_;have g21_0 := kP ha21 g18_0;have g21_3 := kP ha21 g18_3;have g21_5 := kP ha21 g18_5;have g21_13 : get a21 13 = .bool false := kG ha21 hz18;refine hK20 a21 w15 ?_;refine wp_cond_split (t := false) (eK g21_13) (fun h => by cases h) (fun _ => ?_);refine wp_skip ?_;refine hK19 a21 w15 (tUp ?_);refine wT fun K23 hK23 => ?_;refine wC (wCr (R := fun vz wz => ∃ fsv, vz = .agg ([fsv, .int .i64 fx] : List Value).toArray ∧ Fr [] w15 wz ∧ FdsR wz (From w15.heap.size wz) fsv fs) (vs := #[]) hSch.enters (by simp) ((hSch.call w15).mono (by rintro e wz ⟨v, rfl, h⟩; exact ⟨_, rfl, v, rfl, h⟩)) ?_);rintro _ w24 ⟨fsv, rfl, fr24, hfs⟩;have hfs1 := hfs.one;have hF25 : Fr [] w w24 := hF16.tr fr24;have hL25_w2 : Fr [] w2 w24 := hL16_w2.tr fr24;have rb26 := fr24.range rb17 .nil;refine wC (wMv (v := .int .u8 (n : Int)) (eK g21_0) ?_);refine wC (wMv (v := .int .i64 (mx : Int)) (eK g21_5) ?_);refine wC (wCr (R := fun vz wz => vz = .int .i64 ((n % (mx + 1) : Nat) : Int) ∧ Fr [] w24 wz) (vs := #[.int .u8 (n : Int), .int .i64 (mx : Int)]) hVer.1 (mX2 (eS hz21) (eS hz21)) ((hVer.2 w24 n mx hn hmb).mono (by rintro e wz ⟨rfl, rfl⟩; exact ⟨_, rfl, rfl, Fr.refl _ _⟩)) ?_);rintro _ w27 ⟨rfl, fr27⟩;have hF28 : Fr [] w w27 := hF25.tr fr27;have hL28_w2 : Fr [] w2 w27 := hL25_w2.tr fr27;have hL28_w24 : Fr [] w24 w27 := (Fr.refl [] w24).tr fr27;have rb29 := fr27.range rb26 .nil;rw [wCo];have hgs30 := hL28_w2.size;have hgs31 := hL28_w24.size;have hgs32 := hF28.size;refine wp_allocL hFlT30 ?_;rintro w33 f33 sz33 r33 th33;have hF34 : Fr [] w w33 := hF28.tr f33;have hL34_w24 : Fr [] w24 w33 := hL28_w24.tr f33;have rb35 := f33.range rb29 .nil;refine wC (wp_storeL (cs := [fsv, .int .i64 fx]) (o := 0) hFlT30 rfl (eS hz21) (eS hz21) (by intro u hu; simp at hu; rcases hu with rfl | rfl; exact hfs1; rfl) th33 ?_);rintro w36 f36 sz36 r36 th36;have hF36 : Fr [] w w36 := hF34.trans f36 (fun r hr => .inl (by simp at hr; subst hr; have := hF28.size; simp only; omega));have rb37 := f36.range rb35 (.cons (.inl (by simp only; omega)) .nil);have hL36_w24 : Fr [] w24 w36 := hL34_w24.trans f36 (fun r hr => .inl (by simp at hr; subst hr; have := hL28_w24.size; simp only; omega));refine wC (wAs (v := .int .i64 ((n % (mx + 1) : Nat) : Int)) (by rw [eTm, pNo, nZ (by decide), sZ (zZ (zZ (zZ hz21))) (by decide)]) ?_);refine wEk hz21 hd21 fun a38 ha38 hz38 hd38 => ?_;have g38_3 := kP ha38 g21_3;have g38_6 : get a38 6 = .pointer (some ⟨w27.heap.size, 0, none⟩) := kG ha38 hz21;have g38_7 : get a38 7 = .int .i64 ((n % (mx + 1) : Nat) : Int) := kG ha38 hz21;refine hK23 a38 w36 (tUp ?_);refine tId (wp_seq_k fun K39 hK39 => ?_);have hfs4 := hfs.kept hL36_w24 (by simp) (fun _ h => h);have ht4 := ht0.kept hF36 (by simp) (fun _ h => h);refine wp_drawR (os := [oM 18 7 t18 p18 e18, oF 19 T30 6 0 t19 p19 e19, oL 20 T28 19 t20 p20 e20, oM 21 7 t21 p21 e21, oL 22 T26 3 t22 p22 e22, oC 23 f13 #[(.tmp 20), (.tmp 21), (.tmp 22)] ct4 t23 p23 e23, oC 24 f12 #[(.tmp 23)] ct5 t24 p24 e24, oC 25 f18 #[(.tmp 18), (.tmp 24)] ct6 t25 p25 e25, oL 26 T30 6 t26 p26 e26, oM 27 7 t27 p27 e27, oL 28 T26 3 t28 p28 e28, oC 29 f19 #[(.tmp 26), (.tmp 27), (.tmp 28)] ct7 t29 p29 e29, oC 30 f10 #[(.tmp 25), (.tmp 29)] ct8 t30 p30 e30]) (rest := [oT 4 30 t31 p31 e31]) [spC [] (.int .i64 ((n % (mx + 1) : Nat) : Int)), spC [] (.pointer (some ⟨w27.heap.size, 0, none⟩)), spC [1] (fsv), spC [] (.int .i64 ((n % (mx + 1) : Nat) : Int)), spC [] (.agg ([.int .i64 tn, sv, .bool nl, lv, uv] : List Value).toArray), spR [2, 3, 4] (fun x w' => ∃ gc : List Value, x = .agg gc.toArray ∧ RepT w' (fun b => B b ∨ From w36.heap.size w' b) gc (ft ((n % (mx + 1) : Nat) : Int) (.mk tn s nl l u))), spR [5] (fun x w' => ∃ gc : List Value, x = .agg gc.toArray ∧ RepT w' (fun b => B b ∨ From w36.heap.size w' b) gc (ft ((n % (mx + 1) : Nat) : Int) (.mk tn s nl l u))), spR [0, 6] (fun x w' => ∃ ys, g ((n % (mx + 1) : Nat) : Int) (ft ((n % (mx + 1) : Nat) : Int) (.mk tn s nl l u)) ys ∧ OctE w' (From w36.heap.size w') x ys), spC [] (.agg ([fsv, .int .i64 fx] : List Value).toArray), spC [] (.int .i64 ((n % (mx + 1) : Nat) : Int)), spC [] (.agg ([.int .i64 tn, sv, .bool nl, lv, uv] : List Value).toArray), spR [8, 9, 10] (fun x w' => OctE w' (From w36.heap.size w') x (enc ((n % (mx + 1) : Nat) : Int) (decide (fx ≥ 0) && decide (((n % (mx + 1) : Nat) : Int) ≥ fx)) (.mk tn s nl l u))), spR [7, 11] (fun x w' => x = .bool true)] 18 [] hmx he7 (by simp [shape]) (by simp [plainO]) (by simp [spC, spR]) (by simp; omega) ⟨lCc _ _ _, lCc _ _ _, lCc _ _ _, lCc _ _ _, lCc _ _ _, (fun v w1 w2 f h => by obtain ⟨gc, h1, h2⟩ := h; exact ⟨gc, h1, h2.kept f (by simp) (fun b hb => hb.imp id fun hb => ⟨hb.1, Nat.lt_of_lt_of_le hb.2 f.size⟩)⟩), (fun v w1 w2 f h => by obtain ⟨gc, h1, h2⟩ := h; exact ⟨gc, h1, h2.kept f (by simp) (fun b hb => hb.imp id fun hb => ⟨hb.1, Nat.lt_of_lt_of_le hb.2 f.size⟩)⟩), (fun v w1 w2 f h => by obtain ⟨ys, h1, h2⟩ := h; exact ⟨ys, h1, h2.kept f (by simp) (fun _ hb => ⟨hb.1, Nat.lt_of_lt_of_le hb.2 f.size⟩)⟩), lCc _ _ _, lCc _ _ _, lCc _ _ _, (fun v w1 w2 f h => OctE.kept h f (by simp) (fun _ hb => ⟨hb.1, Nat.lt_of_lt_of_le hb.2 f.size⟩)), (fun v w1 w2 f h => h), trivial⟩ ?_ ?_
  · refine oCs ?_ ?_
    · refine op_c fun a' w' hk' hf' hd' K' hK' => ?_;refine wMv (v := .int .i64 ((n % (mx + 1) : Nat) : Int)) (by rw [eTm, hk'.get 7 (by omega), g38_7]) ?_;exact hK'
    refine oCs ?_ ?_
    · refine op_c fun a' w' hk' hf' hd' K' hK' => ?_;refine wFa (b := w27.heap.size) (i := 0) (hFlT30.fld (by decide)) (by rw [eTm, hk'.get 6 (by omega), g38_6]) ?_;rw [show (0 + 0 : Nat) = 0 from rfl];exact hK'
    refine oCs ?_ ?_
    · refine op_c fun a' w' hk' hf' hd' K' hK' => ?_;refine wL0 (j := 0) (v := fsv) hcT28 (by rw [eTm]; exact hd'.c (nd' := []) 1 (by simp) rfl) (hf'.range r36 .nil) rfl ?_;exact hK'
    refine oCs ?_ ?_
    · refine op_c fun a' w' hk' hf' hd' K' hK' => ?_;refine wMv (v := .int .i64 ((n % (mx + 1) : Nat) : Int)) (by rw [eTm, hk'.get 7 (by omega), g38_7]) ?_;exact hK'
    refine oCs ?_ ?_
    · refine op_c fun a' w' hk' hf' hd' K' hK' => ?_;refine wp_loadFlat (cs := [.int .i64 tn, sv, .bool nl, lv, uv]) (b := w.heap.size) (o := 0) hFlT26 rfl (by rw [eTm, hk'.get 3 (by omega), g38_3]) (hf'.range rb37 .nil) ?_;exact hK'
    refine oCs ?_ ?_
    · refine op_r fun a' w' hk' hf' hd' K' hK' => ?_;refine wCr (R := fun vz wz => ∃ gc : List Value, vz = .agg gc.toArray ∧ Fr [] w' wz ∧ RepT wz (fun b => B b ∨ From w'.heap.size wz b) gc (ft ((n % (mx + 1) : Nat) : Int) (.mk tn s nl l u))) (vs := #[fsv, .int .i64 ((n % (mx + 1) : Nat) : Int), .agg ([.int .i64 tn, sv, .bool nl, lv, uv] : List Value).toArray]) hFt.enters (by simp only [List.map_toArray, List.map_cons, List.map_nil]; rw [show a'.eval (.tmp 20) = fsv from (by rw [eTm]; exact hd'.c (nd' := [1]) 2 (by simp) rfl), show a'.eval (.tmp 21) = Value.int .i64 ((n % (mx + 1) : Nat) : Int) from (by rw [eTm]; exact hd'.c (nd' := []) 3 (by simp) rfl), show a'.eval (.tmp 22) = Value.agg ([.int .i64 tn, sv, .bool nl, lv, uv] : List Value).toArray from (by rw [eTm]; exact hd'.c (nd' := []) 4 (by simp) rfl)]) ((hFt.call w' _ B ((n % (mx + 1) : Nat) : Int) fsv _ _ (hfs4.kept hf' (by simp) (fun _ h => h)) (ht4.kept hf' (by simp) (fun _ h => h)) (fun b hb => Nat.lt_of_lt_of_le hb.2 (Nat.le_trans hL36_w24.size hf'.size)) (fun b hb => Nat.lt_of_lt_of_le (hB b hb) (Nat.le_trans hF36.size hf'.size))).mono (by rintro e wz ⟨cs, rfl, h1, h2⟩; exact ⟨_, rfl, cs, rfl, h1, h2⟩)) ?_;rintro _ w40 ⟨gc, rfl, fr40, hg40⟩;exact hK' _ w40 ⟨gc, rfl, hg40.kept (Fr.refl [] _) (by simp) (fun b hb => hb.imp id fun hb => (⟨Nat.le_trans hf'.size hb.1, hb.2⟩ : From w36.heap.size w40 b))⟩ fr40
    refine oCs ?_ ?_
    · refine op_r fun a' w' hk' hf' hd' K' hK' => ?_;obtain ⟨gc, hgc, hgt⟩ : ∃ gc : List Value, get a' 23 = .agg gc.toArray ∧ RepT w' (fun b => B b ∨ From w36.heap.size w' b) gc (ft ((n % (mx + 1) : Nat) : Int) (.mk tn s nl l u)) := hd'.at (d := 5) (by simp) rfl;refine wCr (R := fun vz wz => ∃ gc : List Value, vz = .agg gc.toArray ∧ Fr [] w' wz ∧ RepT wz (fun b => (B b ∨ From w36.heap.size w' b) ∨ From w'.heap.size wz b) gc (ft ((n % (mx + 1) : Nat) : Int) (.mk tn s nl l u))) (vs := #[.agg gc.toArray]) hGi.1 (by simp only [List.map_toArray, List.map_cons, List.map_nil]; rw [show a'.eval (.tmp 23) = Value.agg gc.toArray from (by rw [eTm]; exact hgc)]) ((hGi.2 _ w' _ gc hgt (fun b hb => by rcases hb with hb | hb; exact Nat.lt_of_lt_of_le (hB b hb) (Nat.le_trans hF36.size hf'.size); exact hb.2)).mono (by rintro e wz ⟨cs, rfl, h1, h2⟩; exact ⟨_, rfl, cs, rfl, h1, h2⟩)) ?_;rintro _ w41 ⟨gc', rfl, fr41, hg41⟩;exact hK' _ w41 ⟨gc', rfl, hg41.kept (Fr.refl [] _) (by simp) (fun b hb => by rcases hb with (hb | hb) | hb; exact .inl hb; exact .inr ⟨hb.1, Nat.lt_of_lt_of_le hb.2 fr41.size⟩; exact .inr ⟨Nat.le_trans hf'.size hb.1, hb.2⟩)⟩ fr41
    refine oCs ?_ ?_
    · refine op_r fun a' w' hk' hf' hd' K' hK' => ?_;obtain ⟨gc, hgc, hgt⟩ : ∃ gc : List Value, get a' 24 = .agg gc.toArray ∧ RepT w' (fun b => B b ∨ From w36.heap.size w' b) gc (ft ((n % (mx + 1) : Nat) : Int) (.mk tn s nl l u)) := hd'.at (d := 6) (by simp) rfl;refine wCr (R := fun vz wz => Fr [] w' wz ∧ ∃ ys, g ((n % (mx + 1) : Nat) : Int) (ft ((n % (mx + 1) : Nat) : Int) (.mk tn s nl l u)) ys ∧ OctE wz (From w'.heap.size wz) vz ys) (vs := #[.int .i64 ((n % (mx + 1) : Nat) : Int), .agg gc.toArray]) hMk.enters (by simp only [List.map_toArray, List.map_cons, List.map_nil]; rw [show a'.eval (.tmp 18) = Value.int .i64 ((n % (mx + 1) : Nat) : Int) from (by rw [eTm]; exact hd'.c (nd' := []) 0 (by simp) rfl), show a'.eval (.tmp 24) = Value.agg gc.toArray from (by rw [eTm]; exact hgc)]) ((hMk.call w' _ ((n % (mx + 1) : Nat) : Int) gc _ (by omega) (by omega) hgt (fun b hb => by rcases hb with hb | hb; exact Nat.lt_of_lt_of_le (hB b hb) (Nat.le_trans hF36.size hf'.size); exact hb.2) (fun ys hy => by rw [hres ys hy]; omega)).mono (by rintro e wz ⟨v, ys, rfl, h1, h2, h3⟩; exact ⟨_, rfl, h2, ys, h1, h3⟩)) ?_;rintro x42 w42 ⟨fr42, ys, hy42, ho42⟩;exact hK' x42 w42 ⟨ys, hy42, ho42.kept (Fr.refl [] _) (by simp) (fun b hb => (⟨Nat.le_trans hf'.size hb.1, hb.2⟩ : From w36.heap.size w42 b))⟩ fr42
    refine oCs ?_ ?_
    · refine op_c fun a' w' hk' hf' hd' K' hK' => ?_;refine wp_loadFlat (cs := [fsv, .int .i64 fx]) (b := w27.heap.size) (o := 0) hFlT30 rfl (by rw [eTm, hk'.get 6 (by omega), g38_6]) (hf'.range r36 .nil) ?_;exact hK'
    refine oCs ?_ ?_
    · refine op_c fun a' w' hk' hf' hd' K' hK' => ?_;refine wMv (v := .int .i64 ((n % (mx + 1) : Nat) : Int)) (by rw [eTm, hk'.get 7 (by omega), g38_7]) ?_;exact hK'
    refine oCs ?_ ?_
    · refine op_c fun a' w' hk' hf' hd' K' hK' => ?_;refine wp_loadFlat (cs := [.int .i64 tn, sv, .bool nl, lv, uv]) (b := w.heap.size) (o := 0) hFlT26 rfl (by rw [eTm, hk'.get 3 (by omega), g38_3]) (hf'.range rb37 .nil) ?_;exact hK'
    refine oCs ?_ ?_
    · refine op_r fun a' w' hk' hf' hd' K' hK' => ?_;refine wCr (R := fun vz wz => Fr [] w' wz ∧ OctE wz (From w'.heap.size wz) vz (enc ((n % (mx + 1) : Nat) : Int) (decide (fx ≥ 0) && decide (((n % (mx + 1) : Nat) : Int) ≥ fx)) (.mk tn s nl l u))) (vs := #[.agg ([fsv, .int .i64 fx] : List Value).toArray, .int .i64 ((n % (mx + 1) : Nat) : Int), .agg ([.int .i64 tn, sv, .bool nl, lv, uv] : List Value).toArray]) hWr.enters (by simp only [List.map_toArray, List.map_cons, List.map_nil]; rw [show a'.eval (.tmp 26) = Value.agg ([fsv, .int .i64 fx] : List Value).toArray from (by rw [eTm]; exact hd'.c (nd' := []) 8 (by simp) rfl), show a'.eval (.tmp 27) = Value.int .i64 ((n % (mx + 1) : Nat) : Int) from (by rw [eTm]; exact hd'.c (nd' := []) 9 (by simp) rfl), show a'.eval (.tmp 28) = Value.agg ([.int .i64 tn, sv, .bool nl, lv, uv] : List Value).toArray from (by rw [eTm]; exact hd'.c (nd' := []) 10 (by simp) rfl)]) ((calls_fresh (hWr.call w' _ B ((n % (mx + 1) : Nat) : Int) fx fsv _ _ (hfs4.kept hf' (by simp) (fun _ h => h)) (ht4.kept hf' (by simp) (fun _ h => h)) (fun b hb => Nat.lt_of_lt_of_le hb.2 (Nat.le_trans hL36_w24.size hf'.size)) (fun b hb => Nat.lt_of_lt_of_le (hB b hb) (Nat.le_trans hF36.size hf'.size)) (by omega))).mono (by rintro e wz ⟨v, rfl, h1, h2⟩; exact ⟨_, rfl, h1, h2.octE (by omega)⟩)) ?_;rintro x43 w43 ⟨fr43, ho43⟩;exact hK' x43 w43 (ho43.kept (Fr.refl [] _) (by simp) (fun b hb => (⟨Nat.le_trans hf'.size hb.1, hb.2⟩ : From w36.heap.size w43 b))) fr43
    refine oCs ?_ ?_
    · refine op_r fun a' w' hk' hf' hd' K' hK' => ?_;obtain ⟨iv, hiv, ys, hy, hio⟩ : ∃ iv, get a' 25 = iv ∧ ∃ ys, g ((n % (mx + 1) : Nat) : Int) (ft ((n % (mx + 1) : Nat) : Int) (.mk tn s nl l u)) ys ∧ OctE w' (From w36.heap.size w') iv ys := ⟨_, rfl, hd'.at (d := 7) (by simp) rfl⟩;obtain ⟨fv, hfv, hfo⟩ : ∃ fv, get a' 29 = fv ∧ OctE w' (From w36.heap.size w') fv (enc ((n % (mx + 1) : Nat) : Int) (decide (fx ≥ 0) && decide (((n % (mx + 1) : Nat) : Int) ≥ fx)) (.mk tn s nl l u)) := ⟨_, rfl, hd'.at (d := 11) (by simp) rfl⟩;rw [hres ys hy] at hio;refine wCr (R := fun vz wz => vz = .bool true ∧ Fr [] w' wz) (vs := #[iv, fv]) hSame.enters (by simp only [List.map_toArray, List.map_cons, List.map_nil]; rw [show a'.eval (.tmp 25) = iv from (by rw [eTm]; exact hiv), show a'.eval (.tmp 29) = fv from (by rw [eTm]; exact hfv)]) ((hSame.call w' _ _ _ _ _ hio hfo).mono (by rintro e wz ⟨rfl, h⟩; exact ⟨_, rfl, rfl, h⟩)) ?_;rintro _ w44 ⟨rfl, fr44⟩;exact hK' _ w44 rfl fr44
    exact opsOk_nil
  intro a45 w45 k45 f45 hd_45;have hz45 : a45.tmps.size = 31 := k45.size.trans hz38;have hd45 : a45.defers = [] := k45.defers.trans hd38;have hF46 : Fr [] w w45 := hF36.tr f45;have rb47 := f45.range rb37 .nil;have rb48 := f45.range r36 .nil;have g45_30 : get a45 30 = .bool true := hd_45.at (d := 12) (by simp) rfl;refine wC (wAs (v := .bool true) (eK g45_30) ?_);refine wEk hz45 hd45 fun a49 ha49 hz49 hd49 => ?_;have g49_4 : get a49 4 = .bool true := kG ha49 hz45;refine hK39 a49 w45 (tUp ?_);refine wp_ret ?_;exact ⟨hd49, _, rIs hres' g49_4, rfl, hF46⟩
end Go.Kq

namespace Go.Kq
open Go Go.Proofs
inductive TgR : List (Nat × List UInt8) → V → Prop where
  | nil : TgR [] .nil
  | step {us : List (Nat × List UInt8)} {x : V} {k : Nat} {s : List UInt8} {y : Option (List UInt8)} (h : TgR us x) (hy : y.getD [] = s) : TgR (us ++ [(k, s)]) (.t (kvSet (tagKv x) k (.oct y)))
theorem octE_v {w : World} {A : Nat → Prop} {v : Value} {s : List UInt8} (h : OctE w A v s) : ∃ y, OctsV w A v y ∧ y.getD [] = s := by
  rcases h with ⟨y, h1, h2⟩ | ⟨h1, rfl⟩
  · exact ⟨y, .inl h1, h2⟩
  exact ⟨some [], .inr ⟨h1, rfl⟩, rfl⟩
def T.us : T → List (Nat × List UInt8) | .mk _ _ _ _ u => u
theorem repT_u {w : World} {A : Nat → Prop} {cs : List Value} {t : T} (h : RepT w A cs t) : ∃ uv, cs[4]? = some uv ∧ TagsR w A uv t.us := by
  cases t with
  | mk n s nl l u => obtain ⟨_, _, uv, rfl, _, _, _, h⟩ := repT_iff.1 h; exact ⟨uv, rfl, h⟩
theorem TagsR.slice3 {w : World} {A : Nat → Prop} {v : Value} {u : List (Nat × List UInt8)} (h : TagsR w A v u) : ∃ q cap, v = .slice q u.length cap ∧ u.length ≤ 4294967296 := by
  rcases h with ⟨rfl | ⟨a, rfl⟩, rfl⟩ | ⟨b, o, cap, _, rfl, h, _⟩
  · exact ⟨_, _, rfl, by simp⟩
  · exact ⟨_, _, rfl, by simp⟩
  exact ⟨_, _, rfl, h.2⟩
theorem range_put {w w' : World} {b o r : Nat} {z : List Value} {v : Value} (hr : w.rangeAt b 0 z) (f : Fr [⟨b, o, o + 1⟩, ⟨r, 0, 0⟩] w w') (hc : w'.cell? ⟨b, o, none⟩ = some v) (ho : o < z.length) : w'.rangeAt b 0 (z.set o v) := by
  intro j u hj
  by_cases hij : o = j
  · subst hij;rw [List.getElem?_set_self ho] at hj;simp at hj; subst hj
    simpa using hc
  rw [List.getElem?_set_ne hij] at hj;exact f.cell (hr j u hj) (.cons (.inr (by simp only; omega)) (.cons (.inr (by simp)) .nil))
def FRunP (P : Program) (N sv sb se : Nat) (c : Code) (tys : List Ty) (pre : List V → Prop) (R : T → List V → List V → Prop) : Prop :=
  ∀ (ev : Value) (pb tb : Nat) (B : Nat → Prop) (ct : List Value) (t : T) (K : Act → World → Prop) (Q : Exit → Act → World → Prop) (a : Act) (w : World) (xs : List V), pre xs → FSt N sv sb se ev pb tb B ct t tys a w xs →
    (∀ a' w' xs', R t xs xs' → FSt N sv sb se ev pb tb B ct t tys a' w' xs' → Fr [⟨pb, 0, Ty.sizes tys⟩] w w' → K a' w') → c.wp P (Exit.then K Q) a w
theorem FRun.seqP {P : Program} {N sv sb se : Nat} {c c' : Code} {tys : List Ty} {pre : List V → Prop} {R R' : T → List V → List V → Prop} (h : FRun P N sv sb se c tys R) (h' : FRunP P N sv sb se c' tys pre R') (hp : ∀ t xs ys, pre xs → R t xs ys → pre ys) : FRunP P N sv sb se (.seq c c') tys pre (fun t xs ys => ∃ zs, R t xs zs ∧ R' t zs ys) := by
  intro ev pb tb B ct t K Q a w xs hx hs hK;refine wp_seq_k fun K1 hK1 => ?_;refine h ev pb tb B ct t K1 _ a w xs hs fun a1 w1 zs r1 s1 f1 => hK1 a1 w1 ?_;exact h' ev pb tb B ct t K Q a1 w1 _ (hp _ _ _ hx r1) s1 fun a2 w2 ys r2 s2 f2 => hK a2 w2 ys ⟨zs, r1, r2⟩ s2 (f1.tr f2)
theorem set_self {α : Type} {l : List α} {i : Nat} {x : α} (h : l[i]? = some x) : l.set i x = l := by
  apply List.ext_getElem?
  intro j
  by_cases hij : i = j
  · subst hij; rw [List.getElem?_set_self (List.getElem?_eq_some_iff.1 h).1, h]
  rw [List.getElem?_set_ne hij]
theorem reps_tag {w : World} {A : Nat → Prop} : ∀ {tys : List Ty} {z : List Value} {xs : List V} {j : Nat}, Reps w A tys z xs → tys[j]? = some .tags → xs[j]? = some .nil → z[Ty.sizes (tys.take j)]? = some (.map none)
  | [], z, xs, j, _, hj, _ => by simp at hj
  | t :: ts, z, xs, j, h, hj, hx => by
    obtain ⟨c1, c2, y, r, rfl, rfl, h2, h3⟩ := h;have hl := h2.length
    cases j with
    | zero =>
      simp at hj hx; subst hj; subst hx
      rcases h2 with ⟨rfl, _⟩ | ⟨_, _, _, _, _, _, _, _, hn, _⟩
      · simp [Ty.sizes]
      simp at hn
    | succ j =>
      have := reps_tag h3 (by simpa using hj) (by simpa using hx);rw [List.take_succ_cons, show Ty.sizes (t :: ts.take j) = t.size + Ty.sizes (ts.take j) from rfl, ← hl, List.getElem?_append_right (by omega)]
      simpa using this
theorem fr_tags {P : Program} {N sv sb se n m1 n1 tv n2 q b0 b1 i0 i1 i2 i3 i4 jt o k bs : Nat} {TT TG TE TU TB TI TI2 TI3 TI4 S : TypeId} {fset : FuncId} {ats : Array TypeId} {tys : List Ty}
    {t0 t1 t2 t3 t4 t5 t6 t7 t8 t9 t10 t11 t12 t13 t14 t15 t16 t17 t18 : TypeId} {p0 p1 p2 p3 p4 p5 p6 p7 p8 p9 p10 p11 p12 p13 p14 p15 p16 p17 p18 : String} {e0 e1 e2 e3 e4 e5 e6 e7 e8 e9 e10 e11 e12 e13 e14 e15 e16 e17 e18 : Array Edge}
    (hset : SetTagM P fset) (hT : Flat P TT zT) (hcG : scal P TG = true) (hsG : slTy P TG = true) (hTG : sliceOf P TG TE 2 bs = true) (hE : Flat P TE zTag) (hcU : scal P TU = true) (hcB : scal P TB = true) (hF : fieldOf P S k o = true)
    (ho : o = Ty.sizes (tys.take jt)) (hj : tys[jt]? = some .tags) (hmx : P.follows .mixedOrders = true) (he : edgeOk 0 [e9, e10, e11, e12, e13, e14, e15, e16] [[], [0], [1], [], [3], [], [5], [0, 1, 2, 3, 4, 5, 6]] = true)
    (hb : (decide (se < n) && decide (sv < n) && decide (sb < n) && decide (tv < n) && decide (n + 3 < m1) && decide (m1 < n1) && decide (n1 + 1 < n2) && decide (n2 + 7 < q) && decide (q < N) && decide (sv ≠ tv) && decide (sb ≠ tv) && decide (se ≠ tv)) = true) :
    FRunP P N sv sb se (.seq (Code.region i0 ⟨[oF n TT sb 4 t0 p0 e0, oL (n + 1) TG n t1 p1 e1, ⟨some (n + 2), .call ⟨.builtin .len, #[.tmp (n + 1)], #[TG]⟩, t2, p2, e2, none⟩, ⟨some (n + 3), .move (.const (.int .i64 0)), t3, p3, e3, none⟩]⟩ false) (.block b0 (.loop (.seq (Code.region i1 ⟨[⟨some m1, .binOp .lss TI (.tmp (n + 3)) (.tmp (n + 2)) TI2, t4, p4, e4, none⟩]⟩ false) (.seq (.cond (.tmp m1) .skip (.exit b0)) (.seq (.block b1
        (.seq (Code.region i2 ⟨[⟨some n1, .indexAddr TG (.tmp (n + 1)) (.tmp (n + 3)), t5, p5, e5, none⟩, oL (n1 + 1) TE n1 t6 p6 e6, ⟨some tv, .alloc TE, t7, p7, e7, none⟩, oS TE tv (n1 + 1) t8 p8 e8]⟩ false)
        (Code.region i3 ⟨[oM n2 sv t9 p9 e9, ⟨some (n2 + 1), .nilCheck (.tmp n2), t10, p10, e10, none⟩, oF (n2 + 2) S (n2 + 1) k t11 p11 e11, oF (n2 + 3) TE tv 0 t12 p12 e12, oL (n2 + 4) TU (n2 + 3) t13 p13 e13,
          oF (n2 + 5) TE tv 1 t14 p14 e14, oL (n2 + 6) TB (n2 + 5) t15 p15 e15, oC (n2 + 7) fset #[.tmp (n2 + 2), .tmp (n2 + 4), .tmp (n2 + 6)] ats t16 p16 e16]⟩ true)))
        (Code.region i4 ⟨[⟨some q, .binOp .add TI3 (.tmp (n + 3)) (.const (.int .i64 1)) TI4, t17, p17, e17, none⟩, oM (n + 3) q t18 p18 e18]⟩ false))))))) tys (fun xs => xs[jt]? = some .nil) (fun t xs ys => ∃ x, TgR t.us x ∧ ys = xs.set jt x) := by
  intro ev pb tb B ct t K Q a w xs hpre st hK;simp only [Bool.and_eq_true, decide_eq_true_eq] at hb;obtain ⟨⟨⟨⟨⟨⟨⟨⟨⟨⟨⟨c0, c1⟩, c2⟩, c3⟩, c4⟩, c5⟩, c6⟩, c7⟩, c8⟩, c9⟩, c10⟩, c11⟩ := hb;have hN := st.sz;obtain ⟨z, hz, hth, hrep⟩ := st.cs;have hlt := hrep.setLt hj rfl;have hzl : z.length = Ty.sizes tys := hrep.length;have hpw : pb < w.heap.size := there_lt hth (by omega);have hptb := st.pt;subst ho;obtain ⟨uv, huv, htg⟩ := repT_u st.rt;obtain ⟨uq, ucap, rfl, hul⟩ := htg.slice3
  -- the tags' cell holds no map
  have hcell0 : w.cell? ⟨pb, Ty.sizes (tys.take jt), none⟩ = some (.map none) := by
    have := reps_tag hrep hj hpre;have := hz _ _ this
    simpa using this
  refine wS fun K1 hK1 => ?_;refine wC (wFa (b := tb) (i := 0) (hT.field (by decide)) (by rw [eTm, st.gb]) ?_);refine wC (wp_load hcG (b := tb) (o := 0 + 4) (by rw [eTm, gQ]) (st.tr 4 _ huv) ?_);refine wC (wp_lenS hsG (q := uq) (n := t.us.length) (cap := ucap) (by rw [eTm, gQ]) ?_);refine wC (wMv (v := .int .i64 0) (eCo _ _) ?_);rw [wNi];have kk1 : Kept n a (((((a.put (some n) (.pointer (some ⟨tb, 0 + 4, none⟩))).put (some (n + 1)) (.slice uq t.us.length ucap)).put (some (n + 2)) (.int .i64 t.us.length)).put (some (n + 3)) (.int .i64 0))) := (((Kept.put0 (Nat.le_refl _) _).put (by omega) _).put (by omega) _).put (by omega) _;have gu1 : get (((((a.put (some n) (.pointer (some ⟨tb, 0 + 4, none⟩))).put (some (n + 1)) (.slice uq t.us.length ucap)).put (some (n + 2)) (.int .i64 t.us.length)).put (some (n + 3)) (.int .i64 0))) (n + 1) = .slice uq t.us.length ucap := by
    rw [gR, gR, gQ]
  have gl1 : get (((((a.put (some n) (.pointer (some ⟨tb, 0 + 4, none⟩))).put (some (n + 1)) (.slice uq t.us.length ucap)).put (some (n + 2)) (.int .i64 t.us.length)).put (some (n + 3)) (.int .i64 0))) (n + 2) = .int .i64 t.us.length := by
    rw [gR, gQ]
  have gi1 : get (((((a.put (some n) (.pointer (some ⟨tb, 0 + 4, none⟩))).put (some (n + 1)) (.slice uq t.us.length ucap)).put (some (n + 2)) (.int .i64 t.us.length)).put (some (n + 3)) (.int .i64 0))) (n + 3) = .int .i64 0 := gQ;generalize (((((a.put (some n) (.pointer (some ⟨tb, 0 + 4, none⟩))).put (some (n + 1)) (.slice uq t.us.length ucap)).put (some (n + 2)) (.int .i64 t.us.length)).put (some (n + 3)) (.int .i64 0))) = a1 at kk1 gu1 gl1 gi1 ⊢;refine hK1 a1 w ?_;refine wp_block (wp_loop_ghost (fun r a' w' => ∃ (j : Nat) (x : V) (v : Value), j + r = t.us.length ∧ a'.tmps.size = N ∧ a'.defers = [] ∧ get a' sv = .pointer (some ⟨pb, 0, none⟩) ∧ get a' sb = .pointer (some ⟨tb, 0, none⟩) ∧ get a' se = ev ∧
      get a' (n + 1) = .slice uq t.us.length ucap ∧ get a' (n + 2) = .int .i64 t.us.length ∧ get a' (n + 3) = .int .i64 j ∧ TgR (t.us.take j) x ∧ TagV w' B w.heap.size v x ∧ w'.rangeAt pb 0 (z.set (Ty.sizes (tys.take jt)) v) ∧ Fr [⟨pb, 0, Ty.sizes tys⟩] w w') t.us.length ?_ ?_)
  · refine ⟨0, .nil, .map none, by omega, kk1.size.trans hN, kk1.defers.trans st.df, (kk1.get sv c1).trans st.gv, (kk1.get sb c2).trans st.gb, (kk1.get se c0).trans st.ge, gu1, gl1, gi1, .nil, .inl ⟨rfl, rfl⟩, ?_, Fr.refl _ _⟩;rw [set_self (reps_tag hrep hj hpre)]; exact hz
  rintro r a2 w2 ⟨j, x, v, hjr, hN2, hd2, gv2, gb2, ge2, gu2, gl2, gi2, htgr, htv, hrg, f02⟩;have sz02 := f02.size;refine wS fun K2 hK2 => ?_;refine wC (wp_lss (k1 := .i64) (i := j) (j := t.us.length) (by rw [eTm, gi2]) (by rw [eTm, gl2]) ?_);rw [wNi];have kk3 : Kept m1 a2 (a2.put (some m1) (.bool (decide ((j : Int) < t.us.length)))) := Kept.put0 (Nat.le_refl _) _;have gm3 : get (a2.put (some m1) (.bool (decide ((j : Int) < t.us.length)))) m1 = .bool (decide ((j : Int) < t.us.length)) := gQ;generalize a2.put (some m1) (.bool (decide ((j : Int) < t.us.length))) = a3 at kk3 gm3 ⊢;have hN3 : a3.tmps.size = N := kk3.size.trans hN2;refine hK2 a3 w2 ?_;refine wp_seq_k fun K3 hK3 => ?_;refine wp_cond_split (t := decide ((j : Int) < t.us.length)) (by rw [eTm, gm3]) ?_ ?_
  · intro hlt0;have hjl : j < t.us.length := by simpa using hlt0
    refine wp_skip (hK3 a3 w2 ?_);refine wp_seq_k fun K4 hK4 => ?_;refine wp_blockT ?_;have hrt2 : RepT w2 B ct t := st.rt.kept f02 (by intro r hr hA; simp at hr; subst hr; have := st.bp _ hA; simp only at this; omega) (fun _ h => h);obtain ⟨uv2, huv2, htg2⟩ := repT_u hrt2;rw [huv] at huv2;simp only [Option.some.injEq] at huv2;subst huv2;have hne : t.us ≠ [] := fun h0 => by rw [h0] at hjl; simp at hjl
    obtain ⟨⟨kk, ss⟩, hks⟩ : ∃ p, t.us[j]? = some p := ⟨_, List.getElem?_eq_getElem hjl⟩
    rcases htg2 with ⟨_, h0⟩ | ⟨b, bo, cap, hbA, hbv, _, hel⟩
    · exact absurd h0 hne
    simp only [Value.slice.injEq] at hbv;obtain ⟨rfl, _, rfl⟩ := hbv;obtain ⟨xv, hk32, hxr, hxo⟩ := hel j kk ss hks;obtain ⟨y, hyv, hys⟩ := octE_v hxo;refine wS fun K5 hK5 => ?_;refine wC (wp_ixN hTG (i := j) (by rw [eTm, kk3.get _ (by omega), gu2]) (by rw [eTm, kk3.get _ (by omega), gi2]) hjl ?_);refine wC (wp_loadFlat hE (b := b) (o := bo + j * 2) (cs := [.int .u32 kk, xv]) rfl (by rw [eTm, gQ]) hxr ?_);refine wC (wp_alloc hE.zero ?_);have fa := Fr.alloc [] w2 (.cells (Value.agg zTag.toArray).cells TE);have tha : (w2.alloc (.cells (Value.agg zTag.toArray).cells TE)).there w2.heap.size 0 2 := there_new w2 zTag.toArray TE;have sza := size_alloc w2 (.cells (Value.agg zTag.toArray).cells TE);generalize w2.alloc (.cells (Value.agg zTag.toArray).cells TE) = w3 at fa tha sza ⊢;refine wC (wp_storeFlat hE (cs := [.int .u32 kk, xv]) (b := w2.heap.size) (o := 0) rfl (by rw [eTm, gQ]) (by rw [eTm, gR, gQ]) (by intro u hu; simp at hu; rcases hu with rfl | rfl; rfl; exact hxo.one) tha ?_);rw [pNo, wNi];have fs := Fr.sets w2.heap.size [.int .u32 kk, xv] w3 0;have rbx := World.rangeAt_setCells_same w3 w2.heap.size 0 [.int .u32 kk, xv] tha;generalize w3.setCells w2.heap.size 0 [.int .u32 kk, xv] = w4 at fs rbx ⊢;have f24 : Fr [] w2 w4 := fa.trans fs (by intro r hr; simp at hr; subst hr; exact .inl (Nat.le_refl _));have sz4 := f24.size;have szs := fs.size;have kq4 : ∀ s, s < m1 → s ≠ tv → get ((((a3.put (some n1) (.pointer (some ⟨b, bo + j * 2, none⟩))).put (some (n1 + 1)) (.agg ([.int .u32 kk, xv] : List Value).toArray)).put (some tv) (.pointer (some ⟨w2.heap.size, 0, none⟩)))) s = get a2 s := by
      intro s h1 h2;rw [gPn h2.symm, gR, gR, kk3.get s h1]
    have gt4 : get ((((a3.put (some n1) (.pointer (some ⟨b, bo + j * 2, none⟩))).put (some (n1 + 1)) (.agg ([.int .u32 kk, xv] : List Value).toArray)).put (some tv) (.pointer (some ⟨w2.heap.size, 0, none⟩)))) tv = .pointer (some ⟨w2.heap.size, 0, none⟩) := gQ;have hN4 : ((((a3.put (some n1) (.pointer (some ⟨b, bo + j * 2, none⟩))).put (some (n1 + 1)) (.agg ([.int .u32 kk, xv] : List Value).toArray)).put (some tv) (.pointer (some ⟨w2.heap.size, 0, none⟩)))).tmps.size = N := by simp only [sPu]; exact hN3
    have hd4 : ((((a3.put (some n1) (.pointer (some ⟨b, bo + j * 2, none⟩))).put (some (n1 + 1)) (.agg ([.int .u32 kk, xv] : List Value).toArray)).put (some tv) (.pointer (some ⟨w2.heap.size, 0, none⟩)))).defers = [] := by simp only [dPu]; exact kk3.defers.trans hd2
    generalize ((((a3.put (some n1) (.pointer (some ⟨b, bo + j * 2, none⟩))).put (some (n1 + 1)) (.agg ([.int .u32 kk, xv] : List Value).toArray)).put (some tv) (.pointer (some ⟨w2.heap.size, 0, none⟩)))) = a4 at kq4 gt4 hN4 hd4 ⊢;refine hK5 a4 w4 ?_;have gv4 : get a4 sv = .pointer (some ⟨pb, 0, none⟩) := by rw [kq4 sv (by omega) c9, gv2]
    have f04 : Fr [⟨pb, 0, Ty.sizes tys⟩] w w4 := f02.tr f24.nil;have hrg4 := f24.range hrg .nil;have hcv4 : w4.cell? ⟨pb, Ty.sizes (tys.take jt), none⟩ = some v := by have := hrg4 (Ty.sizes (tys.take jt)) v (by rw [List.getElem?_set_self hlt]); simpa using this
    have htv4 : TagV w4 B w.heap.size v x := by
      rcases htv with h | ⟨rr, kv, h1, h2, h3, h4⟩
      · exact .inl h
      exact .inr ⟨rr, kv, h1, h2, h3.kept f24 (by simp) (by simp) (fun _ h => h), h4⟩
    have hth4 : w4.there pb (Ty.sizes (tys.take jt)) 1 := there_part (f04.there hth) (by omega) (by omega);have hyv4 := hyv.kept f24 (by simp) (fun _ h => h);refine wp_drawR (os := [oM n2 sv t9 p9 e9, ⟨some (n2 + 1), .nilCheck (.tmp n2), t10, p10, e10, none⟩, oF (n2 + 2) S (n2 + 1) k t11 p11 e11, oF (n2 + 3) TE tv 0 t12 p12 e12, oL (n2 + 4) TU (n2 + 3) t13 p13 e13,
      oF (n2 + 5) TE tv 1 t14 p14 e14, oL (n2 + 6) TB (n2 + 5) t15 p15 e15]) (rest := [oC (n2 + 7) fset #[.tmp (n2 + 2), .tmp (n2 + 4), .tmp (n2 + 6)] ats t16 p16 e16])
      [spC [] (.pointer (some ⟨pb, 0, none⟩)), spC [0] (.pointer (some ⟨pb, 0, none⟩)), spC [1] (.pointer (some ⟨pb, 0 + Ty.sizes (tys.take jt), none⟩)), spC [] (.pointer (some ⟨w2.heap.size, 0 + 0, none⟩)), spC [3] (.int .u32 kk), spC [] (.pointer (some ⟨w2.heap.size, 0 + 1, none⟩)), spC [5] xv] n2 [] hmx he (by simp [shape]) (by simp [plainO]) (by simp [spC]) (by simp; omega)
      ⟨lCc _ _ _, lCc _ _ _, lCc _ _ _, lCc _ _ _, lCc _ _ _, lCc _ _ _, lCc _ _ _, trivial⟩
      ⟨op_c fun a' w' hk' hf' hd' K' hK' => ?_, op_c fun a' w' hk' hf' hd' K' hK' => ?_, op_c fun a' w' hk' hf' hd' K' hK' => ?_, op_c fun a' w' hk' hf' hd' K' hK' => ?_, op_c fun a' w' hk' hf' hd' K' hK' => ?_, op_c fun a' w' hk' hf' hd' K' hK' => ?_, op_c fun a' w' hk' hf' hd' K' hK' => ?_, trivial⟩ ?_
    · rw [wMw, eTm, hk'.get sv (by omega), gv4]; exact hK'
    · exact wNc (by rw [eTm]; exact hd'.c (nd' := []) 0 (by simp) rfl) hK'
    · exact wFa hF (by rw [eTm]; exact hd'.c (nd' := [0]) 1 (by simp) rfl) hK'
    · exact wFa (hE.field (by decide)) (by rw [eTm, hk'.get tv (by omega), gt4]) hK'
    · exact wp_load hcU (by rw [eTm]; exact hd'.c (nd' := []) 3 (by simp) rfl) ((hf'.range rbx .nil) 0 _ rfl) hK'
    · exact wFa (hE.field (by decide)) (by rw [eTm, hk'.get tv (by omega), gt4]) hK'
    · exact wp_load hcB (by rw [eTm]; exact hd'.c (nd' := []) 5 (by simp) rfl) ((hf'.range rbx .nil) 1 _ rfl) hK'
    intro a5 w5 k5 f5 hd5;have sz5 := f5.size;have hN5 : a5.tmps.size = N := k5.size.trans hN4;rw [wCo];refine wp_calls (R := fun _ w' => ∃ r, w'.cell? ⟨pb, Ty.sizes (tys.take jt), none⟩ = some (.map (some r)) ∧ w.heap.size ≤ r ∧ TagM w' B r (kvSet (tagKv x) kk (.oct y)) ∧ Fr [⟨pb, Ty.sizes (tys.take jt), Ty.sizes (tys.take jt) + 1⟩, ⟨r, 0, 0⟩] w5 w') hset.enters (vs := #[.pointer (some ⟨pb, Ty.sizes (tys.take jt), none⟩), .int .u32 kk, xv])
      (by simp only [List.map_toArray, List.map_nil, List.map_cons, eTm]; rw [hd5.c (nd' := [1]) (x := .pointer (some ⟨pb, 0 + Ty.sizes (tys.take jt), none⟩)) 2 (by simp) rfl, hd5.c (nd' := [3]) (x := .int .u32 kk) 4 (by simp) rfl, hd5.c (nd' := [5]) (x := xv) 6 (by simp) rfl, Nat.zero_add])
      ((hset.call w5 B w.heap.size pb (Ty.sizes (tys.take jt)) v x kk xv y (f5.cell hcv4 .nil) (f5.there hth4) (by
          rcases htv4 with h | ⟨rr, kv, h1, h2, h3, h4⟩
          · exact .inl h
          · exact .inr ⟨rr, kv, h1, h2, h3.kept f5 (by simp) (by simp) (fun _ h => h), h4⟩)
        (fun b hb => by have := st.bp b hb; omega) (by omega) hk32 (hyv4.kept f5 (by simp) (fun _ h => h)) (fun h => by have := st.bp _ h; omega)).mono (by rintro e' w' ⟨⟨zz, rfl⟩, h⟩; exact ⟨_, rfl, h⟩)) ?_
    rintro zz w6 ⟨r6, hc6, hlo6, hm6, f6⟩;rw [wNi];have sz6 := f6.size;have k6 : Kept n2 a4 (a5.put (some (n2 + 7)) zz) := k5.put (by omega) _;generalize a5.put (some (n2 + 7)) zz = a6 at k6 ⊢;refine hK4 a6 w6 ?_;have hN6 : a6.tmps.size = N := k6.size.trans hN4;refine wp_reg ?_;refine wC (wp_add (k1 := .i64) (i := j) (j := 1) (by rw [eTm, k6.get _ (by omega), kq4 _ (by omega) (by omega), gi2]) rfl ?_);rw [wCo, wMw, eTm, gQ, wNi];have hwr : IntKind.i64.wrap ((j : Int) + 1) = ((j + 1 : Nat) : Int) := by
      simp [IntKind.wrap, IntKind.bits, IntKind.signed]; omega
    rw [hwr];have kf : ∀ s, s < m1 → s ≠ tv → s ≠ n + 3 → get ((a6.put (some q) (.int .i64 ((j + 1 : Nat) : Int))).put (some (n + 3)) (.int .i64 ((j + 1 : Nat) : Int))) s = get a2 s := by
      intro s h1 h2 h3;rw [gPn h3.symm, gR, k6.get s (by omega), kq4 s h1 h2]
    refine ⟨r - 1, by omega, j + 1, .t (kvSet (tagKv x) kk (.oct y)), .map (some r6), by omega, by simp only [sPu]; exact hN6, by simp only [dPu]; exact k6.defers.trans hd4, by rw [kf sv (by omega) c9 (by omega)]; exact gv2, by rw [kf sb (by omega) c10 (by omega)]; exact gb2, by rw [kf se (by omega) c11 (by omega)]; exact ge2, by rw [kf _ (by omega) (by omega) (by omega)]; exact gu2, by rw [kf _ (by omega) (by omega) (by omega)]; exact gl2, gQ, ?_, ?_, ?_, ?_⟩
    · rw [List.take_add_one, hks];exact .step htgr hys
    · exact .inr ⟨r6, _, rfl, hlo6, hm6, rfl⟩
    · have := range_put (f5.range hrg4 .nil) f6 hc6 (by rw [List.length_set]; exact hlt)
      rwa [List.set_set] at this
    refine (f04.tr f5.nil).trans f6 ?_;intro r hr; simp at hr
    rcases hr with rfl | rfl
    · exact .inr ⟨_, List.mem_singleton.2 rfl, rfl, by simp, by simp only; omega⟩
    exact .inl (by simp only; omega)
  intro hge;have hjl : j = t.us.length := by
    have : ¬ ((j : Int) < t.us.length) := by simpa using hge
    omega
  refine wp_exit ?_;show Exit.inBlock b0 (Exit.then K Q) (.exit b0) a3 w2
  simp only [Exit.inBlock, if_true];have htk : t.us.take j = t.us := by rw [hjl, List.take_length]
  rw [htk] at htgr;have hcv : w2.cell? ⟨pb, Ty.sizes (tys.take jt), none⟩ = some v := by have := hrg (Ty.sizes (tys.take jt)) v (by rw [List.getElem?_set_self hlt]); simpa using this
  have hr1 : Reps w2 (Rch B pb w2) tys z xs := hrep.kept f02 (by intro r hr hA; simp at hr; subst hr; exact hA.self st.bp) (fun b hb => hb.mono (by omega));have hvr : Rep w2 (Rch B pb w2) .tags [v] x := by
    rcases htv with ⟨rfl, rfl⟩ | ⟨rr, kv, rfl, hlo, hm, rfl⟩
    · exact .inl ⟨rfl, rfl⟩
    have hnr := hm.notCell hcv;have hrl := hm.lt;obtain ⟨es, clock, h1, h2, h3⟩ := hm;exact .inr ⟨rr, es, clock, kv, (.inr ⟨by omega, hrl⟩), rfl, h1, Entries.kept (Fr.refl [] w2) (by simp) (fun b hb => .inl hb) h2, rfl, h3⟩
  refine hK a3 w2 _ ⟨x, htgr, rfl⟩ ⟨hN3, kk3.defers.trans hd2, (kk3.get sv (by omega)).trans gv2, (kk3.get sb (by omega)).trans gb2, (kk3.get se (by omega)).trans ge2, f02.range st.tr (.cons (.inl (by simp only; omega)) .nil), st.rt.kept f02 (by intro r hr hA; simp at hr; subst hr; have := st.bp _ hA; simp only at this; omega) (fun _ h => h), hptb, st.bp, _, hrg, by rw [List.length_set]; exact f02.there hth, hr1.set hj rfl hvr⟩ f02
end Go.Kq

namespace Go.Kq
open Go Go.Proofs
structure FillP (P : Program) (f : FuncId) (tys : List Ty) (pre : List V → Prop) (R : T → List V → List V → Prop) : Prop where
  enters : Enters P f
  call : ∀ (w : World) (pb : Nat) (B : Nat → Prop) (ct : List Value) (t : T) (xs : List V) (z : List Value), (∀ b, B b → b < pb) → pre xs → RepT w B ct t → w.rangeAt pb 0 z → w.there pb 0 z.length → pb < w.heap.size → Reps w (Rch B pb w) tys z xs →
    Calls P f #[.pointer (some ⟨pb, 0, none⟩), .agg ct.toArray] w fun e w' => ∃ x ys z', e = .returned x ∧ R t xs ys ∧ w'.rangeAt pb 0 z' ∧ Reps w' (Rch B pb w') tys z' ys ∧ Fr [⟨pb, 0, Ty.sizes tys⟩] w w'
theorem fill_p {P : Program} {f : FuncId} {fn : Func} {N sb i0 : Nat} {TT t0 : TypeId} {p0 : String} {e0 : Array Edge} {c : Code} {tys : List Ty} {pre : List V → Prop} {R : T → List V → List V → Prop}
    (hf : P.funcs[f]? = some fn) (hname : (fn.name == "runtime.NumGoroutine") = false) (hres : fn.results = #[]) (hN : fn.ntmps = N)
    (hbody : fn.body = some (.seq (Code.region i0 ⟨[⟨some sb, .box TT (.tmp 1), t0, p0, e0, none⟩]⟩ false) c)) (hb : (decide (1 < sb) && decide (sb < N)) = true)
    (h : FRunP P N 0 sb sb c tys pre R) : FillP P f tys pre R := by
  refine ⟨enters_of hf hname hbody, ?_⟩;intro w pb B ct t xs z hBp hpre hrt hz hth hpb hr;simp only [Bool.and_eq_true, decide_eq_true_eq] at hb;refine calls_of_wp hf hbody ?_;generalize ha0 : ({ tmps := #[Value.pointer (some ⟨pb, 0, none⟩), Value.agg ct.toArray] ++ Array.replicate (fn.ntmps - #[Value.pointer (some ⟨pb, 0, none⟩), Value.agg ct.toArray].size) undef, defers := [] } : Act) = a0;have hsz : a0.tmps.size = N := by subst ha0; simp [hN]; omega
  have hd0 : a0.defers = [] := by subst ha0; rfl
  have g0 : get a0 0 = .pointer (some ⟨pb, 0, none⟩) := by subst ha0; exact gAr rfl
  have g1 : get a0 1 = .agg ct.toArray := by subst ha0; exact gAr rfl
  refine wT fun K1 hK1 => ?_;refine wC (wp_boxL (cs := ct) (by rw [eTm, g1]) ?_);intro w1 f1 sz1 r1 th1;rw [wNi];refine hK1 _ w1 (tUp ?_);refine tId ?_;refine h (.pointer (some ⟨w.heap.size, 0, none⟩)) pb w.heap.size B ct t _ _ _ w1 xs hpre ⟨by simp only [sPu]; exact hsz, by simp only [dPu]; exact hd0, by rw [gR, g0], gQ, gQ, r1, hrt.kept f1 (by simp) (fun _ h => h), Nat.ne_of_lt hpb, hBp, z, f1.range hz .nil, f1.there hth, hr.kept f1 (by simp) (fun b hb => hb.mono (by omega))⟩ ?_;rintro a' w' ys hR s' f';obtain ⟨z', hz', _, hr'⟩ := s'.cs;exact ⟨s'.df, .tuple #[], by simp [results, hres], _, ys, z', rfl, hR, hz', hr', f1.nil.tr f'⟩
theorem make_s {P : Program} {f ffl fap fsv : FuncId} {fn : Func} {TT TI T16 TX : TypeId} {i0 i1 i2 i3 i4 : Nat} {at0 at1 at2 : Array TypeId} {pre : List V → Prop} {tys : List Ty} {zs : List Value} {ds : List V} {R : T → List V → List V → Prop} {ga : Int → V → List UInt8}
    {t0 t1 t2 t3 t4 t5 t6 t7 t8 t9 t10 t11 t12 t13 t14 : TypeId} {p0 p1 p2 p3 p4 p5 p6 p7 p8 p9 p10 p11 p12 p13 p14 : String} {e0 e1 e2 e3 e4 e5 e6 e7 e8 e9 e10 e11 e12 e13 e14 : Array Edge}
    (hf : P.funcs[f]? = some fn) (hname : (fn.name == "runtime.NumGoroutine") = false) (hres : fn.results = #[.tmp 4]) (hN : fn.ntmps = 17)
    (hbody : fn.body = some (.seq (Code.region i0 ⟨[⟨some 3, .box TT (.tmp 1), t0, p0, e0, none⟩, oA 4 (.const (.slice none 0 0)) t1 p1 e1]⟩ false) (.seq (Code.region i1 ⟨[⟨some 6, .build TX #[], t2, p2, e2, none⟩, ⟨some 7, .box TX (.tmp 6), t3, p3, e3, none⟩, oT 5 7 t4 p4 e4]⟩ false) (.seq (Code.region i4 ⟨[oM 8 5 t5 p5 e5, oM 9 0 t6 p6 e6, ⟨some 10, .convert TI T16 (.tmp 9), t7, p7, e7, none⟩, oC 11 fsv #[.tmp 8, .tmp 10] at2 t8 p8 e8]⟩ false) (.seq (Code.region i2 ⟨[oM 12 5 t9 p9 e9, oL 13 TT 3 t10 p10 e10, oC 14 ffl #[.tmp 12, .tmp 13] at0 t11 p11 e11]⟩ false) (.seq (Code.region i3 ⟨[oM 15 5 t12 p12 e12, oC 16 fap #[.tmp 15, .const (.slice none 0 0)] at1 t13 p13 e13, oT 4 16 t14 p14 e14]⟩ false) .ret))))))
    (hT : Flat P TT zT) (hX : Flat P TX (.int .i16 0 :: zs)) (h1 : intOf P TI .i64 = true) (h2 : intOf P T16 .i16 = true) (hzr : ∀ w, Reps w NoFoot tys zs ds) (hsv : SetM P fsv)
    (hfill : FillP P ffl (.int .i16 :: tys) pre R) (happ : ∀ ver, AppM P fap (.st (.int .i16 :: tys)) (ga ver) ver) (hpre : ∀ ver, pre (.n ver :: ds)) (hR : ∀ t ver ys, R t (.n ver :: ds) ys → ∃ ys', ys = .n ver :: ys') :
    MakeM P f (fun ver t out => ∃ ys, R t (.n ver :: ds) (.n ver :: ys) ∧ out = ga ver (.l (.n ver :: ys))) := by
  refine ⟨enters_of hf hname hbody, ?_⟩;intro w B ver ct t hv0 hv1 hrt hB hbig;refine calls_of_wp hf hbody ?_;generalize ha0 : ({ tmps := #[Value.int .i64 ver, Value.agg ct.toArray] ++ Array.replicate (fn.ntmps - #[Value.int .i64 ver, Value.agg ct.toArray].size) undef, defers := [] } : Act) = a0;have hsz : a0.tmps.size = 17 := by subst ha0; simp [hN]
  have hd0 : a0.defers = [] := by subst ha0; rfl
  have g0 : get a0 0 = .int .i64 ver := by subst ha0; exact gAr rfl
  have g1 : get a0 1 = .agg ct.toArray := by subst ha0; exact gAr rfl
  refine wT fun K1 hK1 => ?_;refine wC (wp_boxL (cs := ct) (by rw [eTm, g1]) ?_);intro w1 f1 sz1 r1 th1;rw [wCo, wAg, eCo, wNi];have k1 : Kept 2 a0 ((a0.put (some 3) (.pointer (some ⟨w.heap.size, 0, none⟩))).put (some 4) (.slice none 0 0)) := (Kept.put0 (by omega) _).put (by omega) _;have q3 : get ((a0.put (some 3) (.pointer (some ⟨w.heap.size, 0, none⟩))).put (some 4) (.slice none 0 0)) 3 = .pointer (some ⟨w.heap.size, 0, none⟩) := by rw [gR, gQ]
  generalize ((a0.put (some 3) (.pointer (some ⟨w.heap.size, 0, none⟩))).put (some 4) (.slice none 0 0)) = a1 at k1 q3 ⊢;have hz1 := k1.size;refine hK1 a1 w1 (tUp ?_)
  -- v := &X{}
  refine wT fun K2 hK2 => ?_;refine wC (wp_build0 hX ?_);refine wC (wp_boxL (cs := .int .i16 0 :: zs) (by rw [eTm, gQ]) ?_);intro w2' f2' sz2' r2' th2';rw [wCo, wAg, eTm, gQ, wNi];have k2 : Kept 5 a1 (((a1.put (some 6) (.agg (Value.int .i16 0 :: zs).toArray)).put (some 7) (.pointer (some ⟨w1.heap.size, 0, none⟩))).put (some 5) (.pointer (some ⟨w1.heap.size, 0, none⟩))) :=
    ((Kept.put0 (by omega) _).put (by omega) _).put (by omega) _
  have q5 : get (((a1.put (some 6) (.agg (Value.int .i16 0 :: zs).toArray)).put (some 7) (.pointer (some ⟨w1.heap.size, 0, none⟩))).put (some 5) (.pointer (some ⟨w1.heap.size, 0, none⟩))) 5 = .pointer (some ⟨w1.heap.size, 0, none⟩) := gQ;generalize (((a1.put (some 6) (.agg (Value.int .i16 0 :: zs).toArray)).put (some 7) (.pointer (some ⟨w1.heap.size, 0, none⟩))).put (some 5) (.pointer (some ⟨w1.heap.size, 0, none⟩))) = a2' at k2 q5 ⊢;have hz2' := k2.size;refine hK2 a2' w2' (tUp ?_);generalize hpbv : w1.heap.size = pb at *
  -- v.SetVersion(int16(version))
  refine wT fun K9 hK9 => ?_;rw [wCo, wMw, eTm, q5, wCo, wMw, eTm, gR, k2.get 0 (by omega), k1.get 0 (by omega), g0, wCo];refine wCv h1 h2 (by rw [eTm, gQ]) ?_;have hwr : IntKind.i16.wrap ver = ver := by simp [IntKind.wrap, IntKind.signed, IntKind.bits]; omega
  rw [hwr, wCo];have hth2 : w2'.there pb 0 1 := there_part th2' (by omega) (by simp);refine wp_calls (R := fun _ w' => w' = w2'.setCell ⟨pb, 0, none⟩ (.int .i16 ver)) hsv.enters (vs := #[.pointer (some ⟨pb, 0, none⟩), .int .i16 ver])
    (by simp only [List.map_toArray, List.map_nil, List.map_cons, eTm]; rw [gR, gR, gQ, gQ])
    ((hsv.call w2' pb ver hth2).mono (by rintro e' w' ⟨⟨x, rfl⟩, h⟩; exact ⟨_, rfl, h⟩)) ?_
  rintro xz w2 rfl;rw [wNi];have fsv := Fr.set w2' pb 0 (.int .i16 ver);have rsv : (w2'.setCell ⟨pb, 0, none⟩ (.int .i16 ver)).rangeAt pb 0 (.int .i16 ver :: zs) := by
    have := range_setAt (o := 0) (i := 0) (v := .int .i16 ver) r2' th2' (by simp)
    simpa using this
  generalize w2'.setCell ⟨pb, 0, none⟩ (.int .i16 ver) = w2 at fsv rsv ⊢;have szv := fsv.size;have k9 : Kept 6 a2' ((((a2'.put (some 8) (.pointer (some ⟨pb, 0, none⟩))).put (some 9) (.int .i64 ver)).put (some 10) (.int .i16 ver)).put (some 11) xz) := (((Kept.put0 (by omega) _).put (by omega) _).put (by omega) _).put (by omega) _;generalize ((((a2'.put (some 8) (.pointer (some ⟨pb, 0, none⟩))).put (some 9) (.int .i64 ver)).put (some 10) (.int .i16 ver)).put (some 11) xz) = a2 at k9 ⊢;have hz2 := k9.size;refine hK9 a2 w2 (tUp ?_)
  -- fillX(v, t)
  have hrt2 : RepT w2 B ct t := (((hrt.kept f1 (by simp) (fun _ h => h))).kept f2' (by simp) (fun _ h => h)).kept fsv (by intro r hr hA; simp at hr; subst hr; have := hB _ hA; simp only at this; omega) (fun _ h => h);have f02 : Fr [] w w2 := (f1.tr f2').trans fsv (by intro r hr; simp at hr; subst hr; exact .inl (by simp only; omega));have sz02 := f2'.size;refine wT fun K3 hK3 => ?_;rw [wCo, wMw, eTm, k9.get 5 (by omega), q5, wCo];refine wp_loadFlat hT (b := w.heap.size) (o := 0) (cs := ct) (by rw [hrt.length]; rfl) (by rw [eTm, gR, k9.get 3 (by omega), k2.get 3 (by omega), q3]) (fsv.range (f2'.range r1 .nil) (.cons (.inl (by simp only; omega)) .nil)) ?_;rw [wCo];refine wp_calls (R := fun _ w' => ∃ ys z', R t (.n ver :: ds) ys ∧ w'.rangeAt pb 0 z' ∧ Reps w' (Rch B pb w') (.int .i16 :: tys) z' ys ∧ Fr [⟨pb, 0, Ty.sizes (.int .i16 :: tys)⟩] w2 w') hfill.enters (vs := #[.pointer (some ⟨pb, 0, none⟩), .agg ct.toArray])
    (by simp only [List.map_toArray, List.map_nil, List.map_cons, eTm]; rw [gR, gQ, gQ])
    ((hfill.call w2 pb B ct t (.n ver :: ds) (.int .i16 ver :: zs) (fun b hb => by have := hB b hb; omega) (hpre ver) hrt2 rsv (fsv.there th2') (by omega) ⟨[.int .i16 ver], zs, .n ver, ds, rfl, rfl, ⟨ver, rfl, rfl, by simp [IntKind.min, IntKind.signed, IntKind.bits]; omega, by simp [IntKind.max, IntKind.signed, IntKind.bits]; omega⟩, (hzr w2).kept (Fr.refl [] w2) (by simp) (fun b h => h.elim)⟩).mono (by
      rintro e' w' ⟨x, ys, z', rfl, h1, h2, h3, h4⟩; exact ⟨_, rfl, ys, z', h1, h2, h3, h4⟩)) ?_
  rintro x w3 ⟨ys, z', hRy, hz', hr', f3⟩;obtain ⟨ys, rfl⟩ := hR _ _ _ hRy;rw [wNi];have sz3 := f3.size;have f03 : Fr [] w w3 := f02.trans f3 (by intro r hr; simp at hr; subst hr; exact .inl (by simp only; omega));have k3 : Kept 6 a2 (((a2.put (some 12) (.pointer (some ⟨pb, 0, none⟩))).put (some 13) (.agg ct.toArray)).put (some 14) x) := ((Kept.put0 (by omega) _).put (by omega) _).put (by omega) _;generalize (((a2.put (some 12) (.pointer (some ⟨pb, 0, none⟩))).put (some 13) (.agg ct.toArray)).put (some 14) x) = a3 at k3 ⊢;have hz3 := k3.size;refine hK3 a3 w3 (tUp ?_)
  -- return v.AppendTo(nil)
  have hbg := hbig _ ⟨ys, hRy, rfl⟩;refine wT fun K4 hK4 => ?_;rw [wCo, wMw, eTm, k3.get 5 (by omega), k9.get 5 (by omega), q5, wCo];refine wCr (vs := #[.pointer (some ⟨pb, 0, none⟩), .slice none 0 0]) (happ ver).enters (by simp only [List.map_toArray, List.map_nil, List.map_cons, eTm, eCo]; rw [gQ])
    (Apd.ret ((happ ver).call w3 (fun _ => False) (fun b => b < w3.heap.size) pb 0 z' ys (.slice none 0 0) [] hz' ⟨.n ver :: ys, rfl, hr'.kept (Fr.refl [] w3) (by simp) (fun b hb => by rcases hb with hb | hb; have := hB b hb; omega; exact hb.2)⟩ (by omega) Own.nil (fun _ h => h.elim) (fun _ h => h) (fun _ h => h.elim) (by rw [List.nil_append]; exact hbg))) ?_
  rintro ov w4 ⟨f4, ho, _⟩;rw [wCo, wAg, eTm, gQ, wNi];refine hK4 _ w4 (wp_ret ?_);refine ⟨by simp only [dPu]; rw [k3.defers, k9.defers, k2.defers, k1.defers, hd0], _, rIs hres (gQ), ov, _, rfl, ⟨ys, hRy, rfl⟩, ?_, ?_⟩
  · exact f03.tr (f4.mono (by simp [spare]))
  rw [List.nil_append] at ho;exact (ho.imp_A (A' := From w.heap.size w4) (by rintro b' (h | h); exact h.elim; exact ⟨by omega, h.2⟩)).octE (by omega)
end Go.Kq

namespace Go.Kq
open Go Go.Proofs
theorem fr_gen2 {P : Program} {N sv sb se n r i j k q idr : Nat} {TT S TK : TypeId} {fat : FuncId} {mid : List Oper} {ty : Ty} {tys : List Ty} {g : T → V} {ats : Array TypeId} {o : Nat}
    {t1 t2 t4 t5 : TypeId} {p1 p2 p4 p5 : String} {e1 e2 e4 e5 : Array Edge}
    (hm : MidOk P N n r mid ty g) (hu : unguarded mid = true) (hT : Flat P TT zT) (hAt : AtM P fat) (hF : fieldOf P S k o = true) (hs : scal P TK = true) (hj : tys[j]? = some ty) (h1 : ty.size = 1) (ho : o = Ty.sizes (tys.take j)) (hq : q = n + 3 + mid.length)
    (hb : (decide (se < n + 1) && decide (sv < n + 1) && decide (sb < n + 1) && decide (n + 2 < r + 1) && decide (r < q) && decide (q < N)) = true) :
    FRun P N sv sb se (Code.region idr ⟨[oL (n + 1) TT sb t1 p1 e1, oC (n + 2) fat #[.tmp (n + 1), .const (.int .i64 i)] ats t2 p2 e2] ++ (mid ++
      [oF q S sv k t4 p4 e4, oS TK q r t5 p5 e5])⟩ false) tys (fun t xs ys => ys = xs.set j (g (atT t.l i))) := by
  intro ev pb tb B ct t K Q a w xs st hK;simp only [Bool.and_eq_true, decide_eq_true_eq] at hb;obtain ⟨⟨⟨⟨⟨b2e, b1⟩, b2⟩, b3⟩, b4⟩, b5⟩ := hb;have hN := st.sz;obtain ⟨z, hz, hth, hrep⟩ := st.cs;have hlt := hrep.setLt hj h1;have hpw : pb < w.heap.size := there_lt hth (by omega);have hpw0 : pb ≠ tb := st.pt;refine wp_reg ?_ (unguarded_app rfl (unguarded_app hu rfl));show wpl P _ (_ :: _ :: (mid ++ _)) a w
  refine wC (wp_loadFlat hT (by rw [st.rt.length]; rfl) (by rw [eTm, st.gb]) st.tr ?_);rw [wCo];refine wp_calls (R := fun v w' => ∃ cs : List Value, v = .agg cs.toArray ∧ Fr [] w w' ∧ RepT w' B cs (atT t.l i)) hAt.enters (vs := #[.agg ct.toArray, .int .i64 i])
    (by simp only [List.map_toArray, List.map_cons, List.map_nil, eTm, eCo]; rw [gQ])
    ((hAt.call w B ct t i st.rt).mono (by rintro e' w' ⟨cs, rfl, h1, h2⟩; exact ⟨_, rfl, cs, rfl, h1, h2 (fun b hb => by have := st.bp b hb; omega)⟩)) ?_
  rintro _ w1 ⟨cs, rfl, f1, hcs⟩;have sz1 := f1.size;refine hm pb B _ _ w1 cs (atT t.l i) _ (by simp only [sPu]; exact hN) (gQ) hcs st.bp (by omega) ?_;intro a2 w2 v k2 g2 hv1 f2 hv;have sz2 := f2.size;have kk : Kept (n + 1) a a2 := ((Kept.put0 (Nat.le_refl _) _).put (by omega) _).trans (k2.mono (by omega));have hN2 : a2.tmps.size = N := kk.size.trans hN;have f02 : Fr [] w w2 := f1.tr f2;refine wC (wFa (b := pb) (i := 0) hF (by rw [eTm, kk.get sv (by omega), st.gv]) ?_);rw [wCo];subst ho;refine wp_store hs (b := pb) (o := 0 + Ty.sizes (tys.take j)) (v := v) (by rw [eTm, gQ]) (by rw [eTm, gR, g2]) hv1 (there_part (f02.there hth) (by omega) (by omega)) ?_;rw [pNo, wNi];have f3 := Fr.set w2 pb (0 + Ty.sizes (tys.take j)) v;have rg := range_setAt (v := v) (f02.range hz .nil) (f02.there hth) hlt;have hr2 : Reps w2 (Rch B pb w2) tys z xs := hrep.kept f02 (by simp) (fun b hb => hb.mono (by omega));have hr' := (hr2.set hj h1 hv).kept f3 (A' := Rch B pb (w2.setCell ⟨pb, 0 + Ty.sizes (tys.take j), none⟩ v)) (by intro r hr hA; simp at hr; subst hr; exact hA.self st.bp) (fun b hb => hb.mono f3.size);have hzl : z.length = Ty.sizes tys := hrep.length;have sz3 := f3.size;generalize w2.setCell ⟨pb, 0 + Ty.sizes (tys.take j), none⟩ v = w3 at f3 rg hr' sz3 ⊢;have k3 : Kept (n + 1) a (a2.put (some q) (.pointer (some ⟨pb, 0 + Ty.sizes (tys.take j), none⟩))) := kk.put (by omega) _;refine hK _ w3 _ rfl ⟨k3.size.trans hN, k3.defers.trans st.df, (k3.get sv (by omega)).trans st.gv, (k3.get sb (by omega)).trans st.gb, (k3.get se (by omega)).trans st.ge, ?_, ?_, st.pt, st.bp, _, rg, ?_, hr'⟩ ?_
  · exact f3.range (f02.range st.tr .nil) (.cons (.inl hpw0) .nil)
  · exact (st.rt.kept f02 (by simp) (fun _ h => h)).kept f3 (by intro r hr hA; simp at hr; subst hr; have := st.bp _ hA; simp only at this; omega) (fun _ h => h)
  · rw [List.length_set]; exact f3.there (f02.there hth)
  refine Fr.trans (l := [⟨pb, 0, Ty.sizes tys⟩]) (f02.mono (by simp)) f3 ?_;intro r hr; simp at hr; subst hr;exact .inr ⟨_, List.mem_singleton.2 rfl, rfl, by simp, by simp only; omega⟩
theorem fr_tags2 {P : Program} {N sv sb se n m1 n1 tv n2 q b0 b1 i0 i1 i2 i3 i4 jt o k bs : Nat} {TT TG TE TU TB TI TI2 TI3 TI4 S : TypeId} {fset : FuncId} {ats : Array TypeId} {tys : List Ty}
    {t0 t1 t2 t3 t4 t5 t6 t7 t8 t11 t12 t13 t14 t15 t16 t17 t18 : TypeId} {p0 p1 p2 p3 p4 p5 p6 p7 p8 p11 p12 p13 p14 p15 p16 p17 p18 : String} {e0 e1 e2 e3 e4 e5 e6 e7 e8 e11 e12 e13 e14 e15 e16 e17 e18 : Array Edge}
    (hset : SetTagM P fset) (hT : Flat P TT zT) (hcG : scal P TG = true) (hsG : slTy P TG = true) (hTG : sliceOf P TG TE 2 bs = true) (hE : Flat P TE zTag) (hcU : scal P TU = true) (hcB : scal P TB = true) (hF : fieldOf P S k o = true)
    (ho : o = Ty.sizes (tys.take jt)) (hj : tys[jt]? = some .tags)
    (hb : (decide (se < n) && decide (sv < n) && decide (sb < n) && decide (tv < n) && decide (n + 3 < m1) && decide (m1 < n1) && decide (n1 + 1 < n2) && decide (n2 + 5 < q) && decide (q < N) && decide (sv ≠ tv) && decide (sb ≠ tv) && decide (se ≠ tv)) = true) :
    FRunP P N sv sb se (.seq (Code.region i0 ⟨[oF n TT sb 4 t0 p0 e0, oL (n + 1) TG n t1 p1 e1, ⟨some (n + 2), .call ⟨.builtin .len, #[.tmp (n + 1)], #[TG]⟩, t2, p2, e2, none⟩, ⟨some (n + 3), .move (.const (.int .i64 0)), t3, p3, e3, none⟩]⟩ false) (.block b0 (.loop (.seq (Code.region i1 ⟨[⟨some m1, .binOp .lss TI (.tmp (n + 3)) (.tmp (n + 2)) TI2, t4, p4, e4, none⟩]⟩ false) (.seq (.cond (.tmp m1) .skip (.exit b0)) (.seq (.block b1
        (.seq (Code.region i2 ⟨[⟨some n1, .indexAddr TG (.tmp (n + 1)) (.tmp (n + 3)), t5, p5, e5, none⟩, oL (n1 + 1) TE n1 t6 p6 e6, ⟨some tv, .alloc TE, t7, p7, e7, none⟩, oS TE tv (n1 + 1) t8 p8 e8]⟩ false)
        (Code.region i3 ⟨[oF n2 S sv k t11 p11 e11, oF (n2 + 1) TE tv 0 t12 p12 e12, oL (n2 + 2) TU (n2 + 1) t13 p13 e13,
          oF (n2 + 3) TE tv 1 t14 p14 e14, oL (n2 + 4) TB (n2 + 3) t15 p15 e15, oC (n2 + 5) fset #[.tmp n2, .tmp (n2 + 2), .tmp (n2 + 4)] ats t16 p16 e16]⟩ false)))
        (Code.region i4 ⟨[⟨some q, .binOp .add TI3 (.tmp (n + 3)) (.const (.int .i64 1)) TI4, t17, p17, e17, none⟩, oM (n + 3) q t18 p18 e18]⟩ false))))))) tys (fun xs => xs[jt]? = some .nil) (fun t xs ys => ∃ x, TgR t.us x ∧ ys = xs.set jt x) := by
  intro ev pb tb B ct t K Q a w xs hpre st hK;simp only [Bool.and_eq_true, decide_eq_true_eq] at hb;obtain ⟨⟨⟨⟨⟨⟨⟨⟨⟨⟨⟨c0, c1⟩, c2⟩, c3⟩, c4⟩, c5⟩, c6⟩, c7⟩, c8⟩, c9⟩, c10⟩, c11⟩ := hb;have hN := st.sz;obtain ⟨z, hz, hth, hrep⟩ := st.cs;have hlt := hrep.setLt hj rfl;have hzl : z.length = Ty.sizes tys := hrep.length;have hpw : pb < w.heap.size := there_lt hth (by omega);have hptb := st.pt;subst ho;obtain ⟨uv, huv, htg⟩ := repT_u st.rt;obtain ⟨uq, ucap, rfl, hul⟩ := htg.slice3
  -- the tags' cell holds no map
  have hcell0 : w.cell? ⟨pb, Ty.sizes (tys.take jt), none⟩ = some (.map none) := by
    have := reps_tag hrep hj hpre;have := hz _ _ this
    simpa using this
  refine wS fun K1 hK1 => ?_;refine wC (wFa (b := tb) (i := 0) (hT.field (by decide)) (by rw [eTm, st.gb]) ?_);refine wC (wp_load hcG (b := tb) (o := 0 + 4) (by rw [eTm, gQ]) (st.tr 4 _ huv) ?_);refine wC (wp_lenS hsG (q := uq) (n := t.us.length) (cap := ucap) (by rw [eTm, gQ]) ?_);refine wC (wMv (v := .int .i64 0) (eCo _ _) ?_);rw [wNi];have kk1 : Kept n a (((((a.put (some n) (.pointer (some ⟨tb, 0 + 4, none⟩))).put (some (n + 1)) (.slice uq t.us.length ucap)).put (some (n + 2)) (.int .i64 t.us.length)).put (some (n + 3)) (.int .i64 0))) := (((Kept.put0 (Nat.le_refl _) _).put (by omega) _).put (by omega) _).put (by omega) _;have gu1 : get (((((a.put (some n) (.pointer (some ⟨tb, 0 + 4, none⟩))).put (some (n + 1)) (.slice uq t.us.length ucap)).put (some (n + 2)) (.int .i64 t.us.length)).put (some (n + 3)) (.int .i64 0))) (n + 1) = .slice uq t.us.length ucap := by
    rw [gR, gR, gQ]
  have gl1 : get (((((a.put (some n) (.pointer (some ⟨tb, 0 + 4, none⟩))).put (some (n + 1)) (.slice uq t.us.length ucap)).put (some (n + 2)) (.int .i64 t.us.length)).put (some (n + 3)) (.int .i64 0))) (n + 2) = .int .i64 t.us.length := by
    rw [gR, gQ]
  have gi1 : get (((((a.put (some n) (.pointer (some ⟨tb, 0 + 4, none⟩))).put (some (n + 1)) (.slice uq t.us.length ucap)).put (some (n + 2)) (.int .i64 t.us.length)).put (some (n + 3)) (.int .i64 0))) (n + 3) = .int .i64 0 := gQ;generalize (((((a.put (some n) (.pointer (some ⟨tb, 0 + 4, none⟩))).put (some (n + 1)) (.slice uq t.us.length ucap)).put (some (n + 2)) (.int .i64 t.us.length)).put (some (n + 3)) (.int .i64 0))) = a1 at kk1 gu1 gl1 gi1 ⊢;refine hK1 a1 w ?_;refine wp_block (wp_loop_ghost (fun r a' w' => ∃ (j : Nat) (x : V) (v : Value), j + r = t.us.length ∧ a'.tmps.size = N ∧ a'.defers = [] ∧ get a' sv = .pointer (some ⟨pb, 0, none⟩) ∧ get a' sb = .pointer (some ⟨tb, 0, none⟩) ∧ get a' se = ev ∧
      get a' (n + 1) = .slice uq t.us.length ucap ∧ get a' (n + 2) = .int .i64 t.us.length ∧ get a' (n + 3) = .int .i64 j ∧ TgR (t.us.take j) x ∧ TagV w' B w.heap.size v x ∧ w'.rangeAt pb 0 (z.set (Ty.sizes (tys.take jt)) v) ∧ Fr [⟨pb, 0, Ty.sizes tys⟩] w w') t.us.length ?_ ?_)
  · refine ⟨0, .nil, .map none, by omega, kk1.size.trans hN, kk1.defers.trans st.df, (kk1.get sv c1).trans st.gv, (kk1.get sb c2).trans st.gb, (kk1.get se c0).trans st.ge, gu1, gl1, gi1, .nil, .inl ⟨rfl, rfl⟩, ?_, Fr.refl _ _⟩;rw [set_self (reps_tag hrep hj hpre)]; exact hz
  rintro r a2 w2 ⟨j, x, v, hjr, hN2, hd2, gv2, gb2, ge2, gu2, gl2, gi2, htgr, htv, hrg, f02⟩;have sz02 := f02.size;refine wS fun K2 hK2 => ?_;refine wC (wp_lss (k1 := .i64) (i := j) (j := t.us.length) (by rw [eTm, gi2]) (by rw [eTm, gl2]) ?_);rw [wNi];have kk3 : Kept m1 a2 (a2.put (some m1) (.bool (decide ((j : Int) < t.us.length)))) := Kept.put0 (Nat.le_refl _) _;have gm3 : get (a2.put (some m1) (.bool (decide ((j : Int) < t.us.length)))) m1 = .bool (decide ((j : Int) < t.us.length)) := gQ;generalize a2.put (some m1) (.bool (decide ((j : Int) < t.us.length))) = a3 at kk3 gm3 ⊢;have hN3 : a3.tmps.size = N := kk3.size.trans hN2;refine hK2 a3 w2 ?_;refine wp_seq_k fun K3 hK3 => ?_;refine wp_cond_split (t := decide ((j : Int) < t.us.length)) (by rw [eTm, gm3]) ?_ ?_
  · intro hlt0;have hjl : j < t.us.length := by simpa using hlt0
    refine wp_skip (hK3 a3 w2 ?_);refine wp_seq_k fun K4 hK4 => ?_;refine wp_blockT ?_;have hrt2 : RepT w2 B ct t := st.rt.kept f02 (by intro r hr hA; simp at hr; subst hr; have := st.bp _ hA; simp only at this; omega) (fun _ h => h);obtain ⟨uv2, huv2, htg2⟩ := repT_u hrt2;rw [huv] at huv2;simp only [Option.some.injEq] at huv2;subst huv2;have hne : t.us ≠ [] := fun h0 => by rw [h0] at hjl; simp at hjl
    obtain ⟨⟨kk, ss⟩, hks⟩ : ∃ p, t.us[j]? = some p := ⟨_, List.getElem?_eq_getElem hjl⟩
    rcases htg2 with ⟨_, h0⟩ | ⟨b, bo, cap, hbA, hbv, _, hel⟩
    · exact absurd h0 hne
    simp only [Value.slice.injEq] at hbv;obtain ⟨rfl, _, rfl⟩ := hbv;obtain ⟨xv, hk32, hxr, hxo⟩ := hel j kk ss hks;obtain ⟨y, hyv, hys⟩ := octE_v hxo;refine wS fun K5 hK5 => ?_;refine wC (wp_ixN hTG (i := j) (by rw [eTm, kk3.get _ (by omega), gu2]) (by rw [eTm, kk3.get _ (by omega), gi2]) hjl ?_);refine wC (wp_loadFlat hE (b := b) (o := bo + j * 2) (cs := [.int .u32 kk, xv]) rfl (by rw [eTm, gQ]) hxr ?_);refine wC (wp_alloc hE.zero ?_);have fa := Fr.alloc [] w2 (.cells (Value.agg zTag.toArray).cells TE);have tha : (w2.alloc (.cells (Value.agg zTag.toArray).cells TE)).there w2.heap.size 0 2 := there_new w2 zTag.toArray TE;have sza := size_alloc w2 (.cells (Value.agg zTag.toArray).cells TE);generalize w2.alloc (.cells (Value.agg zTag.toArray).cells TE) = w3 at fa tha sza ⊢;refine wC (wp_storeFlat hE (cs := [.int .u32 kk, xv]) (b := w2.heap.size) (o := 0) rfl (by rw [eTm, gQ]) (by rw [eTm, gR, gQ]) (by intro u hu; simp at hu; rcases hu with rfl | rfl; rfl; exact hxo.one) tha ?_);rw [pNo, wNi];have fs := Fr.sets w2.heap.size [.int .u32 kk, xv] w3 0;have rbx := World.rangeAt_setCells_same w3 w2.heap.size 0 [.int .u32 kk, xv] tha;generalize w3.setCells w2.heap.size 0 [.int .u32 kk, xv] = w4 at fs rbx ⊢;have f24 : Fr [] w2 w4 := fa.trans fs (by intro r hr; simp at hr; subst hr; exact .inl (Nat.le_refl _));have sz4 := f24.size;have szs := fs.size;have kq4 : ∀ s, s < m1 → s ≠ tv → get ((((a3.put (some n1) (.pointer (some ⟨b, bo + j * 2, none⟩))).put (some (n1 + 1)) (.agg ([.int .u32 kk, xv] : List Value).toArray)).put (some tv) (.pointer (some ⟨w2.heap.size, 0, none⟩)))) s = get a2 s := by
      intro s h1 h2;rw [gPn h2.symm, gR, gR, kk3.get s h1]
    have gt4 : get ((((a3.put (some n1) (.pointer (some ⟨b, bo + j * 2, none⟩))).put (some (n1 + 1)) (.agg ([.int .u32 kk, xv] : List Value).toArray)).put (some tv) (.pointer (some ⟨w2.heap.size, 0, none⟩)))) tv = .pointer (some ⟨w2.heap.size, 0, none⟩) := gQ;have hN4 : ((((a3.put (some n1) (.pointer (some ⟨b, bo + j * 2, none⟩))).put (some (n1 + 1)) (.agg ([.int .u32 kk, xv] : List Value).toArray)).put (some tv) (.pointer (some ⟨w2.heap.size, 0, none⟩)))).tmps.size = N := by simp only [sPu]; exact hN3
    have hd4 : ((((a3.put (some n1) (.pointer (some ⟨b, bo + j * 2, none⟩))).put (some (n1 + 1)) (.agg ([.int .u32 kk, xv] : List Value).toArray)).put (some tv) (.pointer (some ⟨w2.heap.size, 0, none⟩)))).defers = [] := by simp only [dPu]; exact kk3.defers.trans hd2
    generalize ((((a3.put (some n1) (.pointer (some ⟨b, bo + j * 2, none⟩))).put (some (n1 + 1)) (.agg ([.int .u32 kk, xv] : List Value).toArray)).put (some tv) (.pointer (some ⟨w2.heap.size, 0, none⟩)))) = a4 at kq4 gt4 hN4 hd4 ⊢;refine hK5 a4 w4 ?_;have gv4 : get a4 sv = .pointer (some ⟨pb, 0, none⟩) := by rw [kq4 sv (by omega) c9, gv2]
    have f04 : Fr [⟨pb, 0, Ty.sizes tys⟩] w w4 := f02.tr f24.nil;have hrg4 := f24.range hrg .nil;have hcv4 : w4.cell? ⟨pb, Ty.sizes (tys.take jt), none⟩ = some v := by have := hrg4 (Ty.sizes (tys.take jt)) v (by rw [List.getElem?_set_self hlt]); simpa using this
    have htv4 : TagV w4 B w.heap.size v x := by
      rcases htv with h | ⟨rr, kv, h1, h2, h3, h4⟩
      · exact .inl h
      exact .inr ⟨rr, kv, h1, h2, h3.kept f24 (by simp) (by simp) (fun _ h => h), h4⟩
    have hth4 : w4.there pb (Ty.sizes (tys.take jt)) 1 := there_part (f04.there hth) (by omega) (by omega);have hyv4 := hyv.kept f24 (by simp) (fun _ h => h);refine wp_reg ?_;refine wC (wFa (b := pb) (i := 0) hF (by rw [eTm, gv4]) ?_);refine wC (wFa (b := w2.heap.size) (i := 0) (hE.field (k := 0) (by decide)) (by rw [eTm, gR, gt4]) ?_);refine wC (wp_load (v := .int .u32 kk) hcU (by rw [eTm, gQ]) (rbx 0 _ rfl) ?_);refine wC (wFa (b := w2.heap.size) (i := 0) (hE.field (k := 1) (by decide)) (by rw [eTm, gR, gR, gR, gt4]) ?_);refine wC (wp_load (v := xv) hcB (by rw [eTm, gQ]) (rbx 1 _ rfl) ?_);have k5 : Kept n2 a4 (((((a4.put (some n2) (.pointer (some ⟨pb, 0 + Ty.sizes (tys.take jt), none⟩))).put (some (n2 + 1)) (.pointer (some ⟨w2.heap.size, 0 + 0, none⟩))).put (some (n2 + 2)) (.int .u32 kk)).put (some (n2 + 3)) (.pointer (some ⟨w2.heap.size, 0 + 1, none⟩))).put (some (n2 + 4)) xv) := ((((Kept.put0 (Nat.le_refl _) _).put (by omega) _).put (by omega) _).put (by omega) _).put (by omega) _;have f5 : Fr [] w4 w4 := Fr.refl [] w4;have sz5 := f5.size;rw [wCo];refine wp_calls (R := fun _ w' => ∃ r, w'.cell? ⟨pb, Ty.sizes (tys.take jt), none⟩ = some (.map (some r)) ∧ w.heap.size ≤ r ∧ TagM w' B r (kvSet (tagKv x) kk (.oct y)) ∧ Fr [⟨pb, Ty.sizes (tys.take jt), Ty.sizes (tys.take jt) + 1⟩, ⟨r, 0, 0⟩] w4 w') hset.enters (vs := #[.pointer (some ⟨pb, Ty.sizes (tys.take jt), none⟩), .int .u32 kk, xv])
        (by simp only [List.map_toArray, List.map_nil, List.map_cons, eTm]; rw [gR, gR, gR, gR, gQ, gR, gR, gQ, gQ, Nat.zero_add])
        ((hset.call w4 B w.heap.size pb (Ty.sizes (tys.take jt)) v x kk xv y hcv4 hth4 htv4 (fun b hb => by have := st.bp b hb; omega) (by omega) hk32 hyv4 (fun h => by have := st.bp _ h; omega)).mono (by rintro e' w' ⟨⟨zz, rfl⟩, h⟩; exact ⟨_, rfl, h⟩)) ?_
    generalize (((((a4.put (some n2) (.pointer (some ⟨pb, 0 + Ty.sizes (tys.take jt), none⟩))).put (some (n2 + 1)) (.pointer (some ⟨w2.heap.size, 0 + 0, none⟩))).put (some (n2 + 2)) (.int .u32 kk)).put (some (n2 + 3)) (.pointer (some ⟨w2.heap.size, 0 + 1, none⟩))).put (some (n2 + 4)) xv) = a5 at k5 ⊢;rintro zz w6 ⟨r6, hc6, hlo6, hm6, f6⟩;rw [wNi];have sz6 := f6.size;have k6 : Kept n2 a4 (a5.put (some (n2 + 5)) zz) := k5.put (by omega) _;generalize a5.put (some (n2 + 5)) zz = a6 at k6 ⊢;refine hK4 a6 w6 ?_;have hN6 : a6.tmps.size = N := k6.size.trans hN4;refine wp_reg ?_;refine wC (wp_add (k1 := .i64) (i := j) (j := 1) (by rw [eTm, k6.get _ (by omega), kq4 _ (by omega) (by omega), gi2]) rfl ?_);rw [wCo, wMw, eTm, gQ, wNi];have hwr : IntKind.i64.wrap ((j : Int) + 1) = ((j + 1 : Nat) : Int) := by
      simp [IntKind.wrap, IntKind.bits, IntKind.signed]; omega
    rw [hwr];have kf : ∀ s, s < m1 → s ≠ tv → s ≠ n + 3 → get ((a6.put (some q) (.int .i64 ((j + 1 : Nat) : Int))).put (some (n + 3)) (.int .i64 ((j + 1 : Nat) : Int))) s = get a2 s := by
      intro s h1 h2 h3;rw [gPn h3.symm, gR, k6.get s (by omega), kq4 s h1 h2]
    refine ⟨r - 1, by omega, j + 1, .t (kvSet (tagKv x) kk (.oct y)), .map (some r6), by omega, by simp only [sPu]; exact hN6, by simp only [dPu]; exact k6.defers.trans hd4, by rw [kf sv (by omega) c9 (by omega)]; exact gv2, by rw [kf sb (by omega) c10 (by omega)]; exact gb2, by rw [kf se (by omega) c11 (by omega)]; exact ge2, by rw [kf _ (by omega) (by omega) (by omega)]; exact gu2, by rw [kf _ (by omega) (by omega) (by omega)]; exact gl2, gQ, ?_, ?_, ?_, ?_⟩
    · rw [List.take_add_one, hks];exact .step htgr hys
    · exact .inr ⟨r6, _, rfl, hlo6, hm6, rfl⟩
    · have := range_put (f5.range hrg4 .nil) f6 hc6 (by rw [List.length_set]; exact hlt)
      rwa [List.set_set] at this
    refine (f04.tr f5.nil).trans f6 ?_;intro r hr; simp at hr
    rcases hr with rfl | rfl
    · exact .inr ⟨_, List.mem_singleton.2 rfl, rfl, by simp, by simp only; omega⟩
    exact .inl (by simp only; omega)
  intro hge;have hjl : j = t.us.length := by
    have : ¬ ((j : Int) < t.us.length) := by simpa using hge
    omega
  refine wp_exit ?_;show Exit.inBlock b0 (Exit.then K Q) (.exit b0) a3 w2
  simp only [Exit.inBlock, if_true];have htk : t.us.take j = t.us := by rw [hjl, List.take_length]
  rw [htk] at htgr;have hcv : w2.cell? ⟨pb, Ty.sizes (tys.take jt), none⟩ = some v := by have := hrg (Ty.sizes (tys.take jt)) v (by rw [List.getElem?_set_self hlt]); simpa using this
  have hr1 : Reps w2 (Rch B pb w2) tys z xs := hrep.kept f02 (by intro r hr hA; simp at hr; subst hr; exact hA.self st.bp) (fun b hb => hb.mono (by omega));have hvr : Rep w2 (Rch B pb w2) .tags [v] x := by
    rcases htv with ⟨rfl, rfl⟩ | ⟨rr, kv, rfl, hlo, hm, rfl⟩
    · exact .inl ⟨rfl, rfl⟩
    have hnr := hm.notCell hcv;have hrl := hm.lt;obtain ⟨es, clock, h1, h2, h3⟩ := hm;exact .inr ⟨rr, es, clock, kv, (.inr ⟨by omega, hrl⟩), rfl, h1, Entries.kept (Fr.refl [] w2) (by simp) (fun b hb => .inl hb) h2, rfl, h3⟩
  refine hK a3 w2 _ ⟨x, htgr, rfl⟩ ⟨hN3, kk3.defers.trans hd2, (kk3.get sv (by omega)).trans gv2, (kk3.get sb (by omega)).trans gb2, (kk3.get se (by omega)).trans ge2, f02.range st.tr (.cons (.inl (by simp only; omega)) .nil), st.rt.kept f02 (by intro r hr hA; simp at hr; subst hr; have := st.bp _ hA; simp only at this; omega) (fun _ h => h), hptb, st.bp, _, hrg, by rw [List.length_set]; exact f02.there hth, hr1.set hj rfl hvr⟩ f02
theorem repT_nl {w : World} {A : Nat → Prop} {cs : List Value} {t : T} (h : RepT w A cs t) : cs[2]? = some (.bool t.nl) := by
  cases t with
  | mk n s nl l u => obtain ⟨_, _, _, rfl, _⟩ := repT_iff.1 h; rfl
theorem textof_m {P : Program} {f : FuncId} {fn : Func} {TT T4 T22 T9 : TypeId} {zz : List Value} {i0 i1 i2 i3 i4 : Nat} {t0 t1 t2 t3 t4 t5 t6 t7 t8 t9 t10 : TypeId} {p0 p1 p2 p3 p4 p5 p6 p7 p8 p9 p10 : String} {e0 e1 e2 e3 e4 e5 e6 e7 e8 e9 e10 : Array Edge}
    (hf : P.funcs[f]? = some fn) (hname : (fn.name == "runtime.NumGoroutine") = false) (hres : fn.results = #[.tmp 2]) (hN : fn.ntmps = 9)
    (hbody : fn.body = some (.seq (Code.region i0 ⟨[⟨some 1, .box TT (.tmp 0), t0, p0, e0, none⟩, oA 2 (.const (.pointer none)) t1 p1 e1]⟩ false) (.seq (.seq (Code.region i1 ⟨[oF 4 TT 1 2 t2 p2 e2, oL 5 T4 4 t3 p3 e3]⟩ false) (.cond (.tmp 5) (.seq (Code.region i2 ⟨[oA 2 (.const (.pointer none)) t4 p4 e4]⟩ false) .ret) .skip)) (.seq (Code.region i3 ⟨[oF 6 TT 1 1 t5 p5 e5, oL 7 T22 6 t6 p6 e6, ⟨some 8, .convert T22 T9 (.tmp 7), t7, p7, e7, none⟩, ⟨some 3, .alloc T9, t8, p8, e8, none⟩, oS T9 3 8 t9 p9 e9]⟩ false) (.seq (Code.region i4 ⟨[oT 2 3 t10 p10 e10]⟩ false) .ret)))))
    (hT : Flat P TT zT) (h4 : scal P T4 = true) (h22 : scal P T22 = true) (hb22 : byteSl P T22 = true) (h9 : strTy P T9 = true) (h9s : scal P T9 = true) (hz : zeroIs P T9 zz) (hzl : zz.length = 1) : MkF P f .pstr (fun x => if x.nl then .nil else .s x.s) := by
  refine ⟨enters_of hf hname hbody, ?_⟩;intro w pb B cs x hr hBp hpb;refine calls_of_wp hf hbody ?_;generalize ha0 : ({ tmps := #[Value.agg cs.toArray] ++ Array.replicate (fn.ntmps - #[Value.agg cs.toArray].size) undef, defers := [] } : Act) = a0;have hsz : a0.tmps.size = 9 := by subst ha0; simp [hN]
  have hd0 : a0.defers = [] := by subst ha0; rfl
  have g0 : get a0 0 = .agg cs.toArray := by subst ha0; exact gAr rfl
  obtain ⟨inf, zv, hinf, hzv, hzc⟩ := hz;refine wT fun K1 hK1 => ?_;refine wC (wp_boxL (cs := cs) (by rw [eTm, g0]) ?_);intro w1 f1 sz1 r1 th1;rw [wCo, wAg, eCo, wNi];have k1 : Kept 1 a0 ((a0.put (some 1) (.pointer (some ⟨w.heap.size, 0, none⟩))).put (some 2) (.pointer none)) := (Kept.put0 (by omega) _).put (by omega) _;have q1 : get ((a0.put (some 1) (.pointer (some ⟨w.heap.size, 0, none⟩))).put (some 2) (.pointer none)) 1 = .pointer (some ⟨w.heap.size, 0, none⟩) := by rw [gR, gQ]
  generalize ((a0.put (some 1) (.pointer (some ⟨w.heap.size, 0, none⟩))).put (some 2) (.pointer none)) = a1 at k1 q1 ⊢;have hz1 := k1.size;refine hK1 a1 w1 (tUp ?_);refine tId (wp_seq_k fun K2 hK2 => ?_);refine wS fun K3 hK3 => ?_;refine wC (wFa (b := w.heap.size) (i := 0) (hT.field (k := 2) (by decide)) (by rw [eTm, q1]) ?_);refine wC (wp_load (v := .bool x.nl) h4 (by rw [eTm, gQ]) (r1 2 _ (repT_nl hr)) ?_);rw [wNi];have k2 : Kept 3 a1 ((a1.put (some 4) (.pointer (some ⟨w.heap.size, 0 + 2, none⟩))).put (some 5) (.bool x.nl)) := (Kept.put0 (by omega) _).put (by omega) _;have q5 : get ((a1.put (some 4) (.pointer (some ⟨w.heap.size, 0 + 2, none⟩))).put (some 5) (.bool x.nl)) 5 = .bool x.nl := gQ;generalize ((a1.put (some 4) (.pointer (some ⟨w.heap.size, 0 + 2, none⟩))).put (some 5) (.bool x.nl)) = a2 at k2 q5 ⊢;have hz2 := k2.size;have hd2 : a2.defers = [] := by rw [k2.defers, k1.defers, hd0]
  refine hK3 a2 w1 ?_;refine wp_cond_split (t := x.nl) (by rw [eTm, q5]) (fun hn => ?_) fun hn => wp_skip (hK2 a2 w1 (tUp ?_))
  · refine wp_seq_k fun K4 hK4 => ?_;refine wp_reg ?_;rw [wCo, wAg, eCo, wNi];refine hK4 _ w1 (wp_ret ?_);refine ⟨by simp only [dPu]; exact hd2, _, rIs hres (gQ), _, rfl, rfl, f1, ?_⟩;rw [if_pos hn];exact .inl ⟨rfl, rfl⟩
  obtain ⟨sv, hsv, hso⟩ := repT_s hr;refine wT fun K4 hK4 => ?_;refine wC (wFa (b := w.heap.size) (i := 0) (hT.field (k := 1) (by decide)) (by rw [eTm, k2.get 1 (by omega), q1]) ?_);refine wC (wp_load (v := sv) h22 (by rw [eTm, gQ]) (r1 1 _ hsv) ?_);refine wC (wp_toStrE hb22 h9 (by rw [eTm, gQ]) (hso.kept f1 (by simp) (fun _ h => h)) ?_);refine wC (wp_alloc ⟨inf, hinf, hzv⟩ ?_);have fa := Fr.alloc [] w1 (.cells zv.cells T9);have tha : (w1.alloc (.cells zv.cells T9)).there w1.heap.size 0 1 := by rw [← hzl, ← hzc, Array.length_toList]; exact there_new w1 zv.cells T9
  have sza := size_alloc w1 (.cells zv.cells T9);generalize w1.alloc (.cells zv.cells T9) = w2 at fa tha sza ⊢;refine wC (wp_store (b := w1.heap.size) (o := 0) (v := .string (strOf x.s)) h9s (by rw [eTm, gQ]) (by rw [eTm, gR, gQ]) rfl tha ?_);rw [pNo, wNi];have fs := Fr.set w2 w1.heap.size 0 (.string (strOf x.s));have hc := range_set (v := .string (strOf x.s)) tha;generalize w2.setCell ⟨w1.heap.size, 0, none⟩ (.string (strOf x.s)) = w3 at fs hc ⊢;have szs := fs.size;have q3 : get ((((a2.put (some 6) (.pointer (some ⟨w.heap.size, 0 + 1, none⟩))).put (some 7) sv).put (some 8) (.string (strOf x.s))).put (some 3) (.pointer (some ⟨w1.heap.size, 0, none⟩))) 3 = .pointer (some ⟨w1.heap.size, 0, none⟩) := gQ;have hd3 : ((((a2.put (some 6) (.pointer (some ⟨w.heap.size, 0 + 1, none⟩))).put (some 7) sv).put (some 8) (.string (strOf x.s))).put (some 3) (.pointer (some ⟨w1.heap.size, 0, none⟩))).defers = [] := by simp only [dPu]; exact hd2
  have hz3 : ((((a2.put (some 6) (.pointer (some ⟨w.heap.size, 0 + 1, none⟩))).put (some 7) sv).put (some 8) (.string (strOf x.s))).put (some 3) (.pointer (some ⟨w1.heap.size, 0, none⟩))).tmps.size = 9 := by simp only [sPu]; omega
  generalize ((((a2.put (some 6) (.pointer (some ⟨w.heap.size, 0 + 1, none⟩))).put (some 7) sv).put (some 8) (.string (strOf x.s))).put (some 3) (.pointer (some ⟨w1.heap.size, 0, none⟩))) = a3 at q3 hd3 hz3 ⊢;refine hK4 a3 w3 (tUp ?_);refine wT fun K5 hK5 => ?_;rw [wCo, wAg, eTm, q3, wNi];refine hK5 _ w3 (wp_ret ?_);refine ⟨by simp only [dPu]; exact hd3, _, rIs hres (gQ), _, rfl, rfl, (f1.tr fa).trans fs (by intro r hr; simp at hr; subst hr; exact .inl (by simp only; omega)), ?_⟩;rw [if_neg (by simp [hn])];exact .inr ⟨w1.heap.size, 0, strOf x.s, .inr ⟨by omega, by omega⟩, rfl, hc, by rw [strOf_list], by rw [strOf_list]; exact octE_big hso⟩
end Go.Kq

namespace Go.Kq
open Go Go.Proofs
def FTail (P : Program) (N sv sb se : Nat) (c tail : Code) (tys : List Ty) (pre : List V → Prop) (R : T → List V → List V → Prop) : Prop :=
  ∀ (ev : Value) (pb tb : Nat) (B : Nat → Prop) (ct : List Value) (t : T) (Q : Exit → Act → World → Prop) (a : Act) (w : World) (xs : List V), pre xs → FSt N sv sb se ev pb tb B ct t tys a w xs →
    (∀ a' w' ys, R t xs ys → FSt N sv sb se ev pb tb B ct t tys a' w' ys → Fr [⟨pb, 0, Ty.sizes tys⟩] w w' → tail.wp P Q a' w') → c.wp P Q a w
theorem FTail.cons {P : Program} {N sv sb se : Nat} {c c' tail : Code} {tys : List Ty} {pre : List V → Prop} {R R' : T → List V → List V → Prop} (h : FRun P N sv sb se c tys R) (h' : FTail P N sv sb se c' tail tys pre R') (hp : ∀ t xs ys, pre xs → R t xs ys → pre ys) : FTail P N sv sb se (.seq c c') tail tys pre (fun t xs ys => ∃ zs, R t xs zs ∧ R' t zs ys) := by
  intro ev pb tb B ct t Q a w xs hx hs hK;refine tId (wp_seq_k fun K1 hK1 => ?_);refine h ev pb tb B ct t K1 _ a w xs hs fun a1 w1 zs r1 s1 f1 => hK1 a1 w1 (tUp ?_);exact h' ev pb tb B ct t Q a1 w1 _ (hp _ _ _ hx r1) s1 fun a2 w2 ys r2 s2 f2 => hK a2 w2 ys ⟨zs, r1, r2⟩ s2 (f1.tr f2)
theorem FTail.last {P : Program} {N sv sb se : Nat} {c tail : Code} {tys : List Ty} {pre : List V → Prop} {R : T → List V → List V → Prop} (h : FRunP P N sv sb se c tys pre R) : FTail P N sv sb se (.seq c tail) tail tys pre R := by
  intro ev pb tb B ct t Q a w xs hx hs hK;refine tId (wp_seq_k fun K1 hK1 => ?_);exact h ev pb tb B ct t K1 _ a w xs hx hs fun a1 w1 ys r1 s1 f1 => hK1 a1 w1 (tUp (hK a1 w1 ys r1 s1 f1))
theorem reps_ones {w : World} {A : Nat → Prop} : ∀ {tys : List Ty} {cs : List Value} {ys : List V}, tys.all Ty.one = true → Reps w A tys cs ys → ∀ u ∈ cs, u.oneCell' = true
  | [], cs, ys, _, h, u, hu => by obtain ⟨rfl, _⟩ := h; simp at hu
  | t :: ts, cs, ys, ho, h, u, hu => by
    obtain ⟨c1, c2, y, r, rfl, rfl, h2, h3⟩ := h;simp only [List.all_cons, Bool.and_eq_true] at ho;have hl := h2.length;rw [Ty.one_size ho.1] at hl;obtain ⟨v, rfl⟩ := List.length_eq_one_iff.1 hl
    rcases List.mem_append.1 hu with hu | hu
    · simp at hu; subst hu; exact h2.oneCell ho.1
    exact reps_ones ho.2 h3 u hu
structure MkE (P : Program) (f : FuncId) (tys : List Ty) (R : T → List V → Prop) : Prop where
  enters : Enters P f
  call : ∀ (w : World) (B : Nat → Prop) (ct : List Value) (t : T), RepT w B ct t → (∀ b, B b → b < w.heap.size) →
    Calls P f #[.agg ct.toArray] w fun e w' => ∃ cs ys, e = .returned (.agg cs.toArray) ∧ R t ys ∧ Fr [] w w' ∧ cs.length = Ty.sizes tys ∧ Reps w' (fun b => B b ∨ From w.heap.size w' b) tys cs ys
theorem make_e {P : Program} {f : FuncId} {fn : Func} {N n : Nat} {TT TX : TypeId} {i0 i1 i2 : Nat} {c : Code} {tys : List Ty} {zs : List Value} {ds : List V} {pre : List V → Prop} {R : T → List V → List V → Prop}
    {t0 t1 t2 t3 t4 : TypeId} {p0 p1 p2 p3 p4 : String} {e0 e1 e2 e3 e4 : Array Edge}
    (hf : P.funcs[f]? = some fn) (hname : (fn.name == "runtime.NumGoroutine") = false) (hres : fn.results = #[.cell 2 TX]) (hN : fn.ntmps = N)
    (hbody : fn.body = some (.seq (Code.region i0 ⟨[⟨some 1, .box TT (.tmp 0), t0, p0, e0, none⟩, ⟨some 2, .alloc TX, t1, p1, e1, none⟩]⟩ false) (.seq (Code.region i1 ⟨[⟨some 3, .alloc TX, t2, p2, e2, none⟩]⟩ false) c)))
    (hX : Flat P TX zs) (hzr : ∀ w, Reps w NoFoot tys zs ds) (hones : ∀ (w : World) (A : Nat → Prop) (cs : List Value) (ys : List V), Reps w A tys cs ys → ∀ u ∈ cs, u.oneCell' = true) (hpre : pre ds) (hb : (decide (3 < n) && decide (n < N)) = true)
    (h : FTail P N 3 1 2 c (.seq (Code.region i2 ⟨[oL n TX 3 t3 p3 e3, oS TX 2 n t4 p4 e4]⟩ false) .ret) tys pre R) : MkE P f tys (fun t ys => R t ds ys) := by
  refine ⟨enters_of hf hname hbody, ?_⟩;intro w B ct t hrt hB;simp only [Bool.and_eq_true, decide_eq_true_eq] at hb;obtain ⟨b1, b2⟩ := hb;refine calls_of_wp hf hbody ?_;generalize ha0 : ({ tmps := #[Value.agg ct.toArray] ++ Array.replicate (fn.ntmps - #[Value.agg ct.toArray].size) undef, defers := [] } : Act) = a0;have hsz : a0.tmps.size = N := by subst ha0; simp [hN]; omega
  have hd0 : a0.defers = [] := by subst ha0; rfl
  have g0 : get a0 0 = .agg ct.toArray := by subst ha0; exact gAr rfl
  have hzl : zs.length = Ty.sizes tys := (hzr w).length;refine wT fun K1 hK1 => ?_;refine wC (wp_boxL (cs := ct) (by rw [eTm, g0]) ?_);intro w1 f1 sz1 r1 th1;refine wC (wp_alloc hX.zero ?_);rw [wNi];have fa := Fr.alloc [] w1 (.cells (Value.agg zs.toArray).cells TX);have tha : (w1.alloc (.cells (Value.agg zs.toArray).cells TX)).there w1.heap.size 0 zs.length := by have := there_new w1 (Value.agg zs.toArray).cells TX; simpa [Value.cells] using this
  have sza := size_alloc w1 (.cells (Value.agg zs.toArray).cells TX);generalize w1.alloc (.cells (Value.agg zs.toArray).cells TX) = w2 at fa tha sza ⊢;have k1 : Kept 1 a0 ((a0.put (some 1) (.pointer (some ⟨w.heap.size, 0, none⟩))).put (some 2) (.pointer (some ⟨w1.heap.size, 0, none⟩))) := (Kept.put0 (by omega) _).put (by omega) _;have q1 : get ((a0.put (some 1) (.pointer (some ⟨w.heap.size, 0, none⟩))).put (some 2) (.pointer (some ⟨w1.heap.size, 0, none⟩))) 1 = .pointer (some ⟨w.heap.size, 0, none⟩) := by rw [gR, gQ]
  have q2 : get ((a0.put (some 1) (.pointer (some ⟨w.heap.size, 0, none⟩))).put (some 2) (.pointer (some ⟨w1.heap.size, 0, none⟩))) 2 = .pointer (some ⟨w1.heap.size, 0, none⟩) := gQ;generalize ((a0.put (some 1) (.pointer (some ⟨w.heap.size, 0, none⟩))).put (some 2) (.pointer (some ⟨w1.heap.size, 0, none⟩))) = a1 at k1 q1 q2 ⊢;have hz1 := k1.size;refine hK1 a1 w2 (tUp ?_);refine wT fun K2 hK2 => ?_;refine wC (wp_alloc hX.zero ?_);rw [wNi];have fb := Fr.alloc [] w2 (.cells (Value.agg zs.toArray).cells TX);have thb : (w2.alloc (.cells (Value.agg zs.toArray).cells TX)).there w2.heap.size 0 zs.length := by have := there_new w2 (Value.agg zs.toArray).cells TX; simpa [Value.cells] using this
  have rb : (w2.alloc (.cells (Value.agg zs.toArray).cells TX)).rangeAt w2.heap.size 0 zs := by have := range_new w2 (Value.agg zs.toArray).cells TX (0, 0); simpa [Value.cells] using this
  have szb := size_alloc w2 (.cells (Value.agg zs.toArray).cells TX);generalize w2.alloc (.cells (Value.agg zs.toArray).cells TX) = w3 at fb thb rb szb ⊢;refine hK2 _ w3 (tUp ?_);have f03 : Fr [] w w3 := (f1.tr fa).tr fb;refine h (.pointer (some ⟨w1.heap.size, 0, none⟩)) w2.heap.size w.heap.size B ct t _ _ w3 ds hpre ⟨by simp only [sPu]; omega, by simp only [dPu]; rw [k1.defers, hd0], gQ, by rw [gR, q1], by rw [gR, q2], fb.range (fa.range r1 .nil) .nil, hrt.kept f03 (by simp) (fun _ h => h), by omega, fun b hb => by have := hB b hb; omega, zs, rb, thb, (hzr w3).kept (Fr.refl [] w3) (by simp) (fun b h => h.elim)⟩ ?_;intro a4 w4 ys hRy st f4;have sz4 := f4.size;obtain ⟨z, hz, hth, hr⟩ := st.cs;have hzl4 : z.length = Ty.sizes tys := hr.length;have hN4 := st.sz;refine wT fun K4 hK4 => ?_;refine wC (wp_loadFlat hX (b := w2.heap.size) (o := 0) (cs := z) (by omega) (by rw [eTm, st.gv]) hz ?_);rw [wCo];have tha4 : w4.there w1.heap.size 0 z.length := by rw [hzl4, ← hzl]; exact f4.there (fb.there tha)
  refine wp_storeFlat hX (b := w1.heap.size) (o := 0) (cs := z) (by omega) (by rw [eTm, gR, st.ge]) (by rw [eTm, gQ]) (hones _ _ _ _ hr) tha4 ?_;rw [pNo, wNi];have f5 := Fr.sets w1.heap.size z w4 0;have r5 := World.rangeAt_setCells_same w4 w1.heap.size 0 z tha4;generalize w4.setCells w1.heap.size 0 z = w5 at f5 r5 ⊢;have sz5 := f5.size;refine hK4 _ w5 (wp_ret ?_);refine ⟨by simp only [dPu]; exact st.df, _, results_cell hres hX (by omega) (by rw [gR, st.ge]) r5, z, ys, rfl, hRy, ?_, hzl4, ?_⟩
  · refine (f03.trans f4 (by intro r hr; simp at hr; subst hr; exact .inl (by simp only; omega))).trans f5 (by intro r hr; simp at hr; subst hr; exact .inl (by simp only; omega))
  refine hr.kept f5 ?_ ?_
  · intro r hr' hA; simp at hr'; subst hr'
    rcases hA with hA | hA
    · have := hB _ hA; simp only at this; omega
    simp only at hA; omega
  rintro b (hb | hb)
  · exact .inl hb
  exact .inr ⟨by omega, by omega⟩
end Go.Kq

namespace Go.Kq
open Go Go.Proofs
inductive LsR (R : T → V → Prop) : List T → List V → Prop where
  | nil : LsR R [] []
  | snoc {l : List T} {ys : List V} {t : T} {y : V} (h : LsR R l ys) (hr : R t y) : LsR R (l ++ [t]) (ys ++ [y])
theorem LsR.len {R : T → V → Prop} {l : List T} {ys : List V} (h : LsR R l ys) : ys.length = l.length := by
  induction h with
  | nil => rfl
  | snoc _ _ ih => simp [ih]
section
variable {P : Program} {a : Act} {w : World} {K : Act → World → Prop} {Q : Exit → Act → World → Prop} {d : Option Tmp} {t : TypeId} {p : String} {af : Array Edge} {gd : Option (Nat × Bool)}
theorem wp_appendRoom {T e sz bs : Nat} {b o n cap m c xb xo : Nat} {news : List Value} {x y : Operand} (hT : sliceOf P T e sz bs = true) (hx : a.eval x = .slice (some ⟨b, o, none⟩) n cap) (hy : a.eval y = .slice (some ⟨xb, xo, none⟩) m c)
    (hl : news.length = m * sz) (hn : w.rangeAt xb xo news) (h1 : ∀ u ∈ news, u.oneCell' = true) (hroom : n + m ≤ cap) (ht : w.there b (o + n * sz) news.length)
    (k : K (a.put d (.slice (some ⟨b, o, none⟩) (n + m) cap)) (w.setCells b (o + n * sz) news)) : OW P ⟨d, .call ⟨.builtin .append, #[x, y], #[T, T]⟩, t, p, af, gd⟩ a w K Q := by
  obtain ⟨hu, i, z0, hi, hs, hby, hzz, hsz⟩ := under_slice hT;subst hs;have hr := run_append_room_cells (P := P) w T t e i hu hi b o n cap ⟨xb, xo, none⟩ m c news hl (fun j u hj => by rw [Addr.add_mid]; exact hn j u hj) h1 hroom (fun j hj => (ht j hj).1) (fun j hj => (ht j hj).2);refine wp_val (v := .slice (some ⟨b, o, none⟩) (n + m) cap) (w' := w.setCells b (o + n * i.size) news) ?_ k;simp [execOp, resolve, invoke, builtin, hx, hy, hr]
def fldBo (P : Program) (s : TypeId) (k : Nat) : Bool := match P.underlying s with
  | some (.struct fs) => (match fs[k]? with | some f => (match P.underlying f.type with | some .bool => true | _ => false) | none => false)
  | _ => false
theorem wp_fieldB {s : TypeId} {cs : List Value} {k : Nat} {x : Operand} {v : Value} (hi : fldBo P s k = true) (ho : fieldOf P s k k = true) (hx : a.eval x = .agg cs.toArray) (hv : cs[k]? = some v)
    (kk : K (a.put d v) w) : OW P ⟨d, .field s x k, t, p, af, gd⟩ a w K Q := by
  refine wp_val (v := v) (w' := w) ?_ kk;unfold fldBo at hi;unfold fieldOf at ho
  cases hu : P.underlying s with
  | none => simp [hu] at hi
  | some td =>
    cases td <;> simp only [hu] at hi ho <;> first | (simp at hi; done) | skip
    rename_i fs
    cases hf : fs[k]? with
    | none => simp [hf] at hi
    | some f =>
      simp only [hf] at hi ho
      cases hk : P.underlying f.type with
      | none => simp [hk] at hi
      | some tk =>
        cases tk <;> simp only [hk] at hi <;> first | (simp at hi; done) | skip
        have : f.offset = k := by simp only [Bool.and_eq_true, beq_iff_eq] at ho; exact ho.1
        simp [execOp, Instr.field, hx, run_underlying hu, hf, asAgg, part, isAgg, run_underlying hk, this, hv]
end
theorem repT_l {w : World} {A : Nat → Prop} {cs : List Value} {t : T} (h : RepT w A cs t) : ∃ lv, cs[3]? = some lv ∧ Things w A lv t.l := by
  cases t with
  | mk n s nl l u => obtain ⟨_, lv, _, rfl, _, _, h, _⟩ := repT_iff.1 h; exact ⟨lv, rfl, h⟩
theorem Things.slice3 {w : World} {A : Nat → Prop} {v : Value} {l : List T} (h : Things w A v l) : ∃ q cap, v = .slice q l.length cap ∧ l.length ≤ 4294967296 := by
  rcases h with ⟨rfl | ⟨a, rfl⟩, rfl⟩ | ⟨b, o, cap, _, rfl, h, _⟩
  · exact ⟨_, _, rfl, by simp⟩
  · exact ⟨_, _, rfl, by simp⟩
  exact ⟨_, _, rfl, h.2⟩
def RoomR (P : Program) (N sv sb n i o sz : Nat) (c : Code) : Prop :=
  ∀ (pb tb : Nat) (B : Nat → Prop) (ct : List Value) (t : T) (z : List Value) (K : Act → World → Prop) (Q : Exit → Act → World → Prop) (a : Act) (w : World),
    a.tmps.size = N → get a sv = .pointer (some ⟨pb, 0, none⟩) → get a sb = .pointer (some ⟨tb, 0, none⟩) → w.rangeAt tb 0 ct → RepT w B ct t → (∀ b, B b → b < pb) → pb < w.heap.size → w.rangeAt pb 0 z → w.there pb 0 z.length → o < z.length →
    (∀ a' w' g, Kept n a a' → w.heap.size ≤ g → g < w'.heap.size → w'.there g 0 ((atT t.l i).l.length * sz) → w'.rangeAt pb 0 (z.set o (.slice (some ⟨g, 0, none⟩) 0 (atT t.l i).l.length)) → Fr [⟨pb, o, o + 1⟩] w w' → K a' w') → c.wp P (Exit.then K Q) a w
def AddR (P : Program) (N sv xv n o sz : Nat) (ety : Ty) (R : T → V → Prop) (c : Code) : Prop :=
  ∀ (pb xb g j cap : Nat) (B : Nat → Prop) (cx : List Value) (x : T) (z : List Value) (K : Act → World → Prop) (Q : Exit → Act → World → Prop) (a : Act) (w : World),
    a.tmps.size = N → get a sv = .pointer (some ⟨pb, 0, none⟩) → get a xv = .pointer (some ⟨xb, 0, none⟩) → w.rangeAt xb 0 cx → RepT w B cx x → (∀ b, B b → b < pb) → pb < g → g < xb → xb < w.heap.size → w.rangeAt pb 0 z → w.there pb 0 z.length → z[o]? = some (.slice (some ⟨g, 0, none⟩) j cap) → j < cap → w.there g 0 (cap * sz) →
    (∀ a' w' cs y, Kept n a a' → R x y → cs.length = sz → Rep w' (Rch B g w') ety cs y → w'.rangeAt g (j * sz) cs → w'.rangeAt pb 0 (z.set o (.slice (some ⟨g, 0, none⟩) (j + 1) cap)) → Fr [⟨g, j * sz, cap * sz⟩, ⟨pb, o, o + 1⟩] w w' → K a' w') → c.wp P (Exit.then K Q) a w
theorem room_ptr {P : Program} {N sv sb n i o sz k idr bs : Nat} {TT TG TS TX S : TypeId} {fat : FuncId} {ats : Array TypeId} {zs : List Value}
    {t0 t1 t2 t3 t4 t5 t6 t7 t8 : TypeId} {p0 p1 p2 p3 p4 p5 p6 p7 p8 : String} {e0 e1 e2 e3 e4 e5 e6 e7 e8 : Array Edge}
    (hT : Flat P TT zT) (hAt : AtM P fat) (h3 : fldSl P TT 3 = true) (h3o : fieldOf P TT 3 3 = true) (hsG : slTy P TG = true) (hS : sliceOf P TS TX sz bs = true) (hz0 : zeroIs P TX zs) (hzs : zs.length = sz) (hbs : bs ≤ 65536) (hF : fieldOf P S k o = true) (hs : scal P TS = true)
    (hb : (decide (sv < n) && decide (sb < n) && decide (n + 8 < N + 1)) = true) :
    RoomR P N sv sb n i o sz (Code.region idr ⟨[oM n sv t0 p0 e0, oL (n + 1) TT sb t1 p1 e1, oC (n + 2) fat #[.tmp (n + 1), .const (.int .i64 i)] ats t2 p2 e2, ⟨some (n + 3), .field TT (.tmp (n + 2)) 3, t3, p3, e3, none⟩, ⟨some (n + 4), .call ⟨.builtin .len, #[.tmp (n + 3)], #[TG]⟩, t4, p4, e4, none⟩, ⟨some (n + 5), .makeSlice TS (.const (.int .i64 0)) (.tmp (n + 4)), t5, p5, e5, none⟩, ⟨some (n + 6), .nilCheck (.tmp n), t6, p6, e6, none⟩, oF (n + 7) S (n + 6) k t7 p7 e7, oS TS (n + 7) (n + 5) t8 p8 e8]⟩ false) := by
  intro pb tb B ct t z K Q a w hN gv gb htr hrt hbp hpw hz hth hoz hK;simp only [Bool.and_eq_true, decide_eq_true_eq] at hb;obtain ⟨⟨b1, b2⟩, b3⟩ := hb;refine wp_reg ?_;rw [wCo, wMw, eTm, gv, wCo];refine wp_loadFlat hT (by rw [hrt.length]; rfl) (by rw [eTm, gR, gb]) htr ?_;rw [wCo];refine wp_calls (R := fun v w' => ∃ cs : List Value, v = .agg cs.toArray ∧ Fr [] w w' ∧ RepT w' B cs (atT t.l i)) hAt.enters (vs := #[.agg ct.toArray, .int .i64 i])
    (by simp only [List.map_toArray, List.map_cons, List.map_nil, eTm, eCo]; rw [gQ])
    ((hAt.call w B ct t i hrt).mono (by rintro e' w' ⟨cs, rfl, h1, h2⟩; exact ⟨_, rfl, cs, rfl, h1, h2 (fun b hb => by have := hbp b hb; omega)⟩)) ?_
  rintro _ w1 ⟨cs, rfl, f1, hcs⟩;have sz1 := f1.size;obtain ⟨lv, hlv, hth1⟩ := repT_l hcs;obtain ⟨lq, lcap, rfl, hll⟩ := hth1.slice3;refine wC (wp_fieldS h3 h3o (cs := cs) (by rw [eTm, gQ]) hlv ?_);refine wC (wp_lenS hsG (q := lq) (n := (atT t.l i).l.length) (cap := lcap) (by rw [eTm, gQ]) ?_);rw [wCo];have hbn : bs * (atT t.l i).l.length ≤ 65536 * 4294967296 := Nat.mul_le_mul hbs hll;refine wp_make0 hS hz0 (n := (atT t.l i).l.length) (by omega) (by omega) (by rw [eTm, gQ]) ?_;have fa := Fr.alloc [] w1 (.cells (madeCells zs.toArray ((atT t.l i).l.length * sz)) TX);have tha := there_new w1 (madeCells zs.toArray ((atT t.l i).l.length * sz)) TX;have sza := size_alloc w1 (.cells (madeCells zs.toArray ((atT t.l i).l.length * sz)) TX);have hmc : (madeCells zs.toArray ((atT t.l i).l.length * sz)).size = (atT t.l i).l.length * sz := by simp [madeCells]
  rw [hmc] at tha;generalize w1.alloc (.cells (madeCells zs.toArray ((atT t.l i).l.length * sz)) TX) = w2 at fa tha sza ⊢;refine wC (wNc (q := ⟨pb, 0, none⟩) (by rw [eTm, gR, gR, gR, gR, gR, gQ]) ?_);refine wC (wFa (b := pb) (i := 0) hF (by rw [eTm, gQ]) ?_);rw [wCo];have f02 : Fr [] w w2 := f1.tr fa;refine wp_store hs (b := pb) (o := 0 + o) (v := .slice (some ⟨w1.heap.size, 0, none⟩) 0 (atT t.l i).l.length) (by rw [eTm, gQ]) (by rw [eTm, gR, gR, gQ]) rfl (there_part (f02.there hth) (by omega) (by omega)) ?_;rw [pNo, wNi];have f3 := Fr.set w2 pb (0 + o) (.slice (some ⟨w1.heap.size, 0, none⟩) 0 (atT t.l i).l.length);have rg := range_setAt (v := .slice (some ⟨w1.heap.size, 0, none⟩) 0 (atT t.l i).l.length) (f02.range hz .nil) (f02.there hth) hoz;have sz3 := f3.size;generalize w2.setCell ⟨pb, 0 + o, none⟩ (.slice (some ⟨w1.heap.size, 0, none⟩) 0 (atT t.l i).l.length) = w3 at f3 rg sz3 ⊢;refine hK _ w3 w1.heap.size ((((((((Kept.put0 (Nat.le_refl _) _).put (by omega) _).put (by omega) _).put (by omega) _).put (by omega) _).put (by omega) _).put (by omega) _).put (by omega) _) (by omega) (by omega) (f3.there tha) rg ?_;refine Fr.trans f02.nil f3 ?_;intro r hr; simp at hr; subst hr;exact .inr ⟨_, List.mem_singleton.2 rfl, rfl, by simp, by simp⟩
theorem add_ptr {P : Program} {N sv xv n o sz k idr bs : Nat} {TT TS TX S : TypeId} {fmk : FuncId} {ats : Array TypeId} {zs : List Value} {etys : List Ty} {R : T → List V → Prop}
    {t0 t1 t2 t3 t4 t5 t6 t7 t8 t9 t10 t11 : TypeId} {p0 p1 p2 p3 p4 p5 p6 p7 p8 p9 p10 p11 : String} {e0 e1 e2 e3 e4 e5 e6 e7 e8 e9 e10 e11 : Array Edge}
    (hmk : MkE P fmk etys R) (hT : Flat P TT zT) (hS : sliceOf P TS TX sz bs = true) (hz0 : zeroIs P TX zs) (hzs : zs.length = sz) (hsz : sz = Ty.sizes etys) (hs0 : sz ≤ 16777216) (hones : ∀ (w : World) (A : Nat → Prop) (cs : List Value) (ys : List V), Reps w A etys cs ys → ∀ u ∈ cs, u.oneCell' = true) (hF : fieldOf P S k o = true) (hs : scal P TS = true)
    (hmx : P.follows .mixedOrders = true) (he : edgeOk 0 [e0, e1, e2, e3, e4, e5, e6, e7, e8, e9, e10, e11] ([[], [], [1], [2], [3], [], [5], [6], [4, 7]] ++ allAhead 9 3) = true)
    (hb : (decide (sv < n) && decide (xv < n) && decide (n + 11 < N + 1)) = true) :
    AddR P N sv xv n o sz (.st etys) (fun x y => ∃ ys, y = .l ys ∧ R x ys) (Code.region idr ⟨[oM n sv t0 p0 e0, oM (n + 1) sv t1 p1 e1, ⟨some (n + 2), .nilCheck (.tmp (n + 1)), t2, p2, e2, none⟩, oF (n + 3) S (n + 2) k t3 p3 e3, oL (n + 4) TS (n + 3) t4 p4 e4,
      oL (n + 5) TT xv t5 p5 e5, oC (n + 6) fmk #[.tmp (n + 5)] ats t6 p6 e6, ⟨some (n + 7), .buildSlice TS 1 #[(0, .tmp (n + 6))], t7, p7, e7, none⟩, ⟨some (n + 8), .call ⟨.builtin .append, #[.tmp (n + 4), .tmp (n + 7)], #[TS, TS]⟩, t8, p8, e8, none⟩, ⟨some (n + 9), .nilCheck (.tmp n), t9, p9, e9, none⟩, oF (n + 10) S (n + 9) k t10 p10 e10, oS TS (n + 10) (n + 8) t11 p11 e11]⟩ true) := by
  intro pb xb g j cap B cx x z K Q a w hN gv gx hrx hrt hbp hpg hgx hxw hz hth hzo hjc htg hK;simp only [Bool.and_eq_true, decide_eq_true_eq] at hb;obtain ⟨⟨b1, b2⟩, b3⟩ := hb;have hoz : o < z.length := (List.getElem?_eq_some_iff.1 hzo).1;have hmul : (j + 1) * sz ≤ cap * sz := Nat.mul_le_mul_right _ (by omega);rw [Nat.add_mul, Nat.one_mul] at hmul;have hBg : ∀ b, B b → b < g := fun b hb => by have := hbp b hb; omega
  refine wp_drawR (os := [oM n sv t0 p0 e0, oM (n + 1) sv t1 p1 e1, ⟨some (n + 2), .nilCheck (.tmp (n + 1)), t2, p2, e2, none⟩, oF (n + 3) S (n + 2) k t3 p3 e3, oL (n + 4) TS (n + 3) t4 p4 e4,
      oL (n + 5) TT xv t5 p5 e5, oC (n + 6) fmk #[.tmp (n + 5)] ats t6 p6 e6, ⟨some (n + 7), .buildSlice TS 1 #[(0, .tmp (n + 6))], t7, p7, e7, none⟩, ⟨some (n + 8), .call ⟨.builtin .append, #[.tmp (n + 4), .tmp (n + 7)], #[TS, TS]⟩, t8, p8, e8, none⟩]) (rest := [⟨some (n + 9), .nilCheck (.tmp n), t9, p9, e9, none⟩, oF (n + 10) S (n + 9) k t10 p10 e10, oS TS (n + 10) (n + 8) t11 p11 e11])
    [spC [] (.pointer (some ⟨pb, 0, none⟩)), spC [] (.pointer (some ⟨pb, 0, none⟩)), spC [1] (.pointer (some ⟨pb, 0, none⟩)), spC [2] (.pointer (some ⟨pb, 0 + o, none⟩)), spC [3] (.slice (some ⟨g, 0, none⟩) j cap), spC [] (.agg cx.toArray),
     spR [5] (fun v w' => ∃ (cs : List Value) (y : List V), v = .agg cs.toArray ∧ R x y ∧ cs.length = sz ∧ Reps w' (Rch B g w') etys cs y),
     spR [6] (fun v w' => ∃ (b' : Nat) (cs : List Value) (y : List V), v = .slice (some ⟨b', 0, none⟩) 1 1 ∧ g < b' ∧ w'.rangeAt b' 0 cs ∧ R x y ∧ cs.length = sz ∧ Reps w' (Rch B g w') etys cs y),
     spW [4, 7] (fun v w' => v = .slice (some ⟨g, 0, none⟩) (j + 1) cap ∧ ∃ (cs : List Value) (y : List V), R x y ∧ cs.length = sz ∧ Reps w' (Rch B g w') etys cs y ∧ w'.rangeAt g (j * sz) cs)] n [⟨g, j * sz, cap * sz⟩] hmx he (by simp [shape]) (by simp [plainO]) (by simp [spC, spR, spW]) (by simp; omega)
    ⟨lCc _ _ _, lCc _ _ _, lCc _ _ _, lCc _ _ _, lCc _ _ _, lCc _ _ _,
      (fun v w1 w2 f h => by obtain ⟨cs, y, h1, h2, h3, h4⟩ := h; exact ⟨cs, y, h1, h2, h3, h4.kept f (by intro r hr hA; simp [spR] at hr; subst hr; exact hA.self hBg) (fun b hb => hb.mono f.size)⟩),
      (fun v w1 w2 f h => by obtain ⟨b', cs, y, h1, h2, h3, h4, h5, h6⟩ := h; exact ⟨b', cs, y, h1, h2, f.range h3 (by intro r hr; simp [spR] at hr; subst hr; exact .inl (by simp only; omega)), h4, h5, h6.kept f (by intro r hr hA; simp [spR] at hr; subst hr; exact hA.self hBg) (fun b hb => hb.mono f.size)⟩),
      (fun v w1 w2 f h => by obtain ⟨h0, cs, y, h1, h2, h3, h4⟩ := h; exact ⟨h0, cs, y, h1, h2, h3.kept f (by simp [spW]) (fun b hb => hb.mono f.size), f.range h4 (by simp [spW]; exact .nil)⟩), trivial⟩
    ⟨op_c fun a' w' hk' hf' hd' K' hK' => ?_, op_c fun a' w' hk' hf' hd' K' hK' => ?_, op_c fun a' w' hk' hf' hd' K' hK' => ?_, op_c fun a' w' hk' hf' hd' K' hK' => ?_, op_c fun a' w' hk' hf' hd' K' hK' => ?_, op_c fun a' w' hk' hf' hd' K' hK' => ?_,
      op_r fun a' w' hk' hf' hd' K' hK' => ?_, op_r fun a' w' hk' hf' hd' K' hK' => ?_, op_w fun a' w' hk' hf' hd' K' hK' => ?_, trivial⟩ ?_
  · rw [wMw, eTm, hk'.get sv (by omega), gv]; exact hK'
  · rw [wMw, eTm, hk'.get sv (by omega), gv]; exact hK'
  · exact wNc (by rw [eTm]; exact hd'.c (nd' := []) 1 (by simp) rfl) hK'
  · exact wFa hF (by rw [eTm]; exact hd'.c (nd' := [1]) 2 (by simp) rfl) hK'
  · refine wp_load hs (by rw [eTm]; exact hd'.c (nd' := [2]) 3 (by simp) rfl) ?_ hK';exact hf'.cell (hz o _ hzo) (.cons (.inl (by simp only; omega)) .nil)
  · refine wp_loadFlat hT (b := xb) (o := 0) (cs := cx) (by rw [hrt.length]; rfl) (by rw [eTm, hk'.get xv (by omega), gx]) (hf'.range hrx (.cons (.inl (by simp only; omega)) .nil)) hK'
  · have hsz' := hf'.size;refine wp_calls (R := fun v w2 => ∃ (cs : List Value) (y : List V), v = .agg cs.toArray ∧ R x y ∧ Fr [] w' w2 ∧ cs.length = Ty.sizes etys ∧ Reps w2 (fun b => B b ∨ From w'.heap.size w2 b) etys cs y) hmk.enters (vs := #[.agg cx.toArray])
      (by simp only [List.map_toArray, List.map_cons, List.map_nil, eTm]; rw [hd'.c (nd' := []) (x := .agg cx.toArray) 5 (by simp) rfl])
      ((hmk.call w' B cx x (hrt.kept hf' (by intro r hr hA; simp at hr; subst hr; have := hBg _ hA; simp only at this; omega) (fun _ h => h)) (fun b hb => by have := hBg b hb; omega)).mono (by rintro e' w2 ⟨cs, ys, rfl, h1, h2, h3, h4⟩; exact ⟨_, rfl, cs, ys, rfl, h1, h2, h3, h4⟩)) ?_
    rintro _ w2 ⟨cs, y, rfl, h1, h2, h3, h4⟩;have hs2 := h2.size;exact hK' _ w2 ⟨cs, y, rfl, h1, by omega, h4.kept (Fr.refl [] w2) (by simp) (by rintro b (hb | hb); exact .inl hb; exact .inr ⟨by have := hb.1; omega, hb.2⟩)⟩ h2
  · obtain ⟨cs, y, h0, h1, h2, h3⟩ := hd'.at (d := 6) (by simp) rfl;have hsz' := hf'.size;refine wp_slice1 (cs := cs) hS hz0 hzs hs0 (by rw [eTm, h0]; rfl) h2 fun _ => ?_;have fb := Fr.alloc [] w' (.cells cs.toArray TX);have rb : (w'.alloc (.cells cs.toArray TX)).rangeAt w'.heap.size 0 cs := by have := range_new w' cs.toArray TX (0, 0); simpa using this
    exact hK' _ _ ⟨w'.heap.size, cs, y, rfl, by omega, rb, h1, h2, h3.kept fb (by simp) (fun b hb => hb.mono fb.size)⟩ fb
  · obtain ⟨b', cs, y, h0, h1, h2, h3, h4, h5⟩ := hd'.at (d := 7) (by simp) rfl;have hthg : w'.there g (0 + j * sz) cs.length := there_part (hf'.there htg) (by omega) (by omega);refine wp_appendRoom (b := g) (o := 0) (n := j) (cap := cap) (news := cs) hS (by rw [eTm]; exact hd'.c (nd' := [3]) 4 (by simp) rfl) (by rw [eTm]; exact h0) (by omega) h2 (hones _ _ _ _ h5) (by omega) hthg ?_;have fs := Fr.sets g cs w' (0 + j * sz);have rs := World.rangeAt_setCells_same w' g (0 + j * sz) cs hthg;rw [Nat.zero_add] at fs rs ⊢;refine hK' _ _ ⟨rfl, cs, y, h3, h4, h5.kept fs (by intro r hr hA; simp at hr; subst hr; exact hA.self hBg) (fun b hb => hb.mono fs.size), rs⟩ (fs.mono ?_);intro r hr; simp at hr; subst hr;exact .inr ⟨_, List.mem_singleton.2 rfl, rfl, by simp, by simp only; omega⟩
  intro a5 w5 k5 f5 hd5;obtain ⟨h0, cs, y, h1, h2, h3, h4⟩ := hd5.at (d := 8) (by simp) rfl;have h0' : get a5 (n + 8) = .slice (some ⟨g, 0, none⟩) (j + 1) cap := h0;have hN5 : a5.tmps.size = N := k5.size.trans hN;have sz5 := f5.size;refine wC (wNc (q := ⟨pb, 0, none⟩) (by rw [eTm]; exact hd5.c (nd' := []) 0 (by simp) rfl) ?_);refine wC (wFa (b := pb) (i := 0) hF (by rw [eTm, gQ]) ?_);refine wC (wp_store hs (b := pb) (o := 0 + o) (v := .slice (some ⟨g, 0, none⟩) (j + 1) cap) (by rw [eTm, gQ]) (by rw [eTm, gR, gR, h0']) rfl (there_part (f5.there hth) (by omega) (by omega)) ?_);rw [pNo, wNi];have f6 := Fr.set w5 pb (0 + o) (.slice (some ⟨g, 0, none⟩) (j + 1) cap);have rg := range_setAt (v := .slice (some ⟨g, 0, none⟩) (j + 1) cap) (f5.range hz (.cons (.inl (by simp only; omega)) .nil)) (f5.there hth) hoz;generalize w5.setCell ⟨pb, 0 + o, none⟩ (.slice (some ⟨g, 0, none⟩) (j + 1) cap) = w6 at f6 rg ⊢;refine hK _ w6 cs (.l y) ((k5.put (by omega) _).put (by omega) _) ⟨y, rfl, h1⟩ h2 ⟨y, rfl, h3.kept f6 ?_ (fun b hb => hb.mono f6.size)⟩ (f6.range h4 (.cons (.inl (by simp only; omega)) .nil)) rg ?_
  · intro r hr hA; simp at hr; subst hr
    rcases hA with hA | hA
    · have := hbp _ hA; simp only at this; omega
    simp only at hA; omega
  refine Fr.trans (f5.mono ?_) f6 ?_
  · intro r hr; simp at hr; subst hr;exact .inr ⟨_, List.mem_cons_self, rfl, Nat.le_refl _, Nat.le_refl _⟩
  intro r hr; simp at hr; subst hr;exact .inr ⟨⟨pb, o, o + 1⟩, by simp, rfl, by simp, by simp⟩
theorem fr_list {P : Program} {N sv sb se n m4 n5 q xv i j o sz b0 b1 i3 i5 i6 i7 i9 bs : Nat} {TT TG TI TI2 TI3 TI4 TBo : TypeId} {fat : FuncId} {ats1 ats2 : Array TypeId} {c4 c8 : Code} {ety : Ty} {tys : List Ty} {R : T → V → Prop}
    {t0 t1 t2 t3 t4 t5 t6 t7 t8 t9 t10 t11 t12 t13 t14 t15 : TypeId} {p0 p1 p2 p3 p4 p5 p6 p7 p8 p9 p10 p11 p12 p13 p14 p15 : String} {e0 e1 e2 e3 e4 e5 e6 e7 e8 e9 e10 e11 e12 e13 e14 e15 : Array Edge}
    (h4 : RoomR P N sv sb m4 i o sz c4) (h8 : AddR P N sv xv (n5 + 8) o sz ety R c8) (hT : Flat P TT zT) (hAt : AtM P fat) (hb2 : fldBo P TT 2 = true) (hb2o : fieldOf P TT 2 2 = true) (h3 : fldSl P TT 3 = true) (h3o : fieldOf P TT 3 3 = true) (hsG : slTy P TG = true) (hTG : sliceOf P TG TT 5 bs = true)
    (ho : o = Ty.sizes (tys.take j)) (hj : tys[j]? = some (.arr ety)) (hsz : sz = ety.size)
    (hb : (decide (se < n) && decide (sv < n) && decide (sb < n) && decide (xv < n) && decide (n + 3 < m4) && decide (m4 ≤ n5) && decide (n5 + 8 ≤ q) && decide (q < N) && decide (sv ≠ xv) && decide (sb ≠ xv) && decide (se ≠ xv)) = true) :
    FRun P N sv sb se (.seq (Code.region i3 ⟨[oL n TT sb t0 p0 e0, oC (n + 1) fat #[.tmp n, .const (.int .i64 i)] ats1 t1 p1 e1, ⟨some (n + 2), .field TT (.tmp (n + 1)) 2, t2, p2, e2, none⟩, ⟨some (n + 3), .unOp .not TBo (.tmp (n + 2)), t3, p3, e3, none⟩]⟩ false) (.cond (.tmp (n + 3)) (.seq c4 (.seq (Code.region i5 ⟨[oL n5 TT sb t4 p4 e4, oC (n5 + 1) fat #[.tmp n5, .const (.int .i64 i)] ats2 t5 p5 e5, ⟨some (n5 + 2), .field TT (.tmp (n5 + 1)) 3, t6, p6, e6, none⟩, ⟨some (n5 + 3), .call ⟨.builtin .len, #[.tmp (n5 + 2)], #[TG]⟩, t7, p7, e7, none⟩, ⟨some (n5 + 4), .move (.const (.int .i64 0)), t8, p8, e8, none⟩]⟩ false) (.block b0 (.loop (.seq (Code.region i6 ⟨[⟨some (n5 + 5), .binOp .lss TI (.tmp (n5 + 4)) (.tmp (n5 + 3)) TI2, t9, p9, e9, none⟩]⟩ false) (.seq (.cond (.tmp (n5 + 5)) .skip (.exit b0)) (.seq (.block b1
          (.seq (Code.region i7 ⟨[⟨some (n5 + 6), .indexAddr TG (.tmp (n5 + 2)) (.tmp (n5 + 4)), t10, p10, e10, none⟩, oL (n5 + 7) TT (n5 + 6) t11 p11 e11, ⟨some xv, .alloc TT, t12, p12, e12, none⟩, oS TT xv (n5 + 7) t13 p13 e13]⟩ false) c8))
          (Code.region i9 ⟨[⟨some q, .binOp .add TI3 (.tmp (n5 + 4)) (.const (.int .i64 1)) TI4, t14, p14, e14, none⟩, oM (n5 + 4) q t15 p15 e15]⟩ false)))))))) .skip)) tys
      (fun t xs ys => ((atT t.l i).nl = true ∧ ys = xs) ∨ ((atT t.l i).nl = false ∧ ∃ es, LsR R (atT t.l i).l es ∧ ys = xs.set j (.l es))) := by
  intro ev pb tb B ct t K Q a w xs st hK;simp only [Bool.and_eq_true, decide_eq_true_eq] at hb;obtain ⟨⟨⟨⟨⟨⟨⟨⟨⟨⟨c0, c1⟩, c2⟩, c3⟩, d4⟩, c5⟩, c6⟩, c7⟩, d8⟩, c9⟩, c10⟩ := hb;have hN := st.sz;obtain ⟨z, hz, hth, hrep⟩ := st.cs;have hlt := hrep.setLt hj rfl;have hzl : z.length = Ty.sizes tys := hrep.length;have hpw : pb < w.heap.size := there_lt hth (by omega);have hptb := st.pt;subst ho;subst hsz;generalize hxx : atT t.l i = x at *;refine wS fun K1 hK1 => ?_;refine wC (wp_loadFlat hT (by rw [st.rt.length]; rfl) (by rw [eTm, st.gb]) st.tr ?_);rw [wCo];refine wp_calls (R := fun v w' => ∃ cs : List Value, v = .agg cs.toArray ∧ Fr [] w w' ∧ RepT w' B cs x) hAt.enters (vs := #[.agg ct.toArray, .int .i64 i])
    (by simp only [List.map_toArray, List.map_cons, List.map_nil, eTm, eCo]; rw [gQ])
    ((hAt.call w B ct t i st.rt).mono (by rintro e' w' ⟨cs, rfl, h1, h2⟩; exact ⟨_, rfl, cs, rfl, h1, by rw [← hxx]; exact h2 (fun b hb => by have := st.bp b hb; omega)⟩)) ?_
  rintro _ w1 ⟨cs, rfl, f1, hcs⟩;have sz1 := f1.size;refine wC (wp_fieldB hb2 hb2o (cs := cs) (by rw [eTm, gQ]) (repT_nl hcs) ?_);refine wC (wp_not (b := x.nl) (by rw [eTm, gQ]) ?_);rw [wNi];have k1 : Kept n a ((((a.put (some n) (.agg ct.toArray)).put (some (n + 1)) (.agg cs.toArray)).put (some (n + 2)) (.bool x.nl)).put (some (n + 3)) (.bool !x.nl)) := (((Kept.put0 (Nat.le_refl _) _).put (by omega) _).put (by omega) _).put (by omega) _;have g1 : get ((((a.put (some n) (.agg ct.toArray)).put (some (n + 1)) (.agg cs.toArray)).put (some (n + 2)) (.bool x.nl)).put (some (n + 3)) (.bool !x.nl)) (n + 3) = .bool !x.nl := gQ;generalize ((((a.put (some n) (.agg ct.toArray)).put (some (n + 1)) (.agg cs.toArray)).put (some (n + 2)) (.bool x.nl)).put (some (n + 3)) (.bool !x.nl)) = a1 at k1 g1 ⊢;refine hK1 a1 w1 ?_;have hN1 : a1.tmps.size = N := k1.size.trans hN;have hrt1 : RepT w1 B ct t := st.rt.kept f1 (by simp) (fun _ h => h);have gv1 := (k1.get sv c1).trans st.gv;have gb1 := (k1.get sb c2).trans st.gb;have ge1 := (k1.get se c0).trans st.ge;refine wp_cond_split (t := !x.nl) (by rw [eTm, g1]) (fun hn => ?_) fun hn => wp_skip (hK a1 w1 xs (.inl ⟨by rw [hxx]; simpa using hn, rfl⟩) ⟨hN1, k1.defers.trans st.df, gv1, gb1, ge1, f1.range st.tr .nil, hrt1, hptb, st.bp, z, f1.range hz .nil, f1.there hth, hrep.kept f1 (by simp) (fun b hb => hb.mono f1.size)⟩ f1.nil);have hnl : x.nl = false := by simpa using hn
  refine wp_seq_k fun K2 hK2 => ?_;refine h4 pb tb B ct t z K2 _ a1 w1 hN1 gv1 gb1 (f1.range st.tr .nil) hrt1 st.bp (by omega) (f1.range hz .nil) (f1.there hth) hlt fun a2 w2 g k2 hg0 hg1 htg hr2 f2 => hK2 a2 w2 ?_;rw [hxx] at htg hr2;have sz2 := f2.size;have hN2 : a2.tmps.size = N := k2.size.trans hN1;have f02 : Fr [⟨pb, 0, Ty.sizes tys⟩] w w2 := by
    refine f1.nil.trans f2 ?_;intro r hr; simp at hr; subst hr;exact .inr ⟨_, List.mem_singleton.2 rfl, rfl, by simp, by simp only; omega⟩
  have hrt2 : RepT w2 B ct t := st.rt.kept f02 (by intro r hr hA; simp at hr; subst hr; have := st.bp _ hA; simp only at this; omega) (fun _ h => h);have htr2 : w2.rangeAt tb 0 ct := f02.range st.tr (.cons (.inl (by simp only; omega)) .nil)
  -- what is gone through
  refine wS fun K3 hK3 => ?_;refine wC (wp_loadFlat hT (by rw [hrt2.length]; rfl) (by rw [eTm, k2.get sb (by omega), gb1]) htr2 ?_);rw [wCo];refine wp_calls (R := fun v w' => ∃ cs : List Value, v = .agg cs.toArray ∧ Fr [] w2 w' ∧ RepT w' B cs x) hAt.enters (vs := #[.agg ct.toArray, .int .i64 i])
    (by simp only [List.map_toArray, List.map_cons, List.map_nil, eTm, eCo]; rw [gQ])
    ((hAt.call w2 B ct t i hrt2).mono (by rintro e' w' ⟨cs, rfl, h1, h2⟩; exact ⟨_, rfl, cs, rfl, h1, by rw [← hxx]; exact h2 (fun b hb => by have := st.bp b hb; omega)⟩)) ?_
  rintro _ w3 ⟨cs3, rfl, f3, hcs3⟩;have sz3 := f3.size;obtain ⟨lv, hlv, hthg⟩ := repT_l hcs3;obtain ⟨lq, lcap, rfl, hll⟩ := hthg.slice3;refine wC (wp_fieldS h3 h3o (cs := cs3) (by rw [eTm, gQ]) hlv ?_);refine wC (wp_lenS hsG (q := lq) (n := x.l.length) (cap := lcap) (by rw [eTm, gQ]) ?_);refine wC (wMv (v := .int .i64 0) (eCo _ _) ?_);rw [wNi];generalize ha3 : (((((a2.put (some n5) (.agg ct.toArray)).put (some (n5 + 1)) (.agg cs3.toArray)).put (some (n5 + 2)) (.slice lq x.l.length lcap)).put (some (n5 + 3)) (.int .i64 x.l.length)).put (some (n5 + 4)) (.int .i64 0)) = a3;have k3 : Kept m4 a2 a3 := by subst ha3; exact ((((Kept.put0 (by omega) _).put (by omega) _).put (by omega) _).put (by omega) _).put (by omega) _
  have gl3 : get a3 (n5 + 2) = .slice lq x.l.length lcap := by subst ha3; rw [gR, gR, gQ]
  have gn3 : get a3 (n5 + 3) = .int .i64 x.l.length := by subst ha3; rw [gR, gQ]
  have gi3 : get a3 (n5 + 4) = .int .i64 0 := by subst ha3; exact gQ
  refine hK3 a3 w3 ?_;have k03 : Kept n a a3 := k1.trans ((k2.trans k3).mono (by omega));have f03 : Fr [⟨pb, 0, Ty.sizes tys⟩] w w3 := f02.tr f3.nil;refine wp_block (wp_loop_ghost (fun r a' w' => ∃ (jj : Nat) (es : List V), jj + r = x.l.length ∧ a'.tmps.size = N ∧ a'.defers = [] ∧ get a' sv = .pointer (some ⟨pb, 0, none⟩) ∧ get a' sb = .pointer (some ⟨tb, 0, none⟩) ∧ get a' se = ev ∧
      get a' (n5 + 2) = .slice lq x.l.length lcap ∧ get a' (n5 + 3) = .int .i64 x.l.length ∧ get a' (n5 + 4) = .int .i64 jj ∧ LsR R (x.l.take jj) es ∧ (∀ k y, es[k]? = some y → ∃ ec, w'.rangeAt g (k * ety.size) ec ∧ ec.length = ety.size ∧ Rep w' (Rch B g w') ety ec y) ∧
      w'.rangeAt pb 0 (z.set (Ty.sizes (tys.take j)) (.slice (some ⟨g, 0, none⟩) jj x.l.length)) ∧ w'.there g 0 (x.l.length * ety.size) ∧ Fr [⟨pb, 0, Ty.sizes tys⟩] w w' ∧ Fr [⟨pb, 0, Ty.sizes tys⟩, ⟨g, 0, x.l.length * ety.size⟩] w3 w') x.l.length ?_ ?_)
  · exact ⟨0, [], by omega, k03.size.trans hN, k03.defers.trans st.df, (k03.get sv c1).trans st.gv, (k03.get sb c2).trans st.gb, (k03.get se c0).trans st.ge, gl3, gn3, gi3, .nil, (fun k y h => by simp at h), f3.range hr2 .nil, f3.there htg, f03, Fr.refl _ _⟩
  rintro r a4 w4 ⟨jj, es, hjr, hN4, hd4, gv4, gb4, ge4, gl4, gn4, gi4, hls, hel, hr4, htg4, f04, f34⟩;have sz04 := f04.size;have sz34 := f34.size;refine wS fun K4 hK4 => ?_;refine wC (wp_lss (k1 := .i64) (i := jj) (j := x.l.length) (by rw [eTm, gi4]) (by rw [eTm, gn4]) ?_);rw [wNi];have k5 : Kept (n5 + 5) a4 (a4.put (some (n5 + 5)) (.bool (decide ((jj : Int) < x.l.length)))) := Kept.put0 (Nat.le_refl _) _;have g5 : get (a4.put (some (n5 + 5)) (.bool (decide ((jj : Int) < x.l.length)))) (n5 + 5) = .bool (decide ((jj : Int) < x.l.length)) := gQ;generalize a4.put (some (n5 + 5)) (.bool (decide ((jj : Int) < x.l.length))) = a5 at k5 g5 ⊢;have hN5 : a5.tmps.size = N := k5.size.trans hN4;refine hK4 a5 w4 ?_;refine wp_seq_k fun K5 hK5 => ?_;refine wp_cond_split (t := decide ((jj : Int) < x.l.length)) (by rw [eTm, g5]) ?_ ?_
  · intro hlt0;have hjl : jj < x.l.length := by simpa using hlt0
    refine wp_skip (hK5 a5 w4 ?_);refine wp_seq_k fun K6 hK6 => ?_;refine wp_blockT ?_;have hthw : Things w4 B (.slice lq x.l.length lcap) x.l := hthg.kept f34 (by intro r hr hA; simp at hr; have := st.bp _ hA; rcases hr with rfl | rfl <;> simp only at this <;> omega) (fun _ h => h);have hne : x.l ≠ [] := fun h0 => by rw [h0] at hjl; simp at hjl
    obtain ⟨y0, hy0⟩ : ∃ p, x.l[jj]? = some p := ⟨_, List.getElem?_eq_getElem hjl⟩
    rcases hthw with ⟨_, h0⟩ | ⟨b, bo, cap, hbB, hbv, _, ef, hef1, hef2⟩
    · exact absurd h0 hne
    simp only [Value.slice.injEq] at hbv;obtain ⟨rfl, _, rfl⟩ := hbv;have hex := hef1 jj y0 hy0;have hrt4 := hef2 jj y0 hy0;refine wS fun K7 hK7 => ?_;refine wC (wp_ixN hTG (i := jj) (by rw [eTm, k5.get _ (by omega), gl4]) (by rw [eTm, k5.get _ (by omega), gi4]) hjl ?_);refine wC (wp_loadFlat hT (b := b) (o := bo + jj * 5) (cs := ef jj) (by rw [hrt4.length]; rfl) (by rw [eTm, gQ]) hex ?_);refine wC (wp_alloc hT.zero ?_);have fa := Fr.alloc [] w4 (.cells (Value.agg zT.toArray).cells TT);have tha : (w4.alloc (.cells (Value.agg zT.toArray).cells TT)).there w4.heap.size 0 5 := there_new w4 zT.toArray TT;have sza := size_alloc w4 (.cells (Value.agg zT.toArray).cells TT);generalize w4.alloc (.cells (Value.agg zT.toArray).cells TT) = w6 at fa tha sza ⊢;rw [wCo];have hln := hrt4.length;refine wp_storeFlat hT (cs := ef jj) (b := w4.heap.size) (o := 0) (by rw [hln]; rfl) (by rw [eTm, gQ]) (by rw [eTm, gR, gQ]) hrt4.ones (by rw [hln]; exact tha) ?_;rw [pNo, wNi];have fs := Fr.sets w4.heap.size (ef jj) w6 0;have rbx := World.rangeAt_setCells_same w6 w4.heap.size 0 (ef jj) (by rw [hln]; exact tha);generalize w6.setCells w4.heap.size 0 (ef jj) = w7 at fs rbx ⊢;have f47 : Fr [] w4 w7 := fa.trans fs (by intro r hr; simp at hr; subst hr; exact .inl (Nat.le_refl _));have sz7 := f47.size;have szs := fs.size;generalize ha7 : (((a5.put (some (n5 + 6)) (.pointer (some ⟨b, bo + jj * 5, none⟩))).put (some (n5 + 7)) (.agg (ef jj).toArray)).put (some xv) (.pointer (some ⟨w4.heap.size, 0, none⟩))) = a7;have kq7 : ∀ s, s < n5 + 5 → s ≠ xv → get a7 s = get a4 s := by
      subst ha7;intro s h1 h2;rw [gPn h2.symm, gR, gR, k5.get s h1]
    have gt7 : get a7 xv = .pointer (some ⟨w4.heap.size, 0, none⟩) := by subst ha7; exact gQ
    have hN7 : a7.tmps.size = N := by subst ha7; simp only [sPu]; exact hN5
    have hd7 : a7.defers = [] := by subst ha7; simp only [dPu]; exact k5.defers.trans hd4
    refine hK7 a7 w7 ?_;have hzs : (z.set (Ty.sizes (tys.take j)) (.slice (some ⟨g, 0, none⟩) jj x.l.length))[Ty.sizes (tys.take j)]? = some (.slice (some ⟨g, 0, none⟩) jj x.l.length) := List.getElem?_set_self hlt;refine h8 pb w4.heap.size g jj x.l.length B (ef jj) y0 _ K6 _ a7 w7 hN7 (by rw [kq7 sv (by omega) d8, gv4]) gt7 rbx (hrt4.kept f47 (by simp) (fun _ h => h)) st.bp (by omega) (by omega) (by omega) (f47.range hr4 .nil) (by rw [List.length_set]; exact f47.there (f04.there hth)) hzs hjl (f47.there htg4) fun a8 w8 ec y k8 hRy hecl hrec hrg8 hrp8 f8 => hK6 a8 w8 ?_;have sz8 := f8.size;rw [List.set_set] at hrp8;have hmul : (jj + 1) * ety.size ≤ x.l.length * ety.size := Nat.mul_le_mul_right _ (by omega);rw [Nat.add_mul, Nat.one_mul] at hmul;have hN8 : a8.tmps.size = N := k8.size.trans hN7;refine wp_reg ?_;refine wC (wp_add (k1 := .i64) (i := jj) (j := 1) (by rw [eTm, k8.get _ (by omega), kq7 _ (by omega) (by omega), gi4]) rfl ?_);rw [wCo, wMw, eTm, gQ, wNi];have hwr : IntKind.i64.wrap ((jj : Int) + 1) = ((jj + 1 : Nat) : Int) := by
      simp [IntKind.wrap, IntKind.bits, IntKind.signed]; omega
    rw [hwr];have kf : ∀ s, s < n5 + 5 → s ≠ xv → s ≠ n5 + 4 → get ((a8.put (some q) (.int .i64 ((jj + 1 : Nat) : Int))).put (some (n5 + 4)) (.int .i64 ((jj + 1 : Nat) : Int))) s = get a4 s := by
      intro s h1 h2 h3;rw [gPn h3.symm, gR, k8.get s (by omega), kq7 s h1 h2]
    have f48 : Fr [⟨g, jj * ety.size, x.l.length * ety.size⟩, ⟨pb, Ty.sizes (tys.take j), Ty.sizes (tys.take j) + 1⟩] w4 w8 := (f47.nil).tr f8;have f08 : Fr [⟨pb, 0, Ty.sizes tys⟩] w w8 := by
      refine f04.trans f48 ?_;intro r hr; simp at hr
      rcases hr with rfl | rfl
      · exact .inl (by simp only; omega)
      exact .inr ⟨_, List.mem_singleton.2 rfl, rfl, by simp, by simp only; omega⟩
    have f38 : Fr [⟨pb, 0, Ty.sizes tys⟩, ⟨g, 0, x.l.length * ety.size⟩] w3 w8 := by
      refine f34.trans f48 ?_;intro r hr; simp at hr
      rcases hr with rfl | rfl
      · exact .inr ⟨⟨g, 0, x.l.length * ety.size⟩, by simp, rfl, by simp, by simp⟩
      exact .inr ⟨⟨pb, 0, Ty.sizes tys⟩, by simp, rfl, by simp, by simp only; omega⟩
    refine ⟨r - 1, by omega, jj + 1, es ++ [y], by omega, by simp only [sPu]; exact hN8, by simp only [dPu]; exact k8.defers.trans hd7, by rw [kf sv (by omega) d8 (by omega)]; exact gv4, by rw [kf sb (by omega) c9 (by omega)]; exact gb4, by rw [kf se (by omega) c10 (by omega)]; exact ge4, by rw [kf _ (by omega) (by omega) (by omega)]; exact gl4, by rw [kf _ (by omega) (by omega) (by omega)]; exact gn4, gQ, ?_, ?_, hrp8, f48.there htg4, f08, f38⟩
    · rw [List.take_add_one, hy0];exact .snoc hls hRy
    intro k y' hk;have hel8 : es.length = jj := by rw [hls.len, List.length_take]; omega
    rcases Nat.lt_or_ge k es.length with hkl | hkl
    · rw [List.getElem?_append_left hkl] at hk;obtain ⟨ec', h1, h2, h3⟩ := hel k y' hk;have hk1 : (k + 1) * ety.size ≤ jj * ety.size := Nat.mul_le_mul_right _ (by omega);rw [Nat.add_mul, Nat.one_mul] at hk1;refine ⟨ec', f48.range h1 (.cons (.inr (.inl (by simp only; omega))) (.cons (.inl (by simp only; omega)) .nil)), h2, h3.kept f48 ?_ (fun b hb => hb.mono f48.size)⟩;intro r hr hA; simp at hr
      rcases hr with rfl | rfl
      · exact hA.self (fun b hb => by have := st.bp b hb; omega)
      rcases hA with hA | hA
      · have := st.bp _ hA; simp only at this; omega
      simp only at hA; omega
    rw [List.getElem?_append_right hkl] at hk;obtain rfl : k = es.length := by
      have := (List.getElem?_eq_some_iff.1 hk).1;simp at this; omega
    simp at hk
    subst hk;rw [hel8];exact ⟨ec, hrg8, hecl, hrec⟩
  intro hge;have hjl : jj = x.l.length := by
    have : ¬ ((jj : Int) < x.l.length) := by simpa using hge
    omega
  refine wp_exit ?_;show Exit.inBlock b0 (Exit.then K Q) (.exit b0) a5 w4
  simp only [Exit.inBlock, if_true];rw [hjl, List.take_length] at hls;have hel8 : es.length = x.l.length := hls.len;have hr1 : Reps w4 (Rch B pb w4) tys z xs := hrep.kept f04 (by intro r hr hA; simp at hr; subst hr; exact hA.self st.bp) (fun b hb => hb.mono (by omega));have hvr : Rep w4 (Rch B pb w4) (.arr ety) [.slice (some ⟨g, 0, none⟩) jj x.l.length] (.l es) := by
    refine .inr ⟨g, 0, x.l.length, es, .inr ⟨by omega, by omega⟩, by rw [hel8, hjl], ⟨by omega, by omega⟩, rfl, fun k y hk => ?_⟩;obtain ⟨ec, h1, h2, h3⟩ := hel k y hk;exact ⟨ec, by rw [Nat.zero_add]; exact h1, h2, h3.kept (Fr.refl [] w4) (by simp) (by rintro b (hb | hb); exact .inl hb; exact .inr ⟨by omega, hb.2⟩)⟩
  refine hK a5 w4 _ (.inr ⟨by rw [hxx]; exact hnl, es, by rw [hxx]; exact hls, rfl⟩) ⟨hN5, k5.defers.trans hd4, (k5.get sv (by omega)).trans gv4, (k5.get sb (by omega)).trans gb4, (k5.get se (by omega)).trans ge4, f04.range st.tr (.cons (.inl (by simp only; omega)) .nil), st.rt.kept f04 (by intro r hr hA; simp at hr; subst hr; have := st.bp _ hA; simp only at this; omega) (fun _ h => h), hptb, st.bp, _, hr4, by rw [List.length_set]; exact f04.there hth, hr1.set hj rfl hvr⟩ f04
end Go.Kq

namespace Go.Kq
open Go
theorem fitN_str {k : Nat} {fr to nul tag df of : Int} {sub : List Fd} {ver : Int} {t : T} : (fitN k (.mk 8 fr to nul tag df of sub) ver t).s = wholeS t.s := by
  cases k <;> simp [fitN, fitK, Fd.kind, T.s]
theorem fitN_num {k : Nat} {kind fr to nul tag df of : Int} {sub : List Fd} {ver : Int} {t : T} (h : kind ≠ 8 ∧ kind ≠ 9 ∧ kind ≠ 10 ∧ kind ≠ 11) : (fitN k (.mk kind fr to nul tag df of sub) ver t).n = t.n := by
  obtain ⟨h1, h2, h3, h4⟩ := h
  cases k <;> simp [fitN, fitK, Fd.kind, T.n, h1, h2, h3, h4]
theorem fw_i32 {fr to nul tag df of : Int} {sub : List Fd} {ver : Int} {t : T} {fl : Bool} : fieldW (.mk 3 fr to nul tag df of sub) ver fl t = apInt 4 (.n (IntKind.i32.wrap t.n)) := by
  rw [fieldW_eq, show Fd.kind (.mk 3 fr to nul tag df of sub) = 3 from rfl, fieldV_i32]; simp only [apInt, fixedW_w32]
theorem fitN_pstr {k : Nat} {fr to nul tag df of : Int} {sub : List Fd} {ver : Int} {t : T} : fitN k (.mk 8 fr to nul tag df of sub) ver t = .mk 0 (wholeS t.s) (nullW nul ver t) [] [] := by
  cases k <;> simp [fitN, fitK, Fd.kind, Fd.nul]
theorem fw_pstr {fr to nul tag df of : Int} {sub : List Fd} {ver : Int} {t : T} {fl : Bool} {k : Nat} : fieldW (.mk 8 fr to nul tag df of sub) ver fl t = (fun x => if fl then apCNStr x else apNStr x) (if (fitN k (.mk 8 fr to nul tag df of sub) ver t).nl then V.nil else V.s (fitN k (.mk 8 fr to nul tag df of sub) ver t).s) := by
  rw [fitN_pstr, fieldW_eq, show Fd.kind (.mk 8 fr to nul tag df of sub) = 8 from rfl]
  cases h : nullW nul ver t with
  | true => rw [fieldV_str0 (show nullW (Fd.nul (.mk 8 fr to nul tag df of sub)) ver t = true from h)]; cases fl <;> simp [T.nl, apCNStr, apNStr, uvW]
  | false => rw [fieldV_str (show nullW (Fd.nul (.mk 8 fr to nul tag df of sub)) ver t = false from h)]; cases fl <;> simp [T.nl, T.s, apCNStr, apNStr, apCStr, apStr, V.octs]
theorem tgr_kv {u : List (Nat × List UInt8)} {x : V} (h : TgR u x) (hp : u.Pairwise fun a b => a.1 < b.1) : (tagKv x).map (fun p => (p.1, p.2.octs)) = u := by
  induction h with
  | nil => rfl
  | @step us x k s y _ hy ih =>
    obtain ⟨h1, _, h3⟩ := List.pairwise_append.1 hp;have ih := ih h1;have hne : ∀ p ∈ tagKv x, p.1 ≠ k := by
      intro p hp' he;have hm : (p.1, p.2.octs) ∈ us := by rw [← ih]; exact List.mem_map.2 ⟨p, hp', rfl⟩
      have := h3 _ hm (k, s) (by simp);simp only at this; omega
    show (kvSet (tagKv x) k (.oct y)).map (fun p => (p.1, p.2.octs)) = _
    rw [kvSet_push hne, List.map_append, ih];simp only [List.map_cons, List.map_nil]
    congr 3
    rw [← hy]; cases y <;> rfl
theorem tagsT_tgr {u : List (Nat × List UInt8)} {x : V} (h : TgR u x) (hp : u.Pairwise fun a b => a.1 < b.1) : tagsT x = u := by
  have h1 := tgr_kv h hp;unfold tagsT;rw [sortKv_id, h1];rw [← h1] at hp;exact (List.pairwise_map.1 hp).imp fun h => h
end Go.Kq

namespace Go.Kq
open Go Go.Proofs
theorem pre_set {xs : List V} {j jt : Nat} {v y : V} (h : xs[jt]? = some v) (hj : j ≠ jt) : (xs.set j y)[jt]? = some v := by rw [List.getElem?_set_ne hj]; exact h
theorem pre_list {xs ys : List V} {j jt : Nat} {v : V} {p q : Prop} {R : List V → Prop} (h : xs[jt]? = some v) (hj : j ≠ jt) (hy : (p ∧ ys = xs) ∨ (q ∧ ∃ es, R es ∧ ys = xs.set j (.l es))) : ys[jt]? = some v := by
  rcases hy with ⟨_, rfl⟩ | ⟨_, es, _, rfl⟩
  · exact h
  exact pre_set h hj
theorem LsR.map {R : T → V → Prop} {f : T → T} {l' : List T} {es : List V} (h : LsR R l' es) : ∀ {l : List T}, l.map f = l' → LsR (fun t y => R (f t) y) l es := by
  induction h with
  | nil => intro l hl; rw [List.map_eq_nil_iff.1 hl]; exact .nil
  | @snoc l1 ys t y _ hr ih =>
    intro l hl;obtain ⟨a, b, rfl, h1, h2⟩ := List.map_eq_append_iff.1 hl;obtain ⟨x, rfl, rfl⟩ : ∃ x, b = [x] ∧ f x = t := by
      cases b with
      | nil => simp at h2
      | cons x b => simp at h2; exact ⟨x, by rw [h2.2], h2.1⟩
    exact .snoc (ih h1) hr
theorem LsR.flat {R : T → V → Prop} {g : V → List UInt8} {p : T → List UInt8} {l : List T} {es : List V} (h : LsR R l es) : (∀ t ∈ l, ∀ y, R t y → g y = p t) → (es.map g).flatten = l.flatMap p := by
  induction h with
  | nil => intro _; rfl
  | @snoc l1 ys t y _ hr ih =>
    intro hp;rw [List.map_append, List.flatten_append, List.flatMap_append, ih fun t' ht' => hp t' (by simp [ht'])];simp [hp t (by simp) y hr]
section
variable {ver : Int} {fl : Bool} {ts : List T} {i : Nat} {fr to nul tag df of : Int} {sub : List Fd} {t x : T} {k : Nat}
theorem fw_cons {f : Fd} {fs : List Fd} {g : V → List UInt8} {gs : List (V → List UInt8)} {y : V} {ys : List V} {tl : List UInt8} (h1 : g y = if f.has ver then fieldW f ver fl (atT ts i) else []) (h2 : apAll gs ys = bodyL fs ver fl ts (i + 1) ++ tl) : apAll (g :: gs) (y :: ys) = bodyL (f :: fs) ver fl ts i ++ tl := by
  show g y ++ apAll gs ys = _
  rw [h1, h2, bodyL, List.append_assoc]
theorem fw_end {u : List (Nat × List UInt8)} {y : V} (h : tagsT y = u) : apAll [fun x => if fl then apTags x else []] [y] = bodyL [] ver fl ts i ++ (if fl then uvW u.length ++ tagsW u else []) := by
  show (if fl then apTags y else []) ++ [] = _
  rw [List.append_nil]
  cases fl with
  | true => simp only [if_pos, apTags, h, bodyL, List.nil_append]
  | false => rfl
theorem fw_part {fs : List Fd} {gs : List (V → List UInt8)} {ys : List V} (hf : freeFs fs = true) (h : apAll gs ys = bodyL fs ver fl t.l 0 ++ (if fl then uvW (unksW fs t).length ++ tagsW (unksW fs t) else [])) : apSt gs (.l ys) = partW fs ver fl t := by
  rw [partW_flat (freeFs_tag hf)]; exact h
theorem fw_has {f : Fd} {o : List UInt8} (hh : f.has ver = true) (h : o = fieldW f ver fl t) : o = if f.has ver then fieldW f ver fl t else [] := by rw [if_pos hh]; exact h
theorem fw_gate {f : Fd} {p : Bool} {o : List UInt8} (hp : f.has ver = p) (h : o = fieldW f ver fl t) : (if p then o else []) = if f.has ver then fieldW f ver fl t else [] := by rw [hp, h]
theorem fit_at {fs : List Fd} {l : List T} {j : Nat} {f : Fd} (hl : l = fitL (fitN k) fs ver ts 0) (hf : fs[j]? = some f) : atT l j = fitN k f ver (atT ts j) := by
  unfold atT at *;rw [hl, fitL_at hf, Nat.zero_add]; rfl
theorem fwm_str (h : x = fitN k (.mk 8 fr to nul tag df of sub) ver t) (hn : nul < 0) : (if fl then apCStr (.s x.s) else apStr (.s x.s)) = fieldW (.mk 8 fr to nul tag df of sub) ver fl t := by
  rw [h, fitN_str, fieldW_eq, show Fd.kind (.mk 8 fr to nul tag df of sub) = 8 from rfl, fieldV_str (nullW_no (show Fd.nul (.mk 8 fr to nul tag df of sub) < 0 from hn))]
  cases fl <;> rfl
theorem fwm_pstr (h : x = fitN k (.mk 8 fr to nul tag df of sub) ver t) : (if fl then apCNStr (if x.nl then .nil else .s x.s) else apNStr (if x.nl then .nil else .s x.s)) = fieldW (.mk 8 fr to nul tag df of sub) ver fl t := by
  rw [h]; exact fw_pstr.symm
theorem fwm_i8 (h : x = fitN k (.mk 1 fr to nul tag df of sub) ver t) : apInt 1 (.n (IntKind.i8.wrap x.n)) = fieldW (.mk 1 fr to nul tag df of sub) ver fl t := by
  rw [h, fitN_num (by decide), fieldW_eq, show Fd.kind (.mk 1 fr to nul tag df of sub) = 1 from rfl, fieldV_i8];have hw : (IntKind.i8.wrap t.n) % 256 = t.n % 256 := by simp only [IntKind.wrap, IntKind.bits, IntKind.signed]; simp; split <;> omega
  simp only [apInt, fixedW_b1, hw]
theorem fwm_i16 (h : x = fitN k (.mk 2 fr to nul tag df of sub) ver t) : apInt 2 (.n (IntKind.i16.wrap x.n)) = fieldW (.mk 2 fr to nul tag df of sub) ver fl t := by
  rw [h, fitN_num (by decide), fieldW_eq, show Fd.kind (.mk 2 fr to nul tag df of sub) = 2 from rfl, fieldV_i16]; simp only [apInt, fixedW_w16]
theorem fwm_i32 (h : x = fitN k (.mk 3 fr to nul tag df of sub) ver t) : apInt 4 (.n (IntKind.i32.wrap x.n)) = fieldW (.mk 3 fr to nul tag df of sub) ver fl t := by
  rw [h, fitN_num (by decide)]; exact fw_i32.symm
theorem fit_nl (h : x = fitN k (.mk 11 fr to nul tag df of sub) ver t) (hn : nul < 0) (ht : tag < 0) : x.nl = false := by
  rw [h]
  cases k <;> simp [fitN, fitK, Fd.kind, Fd.nul, Fd.tag, T.nl, nullW_no hn] <;> omega
theorem fieldV_list {s : T → List UInt8} {o : Int} (hn : nul < 0) : fieldV 11 nul o s ver fl t = countedW fl false (t.l.take 32767).length 4 ++ (t.l.take 32767).flatMap (valueW o s false fl) := by
  simp [fieldV, thingsW, nullW_no hn]
theorem fwm_list {g : V → List UInt8} {R : T → V → Prop} {es : List V} (h : x = fitN (k + 1) (.mk 11 fr to nul tag df of sub) ver t) (hn : nul < 0) (hes : LsR R x.l es) (hp : ∀ t0 ∈ t.l, ∀ y, R (fitK (fun ver t => .mk 0 [] false (fitL (fitN k) sub ver t.l 0) (unksW sub t)) (fun _ t => t) (oneF (.mk 11 fr to nul tag df of sub)) ver t0) y → g y = valueW of (partW sub ver fl) false fl t0) :
    ((if fl then apCLen (V.l es).items.length else apLen (V.l es).items.length) ++ ((V.l es).items.map g).flatten) = fieldW (.mk 11 fr to nul tag df of sub) ver fl t := by
  have hxl : x.l = (t.l.take 32767).map (fitK (fun ver t => .mk 0 [] false (fitL (fitN k) sub ver t.l 0) (unksW sub t)) (fun _ t => t) (oneF (.mk 11 fr to nul tag df of sub)) ver) := by
    rw [h]; simp [fitN, fitK, Fd.kind, Fd.sub, T.l]
  rw [hxl] at hes;have hes := hes.map rfl;have hlen : es.length = (t.l.take 32767).length := hes.len;rw [fieldW_eq, show Fd.kind (.mk 11 fr to nul tag df of sub) = 11 from rfl, show Fd.nul (.mk 11 fr to nul tag df of sub) = nul from rfl, show Fd.of (.mk 11 fr to nul tag df of sub) = of from rfl, show Fd.sub (.mk 11 fr to nul tag df of sub) = sub from rfl, fieldV_list hn,
    ← hes.flat (g := g) (fun t0 h0 y hy => hp t0 (List.mem_of_mem_take h0) y hy), ← hlen]
  show (if fl then apCLen es.length else apLen es.length) ++ (es.map g).flatten = _
  cases fl with
  | true => simp [countedW, apCLen]
  | false => simp [countedW, apLen]
theorem fwm_el {gs : List (V → List UInt8)} {R : T → List V → Prop} {t0 : T} {y : V} (hy : ∃ ys, y = .l ys ∧ R (fitK (fun ver t => .mk 0 [] false (fitL (fitN k) sub ver t.l 0) (unksW sub t)) (fun _ t => t) (oneF (.mk 11 fr to nul tag df 10 sub)) ver t0) ys)
    (hp : ∀ (x : T) ys, x.l = fitL (fitN k) sub ver t0.l 0 → x.us = unksW sub t0 → R x ys → apSt gs (.l ys) = partW sub ver fl t0) : apSt gs y = valueW 10 (partW sub ver fl) false fl t0 := by
  obtain ⟨ys, rfl, hr⟩ := hy;exact hp _ ys (by simp [fitK, oneF, Fd.kind, Fd.of, Fd.sub, T.l]) (by simp [fitK, oneF, Fd.kind, Fd.of, Fd.sub, T.us, T.u]) hr
end
end Go.Kq

namespace Go.Kq
open Go Go.Proofs
def stB (P : Program) (t : TypeId) (z : List Value) : Bool :=
  (match P.info? t with | some i => (i.size == z.length) && (match i.zero with | some (.agg c) => valsEq c.toList z | _ => false) | none => false) &&
  (match P.underlying t with | some d => d.isRow | none => false)
structure StT (P : Program) (t : TypeId) (z : List Value) : Prop where
  zero : zeroOf P t (.agg z.toArray)
  size : (P.info? t).map (·.size) = some z.length
  row : ∃ d, P.underlying t = some d ∧ d.isRow = true
theorem stB_is {P : Program} {t : TypeId} {z : List Value} (h : stB P t z = true) : StT P t z := by
  simp only [stB, Bool.and_eq_true] at h;obtain ⟨h1, h2⟩ := h;have h3 : zeroOf P t (.agg z.toArray) ∧ (P.info? t).map (·.size) = some z.length := by
    cases hi : P.info? t with
    | none => simp [hi] at h1
    | some i =>
      simp only [hi, Bool.and_eq_true, beq_iff_eq] at h1
      cases hz : i.zero with
      | none => simp [hz] at h1
      | some v =>
        simp only [hz] at h1;obtain ⟨h0, h1⟩ := h1
        cases v <;> simp only [] at h1 <;> first | (simp at h1; done) | skip
        rename_i c
        have := valsEq_eq h1;refine ⟨⟨i, hi, ?_⟩, by simp [h0]⟩;rw [hz, ← this]
  refine ⟨h3.1, h3.2, ?_⟩
  cases hu : P.underlying t with
  | none => simp [hu] at h2
  | some d => simp only [hu] at h2; exact ⟨d, rfl, h2⟩
section
variable {P : Program} {a : Act} {w : World} {K : Act → World → Prop} {Q : Exit → Act → World → Prop} {d : Option Tmp} {t : TypeId} {p : String} {af : Array Edge} {g : Option (Nat × Bool)}
theorem wp_loadSt {s : TypeId} {z : List Value} {x : Operand} {b o : Nat} {cs : List Value} (h : StT P s z) (hl : cs.length = z.length) (hx : a.eval x = .pointer (some ⟨b, o, none⟩)) (hc : w.rangeAt b o cs)
    (k : K (a.put d (.agg cs.toArray)) w) : OW P ⟨d, .load s x, t, p, af, g⟩ a w K Q := by
  obtain ⟨_, hs, e, hu, hr⟩ := h;exact ⟨wp_load_mid s x rfl b o hx cs _ hc hu hr (by rw [hs, hl]) k⟩
theorem wp_storeSt {s : TypeId} {z : List Value} {x y : Operand} {b o : Nat} {cs : List Value} (h : StT P s z) (hl : cs.length = z.length) (hx : a.eval x = .pointer (some ⟨b, o, none⟩)) (hy : a.eval y = .agg cs.toArray)
    (h1 : ∀ u ∈ cs, u.oneCell' = true) (ht : w.there b o cs.length) (k : K (a.put d undef) (w.setCells b o cs)) : OW P ⟨d, .store s x y, t, p, af, g⟩ a w K Q := by
  constructor
  refine wp_store_mid s x y rfl b o cs.toArray hx hy (by simpa using ht) (by rw [h.size, ← hl]; simp) (by simpa using h1) ?_
  simpa using k
end
theorem results_st {P : Program} {fn : Func} {t : Nat} {T : TypeId} {z : List Value} {a : Act} {w : World} {b o : Nat} {cs : List Value} (h : fn.results = #[.cell t T]) (hT : StT P T z) (hl : cs.length = z.length) (ha : get a t = .pointer (some ⟨b, o, none⟩)) (hc : w.rangeAt b o cs) :
    (results fn a.tmps).run P w = .ok (.agg cs.toArray) w := by
  obtain ⟨_, hs, e, hu, hr⟩ := hT;have hr := run_loadVar_mid (P := P) w b o T cs _ hc hu hr (by rw [hs, hl]);have ha' : a.tmps[t]?.getD undef = .pointer (some ⟨b, o, none⟩) := by rw [← Array.getD_eq_getD_getElem?]; exact ha
  simp only [results, h];simp [ha', asAddr, hr]
mutual
theorem rep_cells {w : World} {A : Nat → Prop} : ∀ {t : Ty} {cs : List Value} {x : V}, Rep w A t cs x → ∀ u ∈ cs, u.oneCell' = true
  | .int k, cs, x, h, u, hu => by obtain ⟨i, rfl, _⟩ := h; simp at hu; subst hu; rfl
  | .bool, cs, x, h, u, hu => by obtain ⟨i, rfl, _⟩ := h; simp at hu; subst hu; rfl
  | .f64, cs, x, h, u, hu => by obtain ⟨i, rfl, _⟩ := h; simp at hu; subst hu; rfl
  | .str, cs, x, h, u, hu => by obtain ⟨i, rfl, _⟩ := h; simp at hu; subst hu; rfl
  | .pstr, cs, x, h, u, hu => by rcases h with ⟨rfl, _⟩ | ⟨_, _, _, _, rfl, _⟩ <;> (simp at hu; subst hu; rfl)
  | .bytes, cs, x, h, u, hu => by
    obtain ⟨v, y, rfl, h, _⟩ := h;simp at hu; subst hu
    rcases h with ⟨rfl, _⟩ | ⟨_, _, _, _, _, rfl, _⟩ <;> rfl
  | .uuid, cs, x, h, u, hu => by obtain ⟨l, hl, rfl, _⟩ := h; exact octets_one l u hu
  | .tags, cs, x, h, u, hu => by rcases h with ⟨rfl, _⟩ | ⟨_, _, _, _, _, rfl, _⟩ <;> (simp at hu; subst hu; rfl)
  | .arr t, cs, x, h, u, hu => by rcases h with ⟨rfl, _⟩ | ⟨_, _, _, _, _, rfl, _⟩ <;> (simp at hu; subst hu; rfl)
  | .ptr t, cs, x, h, u, hu => by rcases h with ⟨rfl, _⟩ | ⟨_, _, _, _, rfl, _⟩ <;> (simp at hu; subst hu; rfl)
  | .st fs, cs, x, h, u, hu => by obtain ⟨xs, _, h⟩ := h; exact reps_cells h u hu
theorem reps_cells {w : World} {A : Nat → Prop} : ∀ {ts : List Ty} {cs : List Value} {xs : List V}, Reps w A ts cs xs → ∀ u ∈ cs, u.oneCell' = true
  | [], cs, xs, h, u, hu => by obtain ⟨rfl, _⟩ := h; simp at hu
  | t :: ts, cs, xs, h, u, hu => by
    obtain ⟨c1, c2, x, r, rfl, _, h1, h2⟩ := h
    rcases List.mem_append.1 hu with hu | hu
    · exact rep_cells h1 u hu
    exact reps_cells h2 u hu
end
theorem reps_setN {w : World} {A : Nat → Prop} : ∀ {tys : List Ty} {z : List Value} {xs : List V} {j : Nat} {ty : Ty} {cs : List Value} {y : V}, Reps w A tys z xs → tys[j]? = some ty → Rep w A ty cs y →
    Reps w A tys (z.take (Ty.sizes (tys.take j)) ++ (cs ++ z.drop (Ty.sizes (tys.take j) + ty.size))) (xs.set j y)
  | [], z, xs, j, ty, cs, y, _, hj, _ => by simp at hj
  | t :: ts, z, xs, j, ty, cs, y, h, hj, hr => by
    obtain ⟨c1, c2, x, r, rfl, rfl, h1, h2⟩ := h;have hl := h1.length
    cases j with
    | zero =>
      simp at hj; subst hj
      refine ⟨cs, c2, y, r, ?_, rfl, hr, h2⟩;simp [Ty.sizes, ← hl]
    | succ j =>
      have := reps_setN h2 (by simpa using hj) hr;refine ⟨c1, _, x, r.set j y, ?_, rfl, h1, this⟩;rw [List.take_succ_cons, show Ty.sizes (t :: ts.take j) = t.size + Ty.sizes (ts.take j) from rfl, ← hl, List.take_append, List.drop_append, List.take_of_length_le (by omega), List.drop_of_length_le (by omega)];simp only [List.append_assoc, List.nil_append]
      congr 2
      · congr 1; omega
      congr 2; omega
theorem range_setN {w : World} {b o : Nat} {z cs : List Value} (hr : w.rangeAt b 0 z) (ht : w.there b 0 z.length) (ho : o + cs.length ≤ z.length) : (w.setCells b (0 + o) cs).rangeAt b 0 (z.take o ++ (cs ++ z.drop (o + cs.length))) := by
  have fs := Fr.sets b cs w (0 + o);have rs := World.rangeAt_setCells_same w b (0 + o) cs (there_part ht (by omega) (by omega));have h1 := range_part hr 0 o;have h2 := range_part hr (o + cs.length) (z.length - (o + cs.length));simp only [List.drop_zero, Nat.zero_add] at h1;rw [List.take_of_length_le (by simp)] at h2;have hl : (z.take o).length = o := by rw [List.length_take]; omega
  rw [range_append, range_append, hl];refine ⟨fs.range h1 (.cons (.inr (.inl (by simp only [hl]; omega))) .nil), rs, fs.range ?_ (.cons (.inr (.inr (by simp only; omega))) .nil)⟩;rw [Nat.add_assoc]; exact h2
def MidOkR (P : Program) (N n r : Nat) (mid : List Oper) (ty : Ty) (G : T → V → Prop) : Prop :=
  ∀ (pb : Nat) (B : Nat → Prop) (Q : Exit → Act → World → Prop) (a : Act) (w : World) (cs : List Value) (x : T) (rest : List Oper), a.tmps.size = N → get a (n + 2) = .agg cs.toArray → RepT w B cs x → (∀ b, B b → b < pb) → pb < w.heap.size →
    (∀ a' w' ds y, Kept (n + 3) a a' → get a' r = .agg ds.toArray → ds.length = ty.size → Fr [] w w' → G x y → Rep w' (Rch B pb w') ty ds y → wpl P Q rest a' w') → wpl P Q (mid ++ rest) a w
theorem fr_genN {P : Program} {N sv sb se n r i j k q idr : Nat} {TT S TK : TypeId} {fat : FuncId} {mid : List Oper} {ty : Ty} {tys : List Ty} {G : T → V → Prop} {ats : Array TypeId} {o : Nat} {zk : List Value}
    {t1 t2 t4 t5 : TypeId} {p1 p2 p4 p5 : String} {e1 e2 e4 e5 : Array Edge}
    (hm : MidOkR P N n r mid ty G) (hu : unguarded mid = true) (hT : Flat P TT zT) (hAt : AtM P fat) (hF : fieldOf P S k o = true) (hK : StT P TK zk) (hzk : zk.length = ty.size) (hj : tys[j]? = some ty) (ho : o = Ty.sizes (tys.take j)) (hin : o + ty.size ≤ Ty.sizes tys) (hp : 0 < Ty.sizes tys) (hq : q = n + 3 + mid.length)
    (hb : (decide (se < n + 1) && decide (sv < n + 1) && decide (sb < n + 1) && decide (n + 2 < r + 1) && decide (r < q) && decide (q < N)) = true) :
    FRun P N sv sb se (Code.region idr ⟨[oL (n + 1) TT sb t1 p1 e1, oC (n + 2) fat #[.tmp (n + 1), .const (.int .i64 i)] ats t2 p2 e2] ++ (mid ++
      [oF q S sv k t4 p4 e4, oS TK q r t5 p5 e5])⟩ false) tys (fun t xs ys => ∃ y, G (atT t.l i) y ∧ ys = xs.set j y) := by
  intro ev pb tb B ct t K Q a w xs st hKK;simp only [Bool.and_eq_true, decide_eq_true_eq] at hb;obtain ⟨⟨⟨⟨⟨b2e, b1⟩, b2⟩, b3⟩, b4⟩, b5⟩ := hb;have hN := st.sz;obtain ⟨z, hz, hth, hrep⟩ := st.cs;have hzl : z.length = Ty.sizes tys := hrep.length;have hpw : pb < w.heap.size := there_lt hth (by omega);have hpw0 : pb ≠ tb := st.pt;refine wp_reg ?_ (unguarded_app rfl (unguarded_app hu rfl));show wpl P _ (_ :: _ :: (mid ++ _)) a w
  refine wC (wp_loadFlat hT (by rw [st.rt.length]; rfl) (by rw [eTm, st.gb]) st.tr ?_);rw [wCo];refine wp_calls (R := fun v w' => ∃ cs : List Value, v = .agg cs.toArray ∧ Fr [] w w' ∧ RepT w' B cs (atT t.l i)) hAt.enters (vs := #[.agg ct.toArray, .int .i64 i])
    (by simp only [List.map_toArray, List.map_cons, List.map_nil, eTm, eCo]; rw [gQ])
    ((hAt.call w B ct t i st.rt).mono (by rintro e' w' ⟨cs, rfl, h1, h2⟩; exact ⟨_, rfl, cs, rfl, h1, h2 (fun b hb => by have := st.bp b hb; omega)⟩)) ?_
  rintro _ w1 ⟨cs, rfl, f1, hcs⟩;have sz1 := f1.size;refine hm pb B _ _ w1 cs (atT t.l i) _ (by simp only [sPu]; exact hN) (gQ) hcs st.bp (by omega) ?_;intro a2 w2 v y k2 g2 hvl f2 hG hv;have sz2 := f2.size;have kk : Kept (n + 1) a a2 := ((Kept.put0 (Nat.le_refl _) _).put (by omega) _).trans (k2.mono (by omega));have hN2 : a2.tmps.size = N := kk.size.trans hN;have f02 : Fr [] w w2 := f1.tr f2;refine wC (wFa (b := pb) (i := 0) hF (by rw [eTm, kk.get sv (by omega), st.gv]) ?_);rw [wCo];have hthz : w2.there pb 0 z.length := f02.there hth;refine wp_storeSt hK (b := pb) (o := 0 + o) (cs := v) (by omega) (by rw [eTm, gQ]) (by rw [eTm, gR, g2]) (rep_cells hv) (there_part hthz (by omega) (by omega)) ?_;rw [pNo, wNi];have f3 := Fr.sets pb v w2 (0 + o);have rg := range_setN (o := o) (cs := v) (f02.range hz .nil) hthz (by omega);have hr2 : Reps w2 (Rch B pb w2) tys z xs := hrep.kept f02 (by simp) (fun b hb => hb.mono (by omega));have hr3 := reps_setN hr2 hj hv;rw [← ho, ← hvl] at hr3;generalize w2.setCells pb (0 + o) v = w3 at f3 rg ⊢;have sz3 := f3.size;have hr' := hr3.kept f3 (A' := Rch B pb w3) (by intro r hr hA; simp at hr; subst hr; exact hA.self st.bp) (fun b hb => hb.mono f3.size);have k3 : Kept (n + 1) a (a2.put (some q) (.pointer (some ⟨pb, 0 + o, none⟩))) := kk.put (by omega) _;refine hKK _ w3 _ ⟨y, hG, rfl⟩ ⟨k3.size.trans hN, k3.defers.trans st.df, (k3.get sv (by omega)).trans st.gv, (k3.get sb (by omega)).trans st.gb, (k3.get se (by omega)).trans st.ge, ?_, ?_, st.pt, st.bp, _, rg, ?_, hr'⟩ ?_
  · exact f3.range (f02.range st.tr .nil) (.cons (.inl hpw0) .nil)
  · exact (st.rt.kept f02 (by simp) (fun _ h => h)).kept f3 (by intro r hr hA; simp at hr; subst hr; have := st.bp _ hA; simp only at this; omega) (fun _ h => h)
  · have hl2 := hr3.length;rw [hl2, ← hzl]; exact f3.there hthz
  refine Fr.trans (l := [⟨pb, 0, Ty.sizes tys⟩]) (f02.mono (by simp)) f3 ?_;intro r hr; simp at hr; subst hr;exact .inr ⟨_, List.mem_singleton.2 rfl, rfl, by simp, by simp only; omega⟩
section
variable {P : Program} {N n : Nat} {TT : TypeId} {t0 t1 : TypeId} {p0 p1 : String} {e0 e1 : Array Edge} {ats : Array TypeId}
theorem mid_mk {f : FuncId} {tys : List Ty} {R : T → List V → Prop} (h : MkE P f tys R) (hb : (decide (n + 3 < N)) = true) :
    MidOkR P N n (n + 3) [oC (n + 3) f #[.tmp (n + 2)] ats t0 p0 e0] (.st tys) (fun x y => ∃ ys, y = .l ys ∧ R x ys) := by
  intro pb B Q a w cs x rest hN hg hr hBp hp hK;have hb := of_decide_eq_true hb;show wpl P Q (_ :: rest) a w
  rw [wCo];refine wp_calls (R := fun v w' => ∃ (ds : List Value) (ys : List V), v = .agg ds.toArray ∧ R x ys ∧ Fr [] w w' ∧ ds.length = Ty.sizes tys ∧ Reps w' (fun b => B b ∨ From w.heap.size w' b) tys ds ys) h.enters (vs := #[.agg cs.toArray])
    (by simp only [List.map_toArray, List.map_cons, List.map_nil, eTm]; rw [hg])
    ((h.call w B cs x hr (fun b hb => by have := hBp b hb; omega)).mono (by rintro e' w' ⟨ds, ys, rfl, h1, h2, h3, h4⟩; exact ⟨_, rfl, ds, ys, rfl, h1, h2, h3, h4⟩)) ?_
  rintro _ w' ⟨ds, ys, rfl, h1, h2, h3, h4⟩;exact hK _ w' ds (.l ys) (Kept.put0 (by omega) _) (gQ) h3 h2 ⟨ys, rfl, h1⟩ ⟨ys, rfl, h4.kept (Fr.refl [] w') (by simp) (by rintro b (hb | hb); exact .inl hb; exact .inr ⟨by have := hb.1; omega, hb.2⟩)⟩
structure SixM (P : Program) (f : FuncId) : Prop where
  enters : Enters P f
  call : ∀ (w : World) (B : Nat → Prop) (v : Value) (s : List UInt8), OctE w B v s → Calls P f #[v] w fun e w' => e = .returned (.agg (octets (uuidW s)).toArray) ∧ Fr [] w w'
theorem mid_six {f : FuncId} (h : SixM P f) (hi : fldSl P TT 1 = true) (ho : fieldOf P TT 1 1 = true) (hb : (decide (n + 4 < N)) = true) :
    MidOkR P N n (n + 4) [⟨some (n + 3), .field TT (.tmp (n + 2)) 1, t0, p0, e0, none⟩, oC (n + 4) f #[.tmp (n + 3)] ats t1 p1 e1] .uuid (fun x y => y = .s (uuidW x.s)) := by
  intro pb B Q a w cs x rest hN hg hr hBp hp hK;have hb := of_decide_eq_true hb;obtain ⟨sv, h0, h3⟩ := repT_s hr;show wpl P Q (_ :: _ :: rest) a w
  refine wC (wp_fieldS hi ho (by rw [eTm]; exact hg) h0 ?_);rw [wCo];refine wp_calls (R := fun v w' => v = .agg (octets (uuidW x.s)).toArray ∧ Fr [] w w') h.enters (vs := #[sv])
    (by simp only [List.map_toArray, List.map_cons, List.map_nil, eTm]; rw [gQ])
    ((h.call w B sv x.s h3).mono (by rintro e' w' ⟨rfl, h1⟩; exact ⟨_, rfl, rfl, h1⟩)) ?_
  rintro _ w' ⟨rfl, h1⟩;have hl := uuidW_length x.s;exact hK _ w' _ _ ((Kept.put0 (by omega) _).put (by omega) _) (gQ) (by rw [lOc, hl]; rfl) h1 rfl ⟨_, hl, rfl, rfl⟩
end
theorem six_m {P : Program} {f : FuncId} {fn : Func} {T te T22 : TypeId} {i0 i1 i2 : Nat} {t0 t1 t2 t3 t4 t5 : TypeId} {p0 p1 p2 p3 p4 p5 : String} {e0 e1 e2 e3 e4 e5 : Array Edge}
    (hf : P.funcs[f]? = some fn) (hname : (fn.name == "runtime.NumGoroutine") = false) (hres : fn.results = #[.cell 2 T]) (hN : fn.ntmps = 7)
    (hbody : fn.body = some (.seq (Code.region i0 ⟨[⟨some 2, .alloc T, t0, p0, e0, none⟩]⟩ false) (.seq (Code.region i1 ⟨[⟨some 3, .slice T (.tmp 2) none none none, t1, p1, e1, none⟩, oM 4 0 t2 p2 e2, ⟨some 5, .call ⟨.builtin .copy, #[.tmp 3, .tmp 4], #[T22, T22]⟩, t3, p3, e3, none⟩]⟩ false) (.seq (Code.region i2 ⟨[oL 6 T 2 t4 p4 e4, oS T 2 6 t5 p5 e5]⟩ false) .ret))))
    (hT : RowT P T zU) (h22 : sliceOf P T22 te 1 1 = true) : SixM P f := by
  refine ⟨enters_of hf hname hbody, ?_⟩;intro w B v s hs;refine calls_of_wp hf hbody ?_;generalize ha0 : ({ tmps := #[v] ++ Array.replicate (fn.ntmps - #[v].size) undef, defers := [] } : Act) = a0;have hsz : a0.tmps.size = 7 := by subst ha0; simp [hN]
  have hd0 : a0.defers = [] := by subst ha0; rfl
  have g0 : get a0 0 = v := by subst ha0; exact gAr rfl
  refine wT fun K1 hK1 => ?_;refine wC (wp_alloc hT.zero ?_);rw [wNi];have f1 := Fr.alloc [] w (.cells (Value.agg zU.toArray).cells T);have th1 : (w.alloc (.cells (Value.agg zU.toArray).cells T)).there w.heap.size 0 16 := there_new w zU.toArray T;have rg1 : (w.alloc (.cells (Value.agg zU.toArray).cells T)).rangeAt w.heap.size 0 zU := range_new w zU.toArray T (0, 0);generalize w.alloc (.cells (Value.agg zU.toArray).cells T) = w1 at f1 th1 rg1 ⊢;refine hK1 _ w1 (tUp ?_);refine wT fun K2 hK2 => ?_;refine wC (wp_sliceRow hT (b := w.heap.size) (o := 0) (by rw [eTm, gQ]) (by simp [zU, uuid0, octets]) ?_);rw [wCo, wMw, eTm, gR, gR, g0, wCo];have hul : zU.length = 16 := rfl;refine wp_copyU (xs := s) (b := w.heap.size) (B := B) (v := v) h22 (by rw [eTm, gR, gQ, hul]) (by rw [eTm, gQ]) (hs.kept f1 (by simp) (fun _ h => h)) rg1 th1 ?_;intro w2 u f2 rg2;rw [wNi];refine hK2 _ w2 (tUp ?_);refine wT fun K3 hK3 => ?_;rw [wCo];have hl : (octets (uuidW s)).length = zU.length := by rw [lOc, uuidW_length]; rfl
  refine wp_loadRow hT (b := w.heap.size) (o := 0) hl (by rw [eTm, gR, gR, gR, gQ]) rg2 ?_;rw [wCo];have th2 : w2.there w.heap.size 0 (octets (uuidW s)).length := by rw [hl]; exact f2.there th1
  refine wp_storeRow hT (b := w.heap.size) (o := 0) hl (by rw [eTm, gR, gR, gR, gR, gQ]) (by rw [eTm, gQ]) (octets_one _) th2 ?_;rw [pNo, wNi];have f3 := Fr.sets w.heap.size (octets (uuidW s)) w2 0;have rg3 := World.rangeAt_setCells_same w2 w.heap.size 0 (octets (uuidW s)) th2;refine hK3 _ _ (wp_ret ?_);refine ⟨by simp only [dPu]; exact hd0, _, results_row hres hT hl (by rw [gR, gR, gR, gR, gQ]) rg3, rfl, ?_⟩;refine (f1.trans f2 (by intro r hr; simp at hr; subst hr; exact .inl (Nat.le_refl _))).trans f3 (by intro r hr; simp at hr; subst hr; exact .inl (Nat.le_refl _))
theorem room_own {P : Program} {N sv sb n i o sz k idr bs : Nat} {TT TG TS TX S : TypeId} {fat : FuncId} {ats : Array TypeId} {zs : List Value}
    {t1 t2 t3 t4 t5 t7 t8 : TypeId} {p1 p2 p3 p4 p5 p7 p8 : String} {e1 e2 e3 e4 e5 e7 e8 : Array Edge}
    (hT : Flat P TT zT) (hAt : AtM P fat) (h3 : fldSl P TT 3 = true) (h3o : fieldOf P TT 3 3 = true) (hsG : slTy P TG = true) (hS : sliceOf P TS TX sz bs = true) (hz0 : zeroIs P TX zs) (hzs : zs.length = sz) (hbs : bs ≤ 65536) (hF : fieldOf P S k o = true) (hs : scal P TS = true)
    (hb : (decide (sv < n) && decide (sb < n) && decide (n + 5 < N)) = true) :
    RoomR P N sv sb n i o sz (Code.region idr ⟨[oL n TT sb t1 p1 e1, oC (n + 1) fat #[.tmp n, .const (.int .i64 i)] ats t2 p2 e2, ⟨some (n + 2), .field TT (.tmp (n + 1)) 3, t3, p3, e3, none⟩, ⟨some (n + 3), .call ⟨.builtin .len, #[.tmp (n + 2)], #[TG]⟩, t4, p4, e4, none⟩, ⟨some (n + 4), .makeSlice TS (.const (.int .i64 0)) (.tmp (n + 3)), t5, p5, e5, none⟩,
      oF (n + 5) S sv k t7 p7 e7, oS TS (n + 5) (n + 4) t8 p8 e8]⟩ false) := by
  intro pb tb B ct t z K Q a w hN gv gb htr hrt hbp hpw hz hth hoz hK;simp only [Bool.and_eq_true, decide_eq_true_eq] at hb;obtain ⟨⟨b1, b2⟩, b3⟩ := hb;refine wp_reg ?_;refine wC (wp_loadFlat hT (by rw [hrt.length]; rfl) (by rw [eTm, gb]) htr ?_);rw [wCo];refine wp_calls (R := fun v w' => ∃ cs : List Value, v = .agg cs.toArray ∧ Fr [] w w' ∧ RepT w' B cs (atT t.l i)) hAt.enters (vs := #[.agg ct.toArray, .int .i64 i])
    (by simp only [List.map_toArray, List.map_cons, List.map_nil, eTm, eCo]; rw [gQ])
    ((hAt.call w B ct t i hrt).mono (by rintro e' w' ⟨cs, rfl, h1, h2⟩; exact ⟨_, rfl, cs, rfl, h1, h2 (fun b hb => by have := hbp b hb; omega)⟩)) ?_
  rintro _ w1 ⟨cs, rfl, f1, hcs⟩;have sz1 := f1.size;obtain ⟨lv, hlv, hth1⟩ := repT_l hcs;obtain ⟨lq, lcap, rfl, hll⟩ := hth1.slice3;refine wC (wp_fieldS h3 h3o (cs := cs) (by rw [eTm, gQ]) hlv ?_);refine wC (wp_lenS hsG (q := lq) (n := (atT t.l i).l.length) (cap := lcap) (by rw [eTm, gQ]) ?_);rw [wCo];have hbn : bs * (atT t.l i).l.length ≤ 65536 * 4294967296 := Nat.mul_le_mul hbs hll;refine wp_make0 hS hz0 (n := (atT t.l i).l.length) (by omega) (by omega) (by rw [eTm, gQ]) ?_;have fa := Fr.alloc [] w1 (.cells (madeCells zs.toArray ((atT t.l i).l.length * sz)) TX);have tha := there_new w1 (madeCells zs.toArray ((atT t.l i).l.length * sz)) TX;have sza := size_alloc w1 (.cells (madeCells zs.toArray ((atT t.l i).l.length * sz)) TX);have hmc : (madeCells zs.toArray ((atT t.l i).l.length * sz)).size = (atT t.l i).l.length * sz := by simp [madeCells]
  rw [hmc] at tha;generalize w1.alloc (.cells (madeCells zs.toArray ((atT t.l i).l.length * sz)) TX) = w2 at fa tha sza ⊢;refine wC (wFa (b := pb) (i := 0) hF (by rw [eTm, gR, gR, gR, gR, gR, gv]) ?_);rw [wCo];have f02 : Fr [] w w2 := f1.tr fa;refine wp_store hs (b := pb) (o := 0 + o) (v := .slice (some ⟨w1.heap.size, 0, none⟩) 0 (atT t.l i).l.length) (by rw [eTm, gQ]) (by rw [eTm, gR, gQ]) rfl (there_part (f02.there hth) (by omega) (by omega)) ?_;rw [pNo, wNi];have f3 := Fr.set w2 pb (0 + o) (.slice (some ⟨w1.heap.size, 0, none⟩) 0 (atT t.l i).l.length);have rg := range_setAt (v := .slice (some ⟨w1.heap.size, 0, none⟩) 0 (atT t.l i).l.length) (f02.range hz .nil) (f02.there hth) hoz;have sz3 := f3.size;generalize w2.setCell ⟨pb, 0 + o, none⟩ (.slice (some ⟨w1.heap.size, 0, none⟩) 0 (atT t.l i).l.length) = w3 at f3 rg sz3 ⊢;refine hK _ w3 w1.heap.size ((((((Kept.put0 (Nat.le_refl _) _).put (by omega) _).put (by omega) _).put (by omega) _).put (by omega) _).put (by omega) _) (by omega) (by omega) (f3.there tha) rg ?_;refine Fr.trans f02.nil f3 ?_;intro r hr; simp at hr; subst hr;exact .inr ⟨_, List.mem_singleton.2 rfl, rfl, by simp, by simp⟩
theorem add_own {P : Program} {N sv xv n o sz k idr bs : Nat} {TT TS TX S : TypeId} {fmk : FuncId} {ats : Array TypeId} {zs : List Value} {etys : List Ty} {R : T → List V → Prop}
    {t3 t4 t5 t6 t7 t8 t10 t11 : TypeId} {p3 p4 p5 p6 p7 p8 p10 p11 : String} {e3 e4 e5 e6 e7 e8 e10 e11 : Array Edge}
    (hmk : MkE P fmk etys R) (hT : Flat P TT zT) (hS : sliceOf P TS TX sz bs = true) (hz0 : zeroIs P TX zs) (hzs : zs.length = sz) (hsz : sz = Ty.sizes etys) (hs0 : sz ≤ 16777216) (hF : fieldOf P S k o = true) (hs : scal P TS = true)
    (hmx : P.follows .mixedOrders = true) (he : edgeOk 0 [e3, e4, e5, e6, e7, e8, e10, e11] ([[], [0], [], [2], [3]] ++ allAhead 5 3) = true)
    (hb : (decide (sv < n) && decide (xv < n) && decide (n + 6 < N)) = true) :
    AddR P N sv xv n o sz (.st etys) (fun x y => ∃ ys, y = .l ys ∧ R x ys) (Code.region idr ⟨[oF n S sv k t3 p3 e3, oL (n + 1) TS n t4 p4 e4,
      oL (n + 2) TT xv t5 p5 e5, oC (n + 3) fmk #[.tmp (n + 2)] ats t6 p6 e6, ⟨some (n + 4), .buildSlice TS 1 #[(0, .tmp (n + 3))], t7, p7, e7, none⟩, ⟨some (n + 5), .call ⟨.builtin .append, #[.tmp (n + 1), .tmp (n + 4)], #[TS, TS]⟩, t8, p8, e8, none⟩,
      oF (n + 6) S sv k t10 p10 e10, oS TS (n + 6) (n + 5) t11 p11 e11]⟩ true) := by
  intro pb xb g j cap B cx x z K Q a w hN gv gx hrx hrt hbp hpg hgx hxw hz hth hzo hjc htg hK;simp only [Bool.and_eq_true, decide_eq_true_eq] at hb;obtain ⟨⟨b1, b2⟩, b3⟩ := hb;have hoz : o < z.length := (List.getElem?_eq_some_iff.1 hzo).1;have hmul : (j + 1) * sz ≤ cap * sz := Nat.mul_le_mul_right _ (by omega);rw [Nat.add_mul, Nat.one_mul] at hmul;have hBg : ∀ b, B b → b < g := fun b hb => by have := hbp b hb; omega
  refine wp_drawR (os := [oF n S sv k t3 p3 e3, oL (n + 1) TS n t4 p4 e4,
      oL (n + 2) TT xv t5 p5 e5, oC (n + 3) fmk #[.tmp (n + 2)] ats t6 p6 e6, ⟨some (n + 4), .buildSlice TS 1 #[(0, .tmp (n + 3))], t7, p7, e7, none⟩]) (rest := [⟨some (n + 5), .call ⟨.builtin .append, #[.tmp (n + 1), .tmp (n + 4)], #[TS, TS]⟩, t8, p8, e8, none⟩,
      oF (n + 6) S sv k t10 p10 e10, oS TS (n + 6) (n + 5) t11 p11 e11])
    [spC [] (.pointer (some ⟨pb, 0 + o, none⟩)), spC [0] (.slice (some ⟨g, 0, none⟩) j cap), spC [] (.agg cx.toArray),
     spR [2] (fun v w' => ∃ (cs : List Value) (y : List V), v = .agg cs.toArray ∧ R x y ∧ cs.length = sz ∧ Reps w' (Rch B g w') etys cs y),
     spR [3] (fun v w' => ∃ (b' : Nat) (cs : List Value) (y : List V), v = .slice (some ⟨b', 0, none⟩) 1 1 ∧ g < b' ∧ w'.rangeAt b' 0 cs ∧ R x y ∧ cs.length = sz ∧ Reps w' (Rch B g w') etys cs y)] n [] hmx he (by simp [shape]) (by simp [plainO]) (by simp [spC, spR]) (by simp; omega)
    ⟨lCc _ _ _, lCc _ _ _, lCc _ _ _,
      (fun v w1 w2 f h => by obtain ⟨cs, y, h1, h2, h3, h4⟩ := h; exact ⟨cs, y, h1, h2, h3, h4.kept f (by simp) (fun b hb => hb.mono f.size)⟩),
      (fun v w1 w2 f h => by obtain ⟨b', cs, y, h1, h2, h3, h4, h5, h6⟩ := h; exact ⟨b', cs, y, h1, h2, f.range h3 (by simp; exact .nil), h4, h5, h6.kept f (by simp) (fun b hb => hb.mono f.size)⟩), trivial⟩
    ⟨op_c fun a' w' hk' hf' hd' K' hK' => ?_, op_c fun a' w' hk' hf' hd' K' hK' => ?_, op_c fun a' w' hk' hf' hd' K' hK' => ?_,
      op_r fun a' w' hk' hf' hd' K' hK' => ?_, op_r fun a' w' hk' hf' hd' K' hK' => ?_, trivial⟩ ?_
  · exact wFa hF (by rw [eTm, hk'.get sv (by omega), gv]) hK'
  · refine wp_load hs (by rw [eTm]; exact hd'.c (nd' := []) 0 (by simp) rfl) ?_ hK';exact hf'.cell (hz o _ hzo) .nil
  · refine wp_loadFlat hT (b := xb) (o := 0) (cs := cx) (by rw [hrt.length]; rfl) (by rw [eTm, hk'.get xv (by omega), gx]) (hf'.range hrx .nil) hK'
  · have hsz' := hf'.size;refine wp_calls (R := fun v w2 => ∃ (cs : List Value) (y : List V), v = .agg cs.toArray ∧ R x y ∧ Fr [] w' w2 ∧ cs.length = Ty.sizes etys ∧ Reps w2 (fun b => B b ∨ From w'.heap.size w2 b) etys cs y) hmk.enters (vs := #[.agg cx.toArray])
      (by simp only [List.map_toArray, List.map_cons, List.map_nil, eTm]; rw [hd'.c (nd' := []) (x := .agg cx.toArray) 2 (by simp) rfl])
      ((hmk.call w' B cx x (hrt.kept hf' (by simp) (fun _ h => h)) (fun b hb => by have := hBg b hb; omega)).mono (by rintro e' w2 ⟨cs, ys, rfl, h1, h2, h3, h4⟩; exact ⟨_, rfl, cs, ys, rfl, h1, h2, h3, h4⟩)) ?_
    rintro _ w2 ⟨cs, y, rfl, h1, h2, h3, h4⟩;have hs2 := h2.size;exact hK' _ w2 ⟨cs, y, rfl, h1, by omega, h4.kept (Fr.refl [] w2) (by simp) (by rintro b (hb | hb); exact .inl hb; exact .inr ⟨by have := hb.1; omega, hb.2⟩)⟩ h2
  · obtain ⟨cs, y, h0, h1, h2, h3⟩ := hd'.at (d := 3) (by simp) rfl;have hsz' := hf'.size;refine wp_slice1 (cs := cs) hS hz0 hzs hs0 (by rw [eTm, h0]; rfl) h2 fun _ => ?_;have fb := Fr.alloc [] w' (.cells cs.toArray TX);have rb : (w'.alloc (.cells cs.toArray TX)).rangeAt w'.heap.size 0 cs := by have := range_new w' cs.toArray TX (0, 0); simpa using this
    exact hK' _ _ ⟨w'.heap.size, cs, y, rfl, by omega, rb, h1, h2, h3.kept fb (by simp) (fun b hb => hb.mono fb.size)⟩ fb
  intro a5 w5 k5 f5 hd5;obtain ⟨b', cs, y, h0, h1, h2, h3, h4, h5⟩ := hd5.at (d := 4) (by simp) rfl;have hN5 : a5.tmps.size = N := k5.size.trans hN;have sz5 := f5.size;have hthg : w5.there g (0 + j * sz) cs.length := there_part (f5.there htg) (by omega) (by omega);refine wC (wp_appendRoom (b := g) (o := 0) (n := j) (cap := cap) (news := cs) hS (by rw [eTm]; exact hd5.c (nd' := [0]) 1 (by simp) rfl) (by rw [eTm]; exact h0) (by omega) h2 (reps_cells h5) (by omega) hthg ?_);have fs := Fr.sets g cs w5 (0 + j * sz);have rs := World.rangeAt_setCells_same w5 g (0 + j * sz) cs hthg;rw [Nat.zero_add] at fs rs ⊢;have h5' := h5.kept fs (A' := Rch B g (w5.setCells g (j * sz) cs)) (by intro r hr hA; simp at hr; subst hr; exact hA.self hBg) (fun b hb => hb.mono fs.size);generalize w5.setCells g (j * sz) cs = w5' at fs rs h5' ⊢;have szs := fs.size;have f05 : Fr [⟨g, j * sz, cap * sz⟩] w w5' := f5.nil.trans fs (by intro r hr; simp at hr; subst hr; exact .inr ⟨_, List.mem_singleton.2 rfl, rfl, by simp, by simp only; omega⟩);refine wC (wFa (b := pb) (i := 0) hF (by rw [eTm, gR, k5.get sv (by omega), gv]) ?_);refine wC (wp_store hs (b := pb) (o := 0 + o) (v := .slice (some ⟨g, 0, none⟩) (j + 1) cap) (by rw [eTm, gQ]) (by rw [eTm, gR, gQ]) rfl (there_part (f05.there hth) (by omega) (by omega)) ?_);rw [pNo, wNi];have f6 := Fr.set w5' pb (0 + o) (.slice (some ⟨g, 0, none⟩) (j + 1) cap);have rg := range_setAt (v := .slice (some ⟨g, 0, none⟩) (j + 1) cap) (f05.range hz (.cons (.inl (by simp only; omega)) .nil)) (f05.there hth) hoz;generalize w5'.setCell ⟨pb, 0 + o, none⟩ (.slice (some ⟨g, 0, none⟩) (j + 1) cap) = w6 at f6 rg ⊢;refine hK _ w6 cs (.l y) ((k5.put (by omega) _).put (by omega) _) ⟨y, rfl, h3⟩ h4 ⟨y, rfl, h5'.kept f6 ?_ (fun b hb => hb.mono f6.size)⟩ (f6.range rs (.cons (.inl (by simp only; omega)) .nil)) rg ?_
  · intro r hr hA; simp at hr; subst hr
    rcases hA with hA | hA
    · have := hbp _ hA; simp only at this; omega
    simp only at hA; omega
  refine Fr.trans (f05.mono ?_) f6 ?_
  · intro r hr; simp at hr; subst hr;exact .inr ⟨_, List.mem_cons_self, rfl, Nat.le_refl _, Nat.le_refl _⟩
  intro r hr; simp at hr; subst hr;exact .inr ⟨⟨pb, o, o + 1⟩, by simp, rfl, by simp, by simp⟩
def MidX (P : Program) (N n xv : Nat) (mid : List Oper) (ety : Ty) (g : T → V) : Prop :=
  ∀ (xb : Nat) (B : Nat → Prop) (cx : List Value) (x : T) (Q : Exit → Act → World → Prop) (a : Act) (w : World) (rest : List Oper), a.tmps.size = N → get a xv = .pointer (some ⟨xb, 0, none⟩) → w.rangeAt xb 0 cx → RepT w B cx x →
    (∀ a' v, Kept n a a' → get a' (n + 2) = v → v.oneCell' = true → (∀ (w' : World) (A : Nat → Prop), Rep w' A ety [v] (g x)) → wpl P Q rest a' w) → wpl P Q (mid ++ rest) a w
section
variable {P : Program} {N n xv : Nat} {TT TF TB TS : TypeId} {t0 t1 t2 : TypeId} {p0 p1 p2 : String} {e0 e1 e2 : Array Edge}
theorem midx_str (hT : Flat P TT zT) (hc : scal P TF = true) (h1 : byteSl P TB = true) (h2 : strTy P TS = true) (hb : (decide (xv < n) && decide (n + 2 < N)) = true) :
    MidX P N n xv [oF n TT xv 1 t0 p0 e0, oL (n + 1) TF n t1 p1 e1, ⟨some (n + 2), .convert TB TS (.tmp (n + 1)), t2, p2, e2, none⟩] .str (fun x => .s x.s) := by
  intro xb B cx x Q a w rest hN hg hr hrt hK;simp only [Bool.and_eq_true, decide_eq_true_eq] at hb;obtain ⟨b1, b2⟩ := hb;obtain ⟨sv, h0, h3⟩ := repT_s hrt;show wpl P Q (_ :: _ :: _ :: rest) a w
  refine wC (wFa (b := xb) (i := 0) (hT.field (k := 1) (by decide)) (by rw [eTm, hg]) ?_);refine wC (wp_load (v := sv) hc (by rw [eTm, gQ]) (hr 1 _ h0) ?_);refine wC (wp_toStrE h1 h2 (by rw [eTm, gQ]) h3 ?_);exact hK _ (.string (strOf x.s)) (((Kept.put0 (by omega) _).put (by omega) _).put (by omega) _) (gQ) rfl fun w' A => ⟨_, rfl, by rw [strOf_list], by rw [strOf_list]; exact octE_big h3⟩
theorem midx_num {kd : IntKind} (hT : Flat P TT zT) (hc : scal P TF = true) (h1 : intOf P TB .i64 = true) (h2 : intOf P TS kd = true) (hk : fits64 kd = true) (hb : (decide (xv < n) && decide (n + 2 < N)) = true) :
    MidX P N n xv [oF n TT xv 0 t0 p0 e0, oL (n + 1) TF n t1 p1 e1, ⟨some (n + 2), .convert TB TS (.tmp (n + 1)), t2, p2, e2, none⟩] (.int kd) (fun x => .n (kd.wrap x.n)) := by
  intro xb B cx x Q a w rest hN hg hr hrt hK;simp only [Bool.and_eq_true, decide_eq_true_eq] at hb;obtain ⟨b1, b2⟩ := hb;obtain ⟨h0, h3, h4⟩ := repT_n hrt;show wpl P Q (_ :: _ :: _ :: rest) a w
  refine wC (wFa (b := xb) (i := 0) (hT.field (k := 0) (by decide)) (by rw [eTm, hg]) ?_);refine wC (wp_load (v := .int .i64 x.n) hc (by rw [eTm, gQ]) (hr 0 _ h0) ?_);refine wC (wCv h1 h2 (by rw [eTm, gQ]) ?_);have := wrap_le kd x.n hk;exact hK _ (.int kd (kd.wrap x.n)) (((Kept.put0 (by omega) _).put (by omega) _).put (by omega) _) (gQ) rfl fun w' A => ⟨_, rfl, rfl, this.1, this.2⟩
end
theorem add_one {P : Program} {N sv xv n o k idr bs : Nat} {TS TX S : TypeId} {mid : List Oper} {zs : List Value} {ety : Ty} {g : T → V}
    {t3 t4 t7 t8 t10 t11 : TypeId} {p3 p4 p7 p8 p10 p11 : String} {e3 e4 e7 e8 e10 e11 : Array Edge}
    (hmid : MidX P N (n + 2) xv mid ety g) (hu : unguarded mid = true) (hS : sliceOf P TS TX 1 bs = true) (hz0 : zeroIs P TX zs) (hzs : zs.length = 1) (hF : fieldOf P S k o = true) (hs : scal P TS = true)
    (hb : (decide (sv < n) && decide (xv < n) && decide (n + 7 < N)) = true) :
    AddR P N sv xv n o 1 ety (fun x y => y = g x) (Code.region idr ⟨[oF n S sv k t3 p3 e3, oL (n + 1) TS n t4 p4 e4] ++ (mid ++
      [⟨some (n + 5), .buildSlice TS 1 #[(0, .tmp (n + 4))], t7, p7, e7, none⟩, ⟨some (n + 6), .call ⟨.builtin .append, #[.tmp (n + 1), .tmp (n + 5)], #[TS, TS]⟩, t8, p8, e8, none⟩,
      oF (n + 7) S sv k t10 p10 e10, oS TS (n + 7) (n + 6) t11 p11 e11])⟩ false) := by
  intro pb xb gb j cap B cx x z K Q a w hN gv gx hrx hrt hbp hpg hgx hxw hz hth hzo hjc htg hK;simp only [Bool.and_eq_true, decide_eq_true_eq] at hb;obtain ⟨⟨b1, b2⟩, b3⟩ := hb;have hoz : o < z.length := (List.getElem?_eq_some_iff.1 hzo).1;rw [Nat.mul_one] at htg;refine wp_reg ?_ (unguarded_app rfl (unguarded_app hu rfl));show wpl P _ (_ :: _ :: (mid ++ _)) a w
  refine wC (wFa (b := pb) (i := 0) hF (by rw [eTm, gv]) ?_);refine wC (wp_load hs (by rw [eTm, gQ]) (hz o _ hzo) ?_);refine hmid xb B cx x _ _ w _ (by simp only [sPu]; exact hN) (by rw [gR, gR, gx]) hrx hrt ?_;intro a1 v k1 g1 hv1 hv;have hN1 : a1.tmps.size = N := by rw [k1.size]; simp only [sPu]; exact hN
  refine wC (wp_slice1 (cs := [v]) hS hz0 hzs (by omega) (by rw [eTm, g1]; cases v <;> first | rfl | simp [Value.oneCell'] at hv1) rfl fun _ => ?_);have fb := Fr.alloc [] w (.cells ([v] : List Value).toArray TX);have rb : (w.alloc (.cells ([v] : List Value).toArray TX)).rangeAt w.heap.size 0 [v] := by have := range_new w ([v] : List Value).toArray TX (0, 0); simpa using this
  have szb := size_alloc w (.cells ([v] : List Value).toArray TX);generalize w.alloc (.cells ([v] : List Value).toArray TX) = w1 at fb rb szb ⊢;rw [wCo];have hthg : w1.there gb (0 + j * 1) ([v] : List Value).length := there_part (fb.there htg) (by omega) (by simp; omega);refine wp_appendRoom (b := gb) (o := 0) (n := j) (cap := cap) (news := [v]) hS (by rw [eTm, gR, k1.get (n + 1) (by omega), gQ]) (by rw [eTm, gQ]) (by simp) rb (by simpa using hv1) (by omega) hthg ?_;have fs := Fr.sets gb [v] w1 (0 + j * 1);have rs := World.rangeAt_setCells_same w1 gb (0 + j * 1) [v] hthg;rw [Nat.zero_add] at fs rs ⊢;generalize w1.setCells gb (j * 1) [v] = w2 at fs rs ⊢;have szs := fs.size;have f02 : Fr [⟨gb, j * 1, cap * 1⟩] w w2 := fb.nil.trans fs (by intro r hr; simp at hr; subst hr; exact .inr ⟨_, List.mem_singleton.2 rfl, rfl, by simp, by simp only; omega⟩);refine wC (wFa (b := pb) (i := 0) hF (by rw [eTm, gR, gR, k1.get sv (by omega), gR, gR, gv]) ?_);refine wC (wp_store hs (b := pb) (o := 0 + o) (v := .slice (some ⟨gb, 0, none⟩) (j + 1) cap) (by rw [eTm, gQ]) (by rw [eTm, gR, gQ]) rfl (there_part (f02.there hth) (by omega) (by omega)) ?_);rw [pNo, wNi];have f6 := Fr.set w2 pb (0 + o) (.slice (some ⟨gb, 0, none⟩) (j + 1) cap);have rg := range_setAt (v := .slice (some ⟨gb, 0, none⟩) (j + 1) cap) (f02.range hz (.cons (.inl (by simp only; omega)) .nil)) (f02.there hth) hoz;generalize w2.setCell ⟨pb, 0 + o, none⟩ (.slice (some ⟨gb, 0, none⟩) (j + 1) cap) = w6 at f6 rg ⊢;refine hK _ w6 [v] (g x) ?_ rfl ?_ (hv _ _) (f6.range rs (.cons (.inl (by simp only; omega)) .nil)) rg ?_
  · have k0 : Kept n a ((a.put (some n) (.pointer (some ⟨pb, 0 + o, none⟩))).put (some (n + 1)) (.slice (some ⟨gb, 0, none⟩) j cap)) := (Kept.put0 (Nat.le_refl _) _).put (by omega) _;exact (((k0.trans (k1.mono (by omega))).put (by omega) _).put (by omega) _).put (by omega) _
  · have := (hv w6 (fun _ => True)).length;simp at this; simp; try omega
  refine Fr.trans (f02.mono ?_) f6 ?_
  · intro r hr; simp at hr; subst hr;exact .inr ⟨_, List.mem_cons_self, rfl, by simp, by simp⟩
  intro r hr; simp at hr; subst hr;exact .inr ⟨⟨pb, o, o + 1⟩, by simp, rfl, by simp, by simp⟩
theorem make_eN {P : Program} {f : FuncId} {fn : Func} {N n : Nat} {TT TX : TypeId} {i0 i1 i2 : Nat} {c : Code} {tys : List Ty} {zs : List Value} {ds : List V} {pre : List V → Prop} {R : T → List V → List V → Prop}
    {t0 t1 t2 t3 t4 : TypeId} {p0 p1 p2 p3 p4 : String} {e0 e1 e2 e3 e4 : Array Edge}
    (hf : P.funcs[f]? = some fn) (hname : (fn.name == "runtime.NumGoroutine") = false) (hres : fn.results = #[.cell 2 TX]) (hN : fn.ntmps = N)
    (hbody : fn.body = some (.seq (Code.region i0 ⟨[⟨some 1, .box TT (.tmp 0), t0, p0, e0, none⟩, ⟨some 2, .alloc TX, t1, p1, e1, none⟩]⟩ false) (.seq (Code.region i1 ⟨[⟨some 3, .alloc TX, t2, p2, e2, none⟩]⟩ false) c)))
    (hX : StT P TX zs) (hzr : ∀ w, Reps w NoFoot tys zs ds) (hpre : pre ds) (hb : (decide (3 < n) && decide (n < N)) = true)
    (h : FTail P N 3 1 2 c (.seq (Code.region i2 ⟨[oL n TX 3 t3 p3 e3, oS TX 2 n t4 p4 e4]⟩ false) .ret) tys pre R) : MkE P f tys (fun t ys => R t ds ys) := by
  refine ⟨enters_of hf hname hbody, ?_⟩;intro w B ct t hrt hB;simp only [Bool.and_eq_true, decide_eq_true_eq] at hb;obtain ⟨b1, b2⟩ := hb;refine calls_of_wp hf hbody ?_;generalize ha0 : ({ tmps := #[Value.agg ct.toArray] ++ Array.replicate (fn.ntmps - #[Value.agg ct.toArray].size) undef, defers := [] } : Act) = a0;have hsz : a0.tmps.size = N := by subst ha0; simp [hN]; omega
  have hd0 : a0.defers = [] := by subst ha0; rfl
  have g0 : get a0 0 = .agg ct.toArray := by subst ha0; exact gAr rfl
  have hzl : zs.length = Ty.sizes tys := (hzr w).length;refine wT fun K1 hK1 => ?_;refine wC (wp_boxL (cs := ct) (by rw [eTm, g0]) ?_);intro w1 f1 sz1 r1 th1;refine wC (wp_alloc hX.zero ?_);rw [wNi];have fa := Fr.alloc [] w1 (.cells (Value.agg zs.toArray).cells TX);have tha : (w1.alloc (.cells (Value.agg zs.toArray).cells TX)).there w1.heap.size 0 zs.length := by have := there_new w1 (Value.agg zs.toArray).cells TX; simpa [Value.cells] using this
  have sza := size_alloc w1 (.cells (Value.agg zs.toArray).cells TX);generalize w1.alloc (.cells (Value.agg zs.toArray).cells TX) = w2 at fa tha sza ⊢;have k1 : Kept 1 a0 ((a0.put (some 1) (.pointer (some ⟨w.heap.size, 0, none⟩))).put (some 2) (.pointer (some ⟨w1.heap.size, 0, none⟩))) := (Kept.put0 (by omega) _).put (by omega) _;have q1 : get ((a0.put (some 1) (.pointer (some ⟨w.heap.size, 0, none⟩))).put (some 2) (.pointer (some ⟨w1.heap.size, 0, none⟩))) 1 = .pointer (some ⟨w.heap.size, 0, none⟩) := by rw [gR, gQ]
  have q2 : get ((a0.put (some 1) (.pointer (some ⟨w.heap.size, 0, none⟩))).put (some 2) (.pointer (some ⟨w1.heap.size, 0, none⟩))) 2 = .pointer (some ⟨w1.heap.size, 0, none⟩) := gQ;generalize ((a0.put (some 1) (.pointer (some ⟨w.heap.size, 0, none⟩))).put (some 2) (.pointer (some ⟨w1.heap.size, 0, none⟩))) = a1 at k1 q1 q2 ⊢;have hz1 := k1.size;refine hK1 a1 w2 (tUp ?_);refine wT fun K2 hK2 => ?_;refine wC (wp_alloc hX.zero ?_);rw [wNi];have fb := Fr.alloc [] w2 (.cells (Value.agg zs.toArray).cells TX);have thb : (w2.alloc (.cells (Value.agg zs.toArray).cells TX)).there w2.heap.size 0 zs.length := by have := there_new w2 (Value.agg zs.toArray).cells TX; simpa [Value.cells] using this
  have rb : (w2.alloc (.cells (Value.agg zs.toArray).cells TX)).rangeAt w2.heap.size 0 zs := by have := range_new w2 (Value.agg zs.toArray).cells TX (0, 0); simpa [Value.cells] using this
  have szb := size_alloc w2 (.cells (Value.agg zs.toArray).cells TX);generalize w2.alloc (.cells (Value.agg zs.toArray).cells TX) = w3 at fb thb rb szb ⊢;refine hK2 _ w3 (tUp ?_);have f03 : Fr [] w w3 := (f1.tr fa).tr fb;refine h (.pointer (some ⟨w1.heap.size, 0, none⟩)) w2.heap.size w.heap.size B ct t _ _ w3 ds hpre ⟨by simp only [sPu]; omega, by simp only [dPu]; rw [k1.defers, hd0], gQ, by rw [gR, q1], by rw [gR, q2], fb.range (fa.range r1 .nil) .nil, hrt.kept f03 (by simp) (fun _ h => h), by omega, fun b hb => by have := hB b hb; omega, zs, rb, thb, (hzr w3).kept (Fr.refl [] w3) (by simp) (fun b h => h.elim)⟩ ?_;intro a4 w4 ys hRy st f4;have sz4 := f4.size;obtain ⟨z, hz, hth, hr⟩ := st.cs;have hzl4 : z.length = Ty.sizes tys := hr.length;have hN4 := st.sz;refine wT fun K4 hK4 => ?_;refine wC (wp_loadSt hX (b := w2.heap.size) (o := 0) (cs := z) (by omega) (by rw [eTm, st.gv]) hz ?_);rw [wCo];have tha4 : w4.there w1.heap.size 0 z.length := by rw [hzl4, ← hzl]; exact f4.there (fb.there tha)
  refine wp_storeSt hX (b := w1.heap.size) (o := 0) (cs := z) (by omega) (by rw [eTm, gR, st.ge]) (by rw [eTm, gQ]) (reps_cells hr) tha4 ?_;rw [pNo, wNi];have f5 := Fr.sets w1.heap.size z w4 0;have r5 := World.rangeAt_setCells_same w4 w1.heap.size 0 z tha4;generalize w4.setCells w1.heap.size 0 z = w5 at f5 r5 ⊢;have sz5 := f5.size;refine hK4 _ w5 (wp_ret ?_);refine ⟨by simp only [dPu]; exact st.df, _, results_st hres hX (by omega) (by rw [gR, st.ge]) r5, z, ys, rfl, hRy, ?_, hzl4, ?_⟩
  · refine (f03.trans f4 (by intro r hr; simp at hr; subst hr; exact .inl (by simp only; omega))).trans f5 (by intro r hr; simp at hr; subst hr; exact .inl (by simp only; omega))
  refine hr.kept f5 ?_ ?_
  · intro r hr' hA; simp at hr'; subst hr'
    rcases hA with hA | hA
    · have := hB _ hA; simp only at this; omega
    simp only at hA; omega
  rintro b (hb | hb)
  · exact .inl hb
  exact .inr ⟨by omega, by omega⟩
section
variable {ver : Int} {fl : Bool} {ts : List T} {i : Nat} {fr to nul tag df of : Int} {sub : List Fd} {t x : T} {k : Nat}
theorem fwm_uuid (h : x = fitN k (.mk 7 fr to nul tag df of sub) ver t) : apUuid (.s (uuidW x.s)) = fieldW (.mk 7 fr to nul tag df of sub) ver fl t := by
  have hs : (fitN k (.mk 7 fr to nul tag df of sub) ver t).s = t.s := by cases k <;> simp [fitN, fitK, Fd.kind, T.s]
  rw [h, hs, fieldW_eq, show Fd.kind (.mk 7 fr to nul tag df of sub) = 7 from rfl];simp [fieldV, valueW, apUuid, V.octs]
theorem fwm_st {gs : List (V → List UInt8)} {R : T → List V → Prop} {y : V} (h : x = fitN (k + 1) (.mk 10 fr to nul tag df of sub) ver t) (hn : nul < 0) (hy : ∃ ys, y = .l ys ∧ R x ys)
    (hp : ∀ (x : T) ys, x.l = fitL (fitN k) sub ver t.l 0 → x.us = unksW sub t → R x ys → apSt gs (.l ys) = partW sub ver fl t) : apSt gs y = fieldW (.mk 10 fr to nul tag df of sub) ver fl t := by
  obtain ⟨ys, rfl, hr⟩ := hy;rw [fieldW_eq, show Fd.kind (.mk 10 fr to nul tag df of sub) = 10 from rfl, show Fd.sub (.mk 10 fr to nul tag df of sub) = sub from rfl, show Fd.nul (.mk 10 fr to nul tag df of sub) = nul from rfl];have : ∀ o, fieldV 10 nul o (partW sub ver fl) ver fl t = partW sub ver fl t := fun o => by
    have : ¬ nul ≥ 0 := by omega
    simp [fieldV, valueW, this]
  rw [this];exact hp x ys (by rw [h]; simp [fitN, fitK, Fd.kind, Fd.sub, T.l]) (by rw [h]; simp [fitN, fitK, Fd.kind, Fd.sub, T.us, T.u]) hr
variable {gS : Int → T → T} {t0 : T} {y : V}
theorem fwm_elstr {s : T → List UInt8} (hy : y = .s (fitK gS (fun _ t => t) (oneF (.mk 11 fr to nul tag df 8 sub)) ver t0).s) : (if fl then apCStr y else apStr y) = valueW 8 s false fl t0 := by
  subst hy;have hs : (fitK gS (fun _ t => t) (oneF (.mk 11 fr to nul tag df 8 sub)) ver t0).s = wholeS t0.s := by simp [fitK, oneF, Fd.kind, Fd.of, T.s]
  rw [hs]
  cases fl <;> simp [valueW, countedW, apCStr, apStr, V.octs]
theorem fwm_eli32 {s : T → List UInt8} (hy : y = .n (IntKind.i32.wrap (fitK gS (fun _ t => t) (oneF (.mk 11 fr to nul tag df 3 sub)) ver t0).n)) : apInt 4 y = valueW 3 s false fl t0 := by
  subst hy;have hs : (fitK gS (fun _ t => t) (oneF (.mk 11 fr to nul tag df 3 sub)) ver t0).n = t0.n := by simp [fitK, oneF, Fd.kind, Fd.of, T.n]
  rw [hs];simp only [apInt, fixedW_w32];simp [valueW, widthW]
end
end Go.Kq
