/- A reading function from its head on. -/
import Derived.Test.YtjeplgghcebfjaaDoorKqRun
import Derived.Lib.Hide
namespace Go.Kq
open Go Go.Proofs

/-- The source: octets in a block, or nil. -/
def Src (w : World) (sb : Nat) (v : Value) (xs : List UInt8) (nl : Bool) : Prop :=
  (nl = true ∧ xs = [] ∧ v = .slice none 0 0) ∨ (nl = false ∧ ∃ o cap, v = .slice (some ⟨sb, o, none⟩) xs.length cap ∧ (xs.length ≤ cap ∧ xs.length ≤ 4294967296) ∧ w.rangeAt sb o (octets xs))
theorem Src.kept {w w' : World} {sb : Nat} {v : Value} {xs : List UInt8} {nl : Bool} {l : List Rng} (h : Src w sb v xs nl) (hf : Fr l w w') (hl : ∀ r ∈ l, r.b ≠ sb) : Src w' sb v xs nl := by
  rcases h with h | ⟨h, o, cap, h1, h2, h3⟩
  · exact .inl h
  · exact .inr ⟨h, o, cap, h1, h2, hf.range h3 (fun r hr => .inl (hl r hr))⟩
theorem Src.oneCell {w : World} {sb : Nat} {v : Value} {xs : List UInt8} {nl : Bool} (h : Src w sb v xs nl) : v.oneCell' = true := by
  rcases h with ⟨_, _, rfl⟩ | ⟨_, _, _, rfl, _⟩ <;> rfl
theorem Src.reader {w : World} {sb rb : Nat} {v : Value} {xs : List UInt8} {nl : Bool} (h : Src w sb v xs nl) (hr : w.rangeAt rb 0 [v, .bool false]) (ht : w.there rb 0 2) (hn : rb ≠ sb) : RW w rb sb ⟨xs, nl, false⟩ :=
  ⟨hn, ht, v, hr, h⟩

/-- What a reading function gives. 'kept': the version is not read out of the source. -/
structure ReadM (P : Program) (ge : Nat) (f : FuncId) (tys : List Ty) (ds : List V) (fl : Int → Bool) (g : Rd) : Prop where
  enters : Enters P f
  call : ∀ w pb sb ver uns srcv xs nl er, w.there pb 0 (1 + Ty.sizes tys) → -32768 ≤ ver → ver ≤ 32767 → w.cell? ⟨pb, 0, none⟩ = some (.int .i16 ver) → (∃ z, w.rangeAt pb 1 z ∧ Reps w NoFoot tys z ds) → Src w sb srcv xs nl →
    w.cell? ⟨ge, 0, none⟩ = some er → ge ≠ pb → pb ≠ sb → sb < w.heap.size →
    Calls P f #[.pointer (some ⟨pb, 0, none⟩), srcv, .bool uns] w fun e w' => Fr [⟨pb, 0, 1 + Ty.sizes tys⟩] w w' ∧
      match g ver (fl ver) ⟨xs, nl, false⟩ with
      | none => e = .returned er
      | some (x, st') => if st'.bad then e = .returned er else e = .returned .nilIface ∧ w'.cell? ⟨pb, 0, none⟩ = some (.int .i16 ver) ∧ ∃ ys z, x = .l ys ∧ w'.rangeAt pb 1 z ∧ Reps w' (Foot sb w.heap.size w'.heap.size) tys z ys

theorem results_one {P : Program} {fn : Func} {t : Nat} {a : Act} {w : World} (h : fn.results = #[.tmp t]) : (results fn a.tmps).run P w = .ok (get a t) w := by
  simp [results, h, get]

theorem get_args {args : Array Value} {n t : Nat} {d : List Deferred} {v : Value} (h : args[t]? = some v) : get { tmps := args ++ Array.replicate n undef, defers := d } t = v := by
  have hl : t < args.size := (Array.getElem?_eq_some_iff.1 h).1
  simp only [get, Array.getD_eq_getD_getElem?]
  rw [Array.getElem?_append_left hl, h]; rfl

theorem then_up {Q : Exit → Act → World → Prop} {c : Code} {P : Program} {a : Act} {w : World} (h : c.wp P Q a w) : c.wp P (Exit.then (Q .normal) Q) a w :=
  wp_mono h fun e _ _ h => by cases e <;> exact h

/-- From the version's slot on. -/
def Bdy (P : Program) (ge N tb tv tr : Nat) (c : Code) (tys : List Ty) (ds : List V) (fl : Int → Bool) (g : Rd) : Prop :=
  ∀ (e : Env) (pb : Nat) (Q : Exit → Act → World → Prop) (a : Act) (w : World) (st : RSt),
    a.tmps.size = N → a.defers = [] → get a tb = .pointer (some ⟨e.rb, 0, none⟩) → get a 0 = .pointer (some ⟨pb, 0, none⟩) → get a 2 = .bool e.uns → get a tv = .int .i16 e.ver → e.flex = fl e.ver →
    Mem e pb 0 ge w st → w.there pb 1 (Ty.sizes tys) → (∃ z, w.rangeAt pb 1 z ∧ Reps w NoFoot tys z ds) →
    (∀ a' w' xs st', g e.ver (fl e.ver) st = some (.l xs, st') → a'.tmps.size = N → a'.defers = [] → get a' tr = (if st'.bad then e.er else .nilIface) → Fr [⟨e.rb, 0, 2⟩, ⟨pb, 1, 1 + Ty.sizes tys⟩] w w' →
      (∃ z, w'.rangeAt pb 1 z ∧ Reps w' (Foot e.sb w.heap.size w'.heap.size) tys z xs) → Q .ret a' w') →
    (g e.ver (fl e.ver) st = none → ∀ a' w', a'.tmps.size = N → a'.defers = [] → get a' tr = e.er → Fr [⟨e.rb, 0, 2⟩, ⟨pb, 1, 1 + Ty.sizes tys⟩] w w' → Q .ret a' w') →
    c.wp P Q a w

theorem bdy_s {P : Program} {ge N tb tv tr ts n i : Nat} {tf : Option Nat} {c : Code} {tys : List Ty} {ds : List V} {g : Rd} {e : Env} {pb : Nat} {Q : Exit → Act → World → Prop} {a : Act} {w : World} {st : RSt}
    {t1 t2 : TypeId} {p1 p2 : String} {e1 e2 : Array Edge} (h : Run P ge ⟨N, tb, ts, tv, tf, 2, tr⟩ c 1 tys ds g)
    (hb : (decide (n < N) && decide (ts < N) && decide (2 < ts) && decide (tb < ts) && decide (tv < ts) && (match tf with | some u => decide (u < ts) | none => true) && decide (ts ≤ n)) = true)
    (hN : a.tmps.size = N) (hd : a.defers = []) (hgb : get a tb = .pointer (some ⟨e.rb, 0, none⟩)) (hg0 : get a 0 = .pointer (some ⟨pb, 0, none⟩)) (hg2 : get a 2 = .bool e.uns) (hgv : get a tv = .int .i16 e.ver)
    (hgf : ∀ u, tf = some u → get a u = .bool e.flex) (hm : Mem e pb 0 ge w st) (ht : w.there pb 1 (Ty.sizes tys)) (hz : ∃ z, w.rangeAt pb 1 z ∧ Reps w NoFoot tys z ds)
    (hk : ∀ a' w' xs st', g e.ver e.flex st = some (.l xs, st') → a'.tmps.size = N → a'.defers = [] → get a' tr = (if st'.bad then e.er else .nilIface) → Fr [⟨e.rb, 0, 2⟩, ⟨pb, 1, 1 + Ty.sizes tys⟩] w w' →
      (∃ z, w'.rangeAt pb 1 z ∧ Reps w' (Foot e.sb w.heap.size w'.heap.size) tys z xs) → Q .ret a' w')
    (hq : g e.ver e.flex st = none → ∀ a' w', a'.tmps.size = N → a'.defers = [] → get a' tr = e.er → Fr [⟨e.rb, 0, 2⟩, ⟨pb, 1, 1 + Ty.sizes tys⟩] w w' → Q .ret a' w') :
    (Code.seq (Code.region i ⟨[⟨some n, .move (.tmp 0), t1, p1, e1, none⟩, ⟨some ts, .assign (.tmp n), t2, p2, e2, none⟩]⟩ false) c).wp P Q a w := by
  simp only [Bool.and_eq_true, decide_eq_true_eq] at hb
  obtain ⟨⟨⟨⟨⟨⟨b1, b2⟩, b3⟩, b4⟩, b5⟩, b6⟩, b7⟩ := hb
  refine then_id (wp_seq_k fun K1 hK1 => ?_)
  refine r_copy (m := ts) (by omega) (by omega) b7 (Nat.le_refl _) fun a1 k1 g1 => hK1 a1 w (then_up ?_)
  have hs : Slots ⟨N, tb, ts, tv, tf, 2, tr⟩ e pb 0 a1 := by
    refine ⟨k1.size.trans hN, k1.defers.trans hd, (k1.get _ b4).trans hgb, g1.trans hg0, (k1.get _ b5).trans hgv, fun u hu => ?_, (k1.get _ b3).trans hg2⟩
    subst hu
    simp only [decide_eq_true_eq] at b6
    exact (k1.get _ b6).trans (hgf u rfl)
  refine h e pb 0 Q a1 w st hs hm (by rw [Nat.zero_add]; exact ht) (by rw [Nat.zero_add]; exact hz) ?_ ?_
  · simp only [Nat.zero_add]
    exact hk
  · simp only [Nat.zero_add]
    exact hq

theorem bdy_nf {P : Program} {ge N tb tv tr ts n n' i i' : Nat} {c : Code} {tys : List Ty} {ds : List V} {g : Rd}
    {t0 t1 t2 : TypeId} {p0 p1 p2 : String} {e0 e1 e2 : Array Edge} {flx : Bool} (h : Run P ge ⟨N, tb, ts, tv, none, 2, tr⟩ c 1 tys ds g)
    (hb : (decide (n < N) && decide (ts < N) && decide (2 < ts) && decide (tb < ts) && decide (tv < ts) && decide (ts ≤ n) && decide (n' < N) && decide (ts ≤ n')) = true) :
    Bdy P ge N tb tv tr (.seq (Code.region i' ⟨[⟨some n', .move (.tmp tv), t0, p0, e0, none⟩]⟩ false)
      (.seq (Code.region i ⟨[⟨some n, .move (.tmp 0), t1, p1, e1, none⟩, ⟨some ts, .assign (.tmp n), t2, p2, e2, none⟩]⟩ false) c)) tys ds (fun _ => flx) g := by
  intro e pb Q a w st hN hd hgb hg0 hg2 hgv hfl hm ht hz hk hq
  simp only [Bool.and_eq_true, decide_eq_true_eq] at hb
  obtain ⟨⟨⟨⟨⟨⟨⟨b1, b2⟩, b3⟩, b4⟩, b5⟩, b6⟩, b7⟩, b8⟩ := hb
  refine then_id (wp_seq_k fun K1 hK1 => ?_)
  refine r_look (m := ts) (by omega) b8 fun a1 k1 _ => hK1 a1 w (then_up ?_)
  rw [← hfl] at hk hq
  exact bdy_s h (by simp only [Bool.and_eq_true, decide_eq_true_eq]; exact ⟨⟨⟨⟨⟨⟨b1, b2⟩, b3⟩, b4⟩, b5⟩, trivial⟩, b6⟩) (k1.size.trans hN) (k1.defers.trans hd) ((k1.get _ b4).trans hgb) ((k1.get _ (by omega)).trans hg0) ((k1.get _ b3).trans hg2)
    ((k1.get _ b5).trans hgv) (fun u hu => by cases hu) hm ht hz hk hq

theorem bdy_fl {P : Program} {ge N tb tv tr ts tf n n1 n2 n3 i i0 i1 i2 : Nat} {c : Code} {tys : List Ty} {ds : List V} {g : Rd} {j : Int} {T U : TypeId}
    {t0 t1 t2 t3 t4 t5 t6 : TypeId} {p0 p1 p2 p3 p4 p5 p6 : String} {e0 e1 e2 e3 e4 e5 e6 : Array Edge} (h : Run P ge ⟨N, tb, ts, tv, some tf, 2, tr⟩ c 1 tys ds g)
    (hb : (decide (n < N) && decide (ts < N) && decide (2 < tf) && decide (tb < tf) && decide (tv < tf) && decide (tf < ts) && decide (ts ≤ n) && decide (n1 < N) && decide (ts ≤ n1) && decide (n2 + 1 < N) && decide (ts ≤ n2) && decide (n3 < N) && decide (ts ≤ n3)) = true) :
    Bdy P ge N tb tv tr (.seq (Code.region i0 ⟨[⟨some n1, .move (.tmp tv), t0, p0, e0, none⟩]⟩ false)
      (.seq (Code.region i1 ⟨[⟨some n2, .move (.tmp tv), t1, p1, e1, none⟩, ⟨some (n2 + 1), .binOp .geq T (.tmp n2) (.const (.int .i16 j)) U, t2, p2, e2, none⟩, ⟨some tf, .assign (.tmp (n2 + 1)), t3, p3, e3, none⟩]⟩ false)
      (.seq (Code.region i2 ⟨[⟨some n3, .move (.tmp tf), t4, p4, e4, none⟩]⟩ false)
      (.seq (Code.region i ⟨[⟨some n, .move (.tmp 0), t5, p5, e5, none⟩, ⟨some ts, .assign (.tmp n), t6, p6, e6, none⟩]⟩ false) c)))) tys ds (fun v => decide (v ≥ j)) g := by
  intro e pb Q a w st hN hd hgb hg0 hg2 hgv hfl hm ht hz hk hq
  simp only [Bool.and_eq_true, decide_eq_true_eq] at hb
  obtain ⟨⟨⟨⟨⟨⟨⟨⟨⟨⟨⟨⟨b1, b2⟩, b3⟩, b4⟩, b5⟩, b6⟩, b7⟩, b8⟩, b9⟩, b10⟩, b11⟩, b12⟩, b13⟩ := hb
  refine then_id (wp_seq_k fun K1 hK1 => ?_)
  refine r_look (m := ts) (by omega) b9 fun a1 k1 _ => hK1 a1 w (then_up ?_)
  refine then_id (wp_seq_k fun K2 hK2 => ?_)
  have hv1 : get a1 tv = .int .i16 e.ver := (k1.get _ (by omega)).trans hgv
  refine wp_reg ?_
  rw [wpl_cons, wp_move, eval_tmp, hv1, wpl_cons]
  have hs1 := k1.size
  refine wp_geq (k1 := .i16) (i := e.ver) (j := j) (by rw [eval_tmp, get_put_same (by omega)]) rfl ?_
  rw [wpl_cons, wp_assign, eval_tmp, get_put_same (by simp only [size_put]; omega)]
  generalize ha2 : ((a1.put (some n2) (Value.int .i16 e.ver)).put (some (n2 + 1)) (.bool (decide (e.ver ≥ j)))).put (some tf) (.bool (decide (e.ver ≥ j))) = a2
  have k2 : Kept tf a1 a2 := by subst ha2; exact ((Kept.put0 (by omega) _).put (by omega) _).put (Nat.le_refl _) _
  have g2 : get a2 tf = .bool (decide (e.ver ≥ j)) := by subst ha2; exact get_put_same (by simp only [size_put]; omega)
  have hs2 := k2.size
  refine hK2 a2 w (then_up ?_)
  refine then_id (wp_seq_k fun K3 hK3 => ?_)
  refine r_look (m := ts) (by omega) b13 fun a3 k3 _ => hK3 a3 w (then_up ?_)
  have g2 : get a2 tf = .bool e.flex := by rw [hfl]; exact g2
  rw [← hfl] at hk hq
  have kk : Kept tf a a3 := ((k1.mono (by omega)).trans k2).trans (k3.mono (by omega))
  exact bdy_s h (by simp only [Bool.and_eq_true, decide_eq_true_eq]; exact ⟨⟨⟨⟨⟨⟨b1, b2⟩, by omega⟩, by omega⟩, by omega⟩, b6⟩, b7⟩) (kk.size.trans hN) (kk.defers.trans hd) ((kk.get _ b4).trans hgb) ((kk.get _ (by omega)).trans hg0) ((kk.get _ b3).trans hg2)
    ((kk.get _ b5).trans hgv) (fun u hu => by cases hu; exact (k3.get _ b6).trans g2) hm ht hz hk hq

/-- A message's reading function: the version stands in the struct. -/
theorem root {P : Program} {ge : Nat} {f fd : FuncId} {fn : Func} {N tb tv tr : Nat} {cv : Code} {tys : List Ty} {ds : List V} {g : Rd} {d : List V → List V} {fl : Int → Bool}
    {n1 n2 n3 i0 i1 i2 i3 : Nat} {TR S Tv : Nat} {kv : Nat} {x0 : Value} {ats : Array TypeId}
    {t0 t1 t2 t3 t4 t5 t6 t7 t8 t9 t10 t11 : TypeId} {p0 p1 p2 p3 p4 p5 p6 p7 p8 p9 p10 p11 : String} {e0 e1 e2 e3 e4 e5 e6 e7 e8 e9 e10 e11 : Array Edge}
    (hf : P.funcs[f]? = some fn) (hname : (fn.name == "runtime.NumGoroutine") = false) (hres : fn.results = #[.tmp tr]) (hN : fn.ntmps = N)
    (hbody : fn.body = some (.seq (Code.region i0 ⟨[⟨some tr, .assign (.const x0), t0, p0, e0, none⟩]⟩ false)
      (.seq (Code.region i1 ⟨[⟨some n1, .move (.tmp 0), t1, p1, e1, none⟩, ⟨some (n1 + 1), .call ⟨.value (.func fd), #[.tmp n1], ats⟩, t2, p2, e2, none⟩]⟩ false)
      (.seq (Code.region i2 ⟨[⟨some n2, .move (.tmp 1), t3, p3, e3, none⟩, ⟨some (n2 + 1), .build TR #[(0, .tmp n2)], t4, p4, e4, none⟩, ⟨some tb, .alloc TR, t5, p5, e5, none⟩, ⟨none, .store TR (.tmp tb) (.tmp (n2 + 1)), t6, p6, e6, none⟩]⟩ false)
      (.seq (Code.region i3 ⟨[⟨some n3, .move (.tmp 0), t7, p7, e7, none⟩, ⟨some (n3 + 1), .nilCheck (.tmp n3), t8, p8, e8, none⟩, ⟨some (n3 + 2), .fieldAddr S (.tmp (n3 + 1)) kv, t9, p9, e9, none⟩, ⟨some (n3 + 3), .load Tv (.tmp (n3 + 2)), t10, p10, e10, none⟩, ⟨some tv, .assign (.tmp (n3 + 3)), t11, p11, e11, none⟩]⟩ false)
        cv)))))
    (hcv : Bdy P ge N tb tv tr cv tys ds fl g) (hd : DefM P fd (.int .i16 :: tys) d) (hdd : ∀ v, d (v :: ds) = v :: ds) (hTR : readerTy P TR) (hTv : scal P Tv = true) (hS : fieldOf P S kv 0 = true)
    (hgl : ∀ ver f s y s', g ver f s = some (y, s') → ∃ ys, y = .l ys)
    (hb : (decide (2 < tr) && decide (tr < tb) && decide (tb < tv) && decide (tv < n1) && decide (tv < n2) && decide (tv < n3) && decide (n1 + 1 < N) && decide (n2 + 1 < N) && decide (n3 + 3 < N)) = true) :
    ReadM P ge f tys ds fl g := by
  simp only [Bool.and_eq_true, decide_eq_true_eq] at hb
  obtain ⟨⟨⟨⟨⟨⟨⟨⟨b1, b2⟩, b3⟩, b4⟩, b5⟩, b6⟩, b7⟩, b8⟩, b9⟩ := hb
  refine ⟨enters_of hf hname hbody, ?_⟩
  intro w pb sb ver uns srcv xs nl er ht hv1 hv2 hver hz hsrc her hgp hps hsl
  refine calls_of_wp hf hbody ?_
  generalize ha0 : ({ tmps := #[Value.pointer (some ⟨pb, 0, none⟩), srcv, Value.bool uns] ++ Array.replicate (fn.ntmps - #[Value.pointer (some ⟨pb, 0, none⟩), srcv, Value.bool uns].size) undef, defers := [] } : Act) = a0
  have hsz : a0.tmps.size = N := by subst ha0; simp [hN]; omega
  have hd0 : a0.defers = [] := by subst ha0; rfl
  have q0 : get a0 0 = .pointer (some ⟨pb, 0, none⟩) := by subst ha0; exact get_args rfl
  have q1 : get a0 1 = srcv := by subst ha0; exact get_args rfl
  have q2 : get a0 2 = .bool uns := by subst ha0; exact get_args rfl
  clear ha0
  refine then_id (wp_seq_k fun K1 hK1 => ?_)
  refine r_const (m := 3) (by omega) (by omega) fun a1 k1 _ => hK1 a1 w (then_up ?_)
  have hs1 := k1.size
  refine then_id (wp_seq_k fun K2 hK2 => ?_)
  obtain ⟨z, hz1, hz2⟩ := hz
  have hzl := hz2.length
  have hzr : w.rangeAt pb 0 (.int .i16 ver :: z) := by rw [range_cons]; exact ⟨hver, by rw [Nat.zero_add]; exact hz1⟩
  have hzz : Reps w NoFoot (.int .i16 :: tys) (.int .i16 ver :: z) (.n ver :: ds) := ⟨[.int .i16 ver], z, .n ver, ds, rfl, rfl, ⟨ver, rfl, rfl, by simpa [IntKind.min, IntKind.signed, IntKind.bits] using hv1, by simpa [IntKind.max, IntKind.signed, IntKind.bits] using hv2⟩, hz2⟩
  have hlen : (Value.int .i16 ver :: z).length = 1 + Ty.sizes tys := by simp [hzl]; omega
  refine r_do (m := 3) (R := fun w' => (∃ z', w'.rangeAt pb 0 z' ∧ Reps w' NoFoot (.int .i16 :: tys) z' (d (.n ver :: ds))) ∧ Fr [⟨pb, 0, 1 + Ty.sizes tys⟩] w w') hd.enters ((k1.get _ (by omega)).trans q0)
    ((hd.call w pb 0 _ _ NoFoot hzr (by rw [hlen]; exact ht) hzz).mono (by rintro e' w' ⟨x, h1, h2, h3⟩; refine ⟨x, h1, h2, ?_⟩; rw [hlen, Nat.zero_add] at h3; exact h3)) (by omega) (by omega) ?_
  rintro a2 w2 ⟨⟨z2, hz3, hz4⟩, f2⟩ k2
  refine hK2 a2 w2 (then_up ?_)
  have hs2 := k2.size
  rw [hdd] at hz4
  obtain ⟨c1, c2, x1, r1, rfl, hx1, ⟨iv, rfl, hiv, _, _⟩, hr2⟩ := hz4
  simp at hx1
  obtain ⟨rfl, rfl⟩ := hx1
  simp at hiv
  subst hiv
  rw [List.singleton_append, range_cons, Nat.zero_add] at hz3
  refine then_id (wp_seq_k fun K3 hK3 => ?_)
  have hsrc2 := hsrc.kept f2 (by intro r hr; simp at hr; subst hr; exact hps)
  have kk2 := k1.trans k2
  refine r_reader (m := 3) hTR ((kk2.get _ (by omega)).trans q1) hsrc2.oneCell (by omega) (by omega) (by omega) (by omega) ?_
  intro a3 w3 rb k3 g3 hrb hrb2 f3 hrr htr
  refine hK3 a3 w3 (then_up ?_)
  have hs3 := k3.size
  have kk3 := kk2.trans k3
  have hpbw : pb < w.heap.size := there_lt ht (by omega)
  have hgew := lt_of_cell her
  have f2s := f2.size
  have f3s := f3.size
  have f23 : Fr [⟨pb, 0, 1 + Ty.sizes tys⟩] w w3 := f2.tr (Fr.nil f3)
  have ver3 : w3.cell? ⟨pb, 0, none⟩ = some (.int .i16 ver) := f3.cell hz3.1 .nil
  refine then_id (wp_seq_k fun K4 hK4 => ?_)
  refine r_load (m := tv) (pb := pb) (po := 0) ((kk3.get _ (by omega)).trans q0) hTv hS ver3 (by omega) (by omega) (by omega) (by omega) (Nat.le_refl _) fun a4 k4 g4 => hK4 a4 w3 (then_up ?_)
  have hs4 := k4.size
  have hrw : RW w3 rb sb ⟨xs, nl, false⟩ := (hsrc2.kept f3 (by simp)).reader hrr htr (by omega)
  have er3 : w3.cell? ⟨ge, 0, none⟩ = some er := f3.cell (f2.cell her (.cons (.inl (fun h => hgp h.symm)) .nil)) .nil
  have hm : Mem ⟨rb, sb, ver, fl ver, uns, er⟩ pb 0 ge w3 ⟨xs, nl, false⟩ := ⟨hrw, er3, hgp, by simp only; omega, by simp only; omega, hps, by simp only; omega⟩
  have fall : ∀ w4, Fr [⟨rb, 0, 2⟩, ⟨pb, 1, 1 + Ty.sizes tys⟩] w3 w4 → Fr [⟨pb, 0, 1 + Ty.sizes tys⟩] w w4 := by
    intro w4 h4
    refine f23.trans h4 ?_
    intro r hr
    simp at hr
    rcases hr with rfl | rfl
    · exact .inl (by simp only; omega)
    · exact .inr ⟨⟨pb, 0, 1 + Ty.sizes tys⟩, by simp, rfl, by simp, by simp⟩
  refine hcv ⟨rb, sb, ver, fl ver, uns, er⟩ pb _ a4 w3 ⟨xs, nl, false⟩ (by rw [k4.size, k3.size, k2.size, k1.size, hsz]) (by rw [k4.defers, k3.defers, k2.defers, k1.defers, hd0]) ((k4.get _ b3).trans g3)
    ((k4.get _ (by omega)).trans ((kk3.get _ (by omega)).trans q0)) ((k4.get _ (by omega)).trans ((kk3.get _ (by omega)).trans q2)) g4 rfl hm ((f23.there (there_part ht (by omega) (by omega)))) ⟨c2, f3.range hz3.2 .nil, Reps.kept f3 (by simp) (fun _ h => h) hr2⟩ ?_ ?_
  · intro a5 w5 ys st' hg hN5 hd5 hr5 hfr ⟨z5, hz5, hr6⟩
    refine ⟨hd5, _, results_one hres, ?_⟩
    refine ⟨fall w5 hfr, ?_⟩
    simp only [hg]
    cases hbd : st'.bad with
    | true =>
      rw [hbd] at hr5
      simp only [if_true]
      rw [hr5]
      rfl
    | false =>
      rw [hbd] at hr5
      simp only [Bool.false_eq_true, if_false]
      refine ⟨by rw [hr5]; rfl, hfr.cell ver3 (.cons (.inl (by simp only; omega)) (.cons (.inr (.inl (by simp))) .nil)), ys, z5, rfl, hz5, ?_⟩
      exact Reps.kept (Fr.refl [] w5) (by simp) (fun b hb => hb.mono (by omega) (Nat.le_refl _)) hr6
  · intro hg a5 w5 hN5 hd5 hr5 hfr
    refine ⟨hd5, _, results_one hres, ?_⟩
    refine ⟨fall w5 hfr, ?_⟩
    simp only [hg]
    rw [hr5]

end Go.Kq
