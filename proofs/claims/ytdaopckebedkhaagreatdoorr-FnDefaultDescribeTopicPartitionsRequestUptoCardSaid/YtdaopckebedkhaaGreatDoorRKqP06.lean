/- A part of the library: rules of reasoning about the program's operations and what its shared functions do. -/
import Derived.Test.YtdaopckebedkhaaGreatDoorRKqP05
import Derived.Test.YtdaopckebedkhaaGreatDoorRKqP03
import Derived.Test.YtdaopckebedkhaaGreatDoorRKqP02
set_option linter.unusedVariables false
set_option linter.unusedSimpArgs false
namespace Go.Kq
open Go Go.Proofs
def tPtr (g : V → T) : V → T
  | .l xs => g (.l xs)
  | _ => .mk 0 [] true [] []
theorem tellptr_m {P : Program} {f ft : FuncId} {fn : Func} {T26 T116 : TypeId} {tys : List Ty} {g : V → T} {ats : Array TypeId} {i0 i1 i2 i3 : Nat}
    {t0 t1 t2 t3 t4 t5 t6 t7 : TypeId} {p0 p1 p2 p3 p4 p5 p6 p7 : String} {e0 e1 e2 e3 e4 e5 e6 e7 : Array Edge}
    (hf : P.funcs[f]? = some fn) (hname : (fn.name == "runtime.NumGoroutine") = false) (hres : fn.results = #[.cell 2 T26]) (hN : fn.ntmps = 8)
    (hbody : fn.body = some (.seq (Code.region i0 ⟨[⟨some 2, .alloc T26, t0, p0, e0, none⟩]⟩ false) (.seq (.seq (Code.region i1 ⟨[oM 3 0 t1 p1 e1, ⟨some 4, .binOp .eql T116 (.tmp 3) (.const (.pointer none)) T116, t2, p2, e2, none⟩]⟩ false) (.cond (.tmp 4) (.seq (Code.region i2 ⟨[⟨some 5, .build T26 #[(2, .const (.bool true))], t3, p3, e3, none⟩,
    oS T26 2 5 t4 p4 e4]⟩ false) .ret) .skip)) (.seq (Code.region i3 ⟨[oM 6 0 t5 p5 e5,
    oC 7 ft #[.tmp 6] ats t6 p6 e6,
    oS T26 2 7 t7 p7 e7]⟩ false) .ret))))
    (hT : Flat P T26 zT) (h116 : ptrTy P T116 = true) (hp : (decide (0 < (Ty.st tys).size)) = true) (h : TellM P ft (.st tys) g) : FnP P f (.ptr (.st tys)) (tPtr g) := by
  refine ⟨enters_of hf hname hbody, ?_⟩;intro w B v x hx hB;have hp := of_decide_eq_true hp;obtain ⟨q, rfl⟩ : ∃ q, v = .pointer q := by
    rcases hx with ⟨h, _⟩ | ⟨b, o, s, _, h, _⟩ <;> (simp at h; exact ⟨_, h⟩)
  refine calls_of_wp hf hbody ?_;generalize ha0 : ({ tmps := #[Value.pointer q] ++ Array.replicate (fn.ntmps - #[Value.pointer q].size) undef, defers := [] } : Act) = a0;have hsz : a0.tmps.size = 8 := by subst ha0; simp [hN]
  have hd0 : a0.defers = [] := by subst ha0; rfl
  have g0 : get a0 0 = .pointer q := by subst ha0; exact gAr rfl
  refine wT fun K1 hK1 => ?_;refine wC (wp_alloc hT.zero ?_);rw [wNi];have f1 := Fr.alloc [] w (.cells (Value.agg zT.toArray).cells T26);have th1 : (w.alloc (.cells (Value.agg zT.toArray).cells T26)).there w.heap.size 0 5 := there_new w zT.toArray T26;have sz1 := size_alloc w (.cells (Value.agg zT.toArray).cells T26);generalize w.alloc (.cells (Value.agg zT.toArray).cells T26) = w1 at f1 th1 sz1 ⊢;have k1 : Kept 2 a0 (a0.put (some 2) (.pointer (some ⟨w.heap.size, 0, none⟩))) := Kept.put0 (by omega) _;have q2 : get (a0.put (some 2) (.pointer (some ⟨w.heap.size, 0, none⟩))) 2 = .pointer (some ⟨w.heap.size, 0, none⟩) := gQ;generalize a0.put (some 2) (.pointer (some ⟨w.heap.size, 0, none⟩)) = a1 at k1 q2 ⊢;have hz1 := k1.size;refine hK1 a1 w1 (tUp ?_);refine tId (wp_seq_k fun K2 hK2 => ?_);refine wS fun K3 hK3 => ?_;rw [wCo, wMw, eTm, k1.get 0 (by omega), g0, wCo];refine wp_eqlPtrNil h116 (q := q) (by rw [eTm, gQ]) ?_;rw [wNi];have k2 : Kept 3 a1 ((a1.put (some 3) (.pointer q)).put (some 4) (.bool q.isNone)) := (Kept.put0 (by omega) _).put (by omega) _;have q4 : get ((a1.put (some 3) (.pointer q)).put (some 4) (.bool q.isNone)) 4 = .bool q.isNone := gQ;generalize (a1.put (some 3) (.pointer q)).put (some 4) (.bool q.isNone) = a2 at k2 q4 ⊢;have hz2 := k2.size;have r2 : get a2 2 = .pointer (some ⟨w.heap.size, 0, none⟩) := by rw [k2.get 2 (by omega), q2]
  have hd2 : a2.defers = [] := by rw [k2.defers, k1.defers, hd0]
  refine hK3 a2 w1 ?_;refine wp_cond_split (t := q.isNone) (by rw [eTm, q4]) (fun hq => ?_) fun hq => wp_skip (hK2 a2 w1 (tUp ?_))
  · obtain rfl : q = none := by simpa using hq
    obtain rfl : x = .nil := by
      rcases hx with ⟨_, h⟩ | ⟨b, o, s, _, h, _⟩
      · exact h
      simp at h
    refine wS fun K4 hK4 => ?_;refine wC (wp_build1 hT (k := 2) (v := .bool true) (by decide) rfl rfl ?_);refine wC (wp_storeFlat hT (cs := zT.set 2 (.bool true)) (b := w.heap.size) (o := 0) rfl (by rw [eTm, gR, r2]) (by rw [eTm, gQ]) (by simp [zT, Value.oneCell']) th1 ?_);rw [pNo, wNi];have f2 := Fr.sets w.heap.size (zT.set 2 (.bool true)) w1 0;have rg := World.rangeAt_setCells_same w1 w.heap.size 0 (zT.set 2 (.bool true)) th1;generalize w1.setCells w.heap.size 0 (zT.set 2 (.bool true)) = w2 at f2 rg ⊢;have sz2 := f2.size;refine hK4 _ w2 (wp_ret ?_);refine ⟨(dZ hd2), _, results_cell hres hT (by rfl) (by rw [gR, r2]) rg, ⟨_, rfl, ?_, ?_⟩⟩
    · exact f1.trans f2 (by intro r hr; simp at hr; subst hr; exact .inl (Nat.le_refl _))
    exact RepT.nil (by omega) .nil (.inl ⟨.inl rfl, rfl⟩)
  obtain ⟨qa, rfl⟩ : ∃ qa, q = some qa := by cases q with | none => simp at hq | some qa => exact ⟨qa, rfl⟩
  obtain ⟨b, o, es, hBb, hqa, hr, hel, hrep⟩ : ∃ b o es, B b ∧ qa = ⟨b, o, none⟩ ∧ w.rangeAt b o es ∧ es.length = (Ty.st tys).size ∧ Rep w B (.st tys) es x := by
    rcases hx with ⟨h, _⟩ | ⟨b, o, s, h1, h2, h3, h4, h5⟩
    · simp at h
    simp at h2; exact ⟨b, o, s, h1, h2, h3, h4, h5⟩
  subst hqa;have hxl := hrep;obtain ⟨xs, rfl, _⟩ := hxl;refine wT fun K4 hK4 => ?_;rw [wCo, wMw, eTm, k2.get 0 (by omega), k1.get 0 (by omega), g0, wCo];refine wp_calls (R := fun v w' => ∃ cs : List Value, v = .agg cs.toArray ∧ Fr [] w1 w' ∧ RepT w' (fun b => w1.heap.size ≤ b ∧ b < w'.heap.size) cs (g (.l xs))) h.enters (vs := #[.pointer (some ⟨b, o, none⟩)])
    (by simp only [List.map_toArray, List.map_cons, List.map_nil, eTm]; rw [gQ])
    ((h.call w1 b o es (.l xs) B (f1.range hr .nil) (hrep.kept f1 (by simp) (fun _ h => h)) (fun b hb => by have := hB b hb; omega) (by have := hB b hBb; omega)).mono (by rintro e' w' ⟨cs, rfl, h1, h2⟩; exact ⟨_, rfl, cs, rfl, h1, h2⟩)) ?_
  rintro _ w2 ⟨cs, rfl, f2, hcs⟩;have sz2 := f2.size;rw [wCo];have th2 : w2.there w.heap.size 0 5 := f2.there th1;refine wp_storeFlat hT (cs := cs) (b := w.heap.size) (o := 0) (by rw [hcs.length]; rfl) (by rw [eTm, gR, gR, r2]) (by rw [eTm, gQ]) hcs.ones (by rw [hcs.length]; exact th2) ?_;rw [pNo, wNi];have f3 := Fr.sets w.heap.size cs w2 0;have rg := World.rangeAt_setCells_same w2 w.heap.size 0 cs (by rw [hcs.length]; exact th2);generalize w2.setCells w.heap.size 0 cs = w3 at f3 rg ⊢;have sz3 := f3.size;refine hK4 _ w3 (wp_ret ?_);refine ⟨(by simp only [dPu]; exact hd2), _, results_cell hres hT (by rw [hcs.length]; rfl) (by rw [gR, gR, r2]) rg, ⟨cs, rfl, ?_, ?_⟩⟩
  · exact (f1.tr f2).trans f3 (by intro r hr; simp at hr; subst hr; exact .inl (Nat.le_refl _))
  exact hcs.kept f3 (by intro r hr hF; simp at hr; subst hr; have := hF.1; simp only at this; omega) (fun b hb => ⟨by have := hb.1; omega, by have := hb.2; omega⟩)
theorem DRun.look {P : Program} {N n o k v n2 i1 i2 : Nat} {S : TypeId} {tys : List Ty} {t1 t2 t3 t4 t5 : TypeId} {p1 p2 p3 p4 p5 : String} {e1 e2 e3 e4 e5 : Array Edge}
    (hF : fieldOf P S k o = true) (hb : (decide (0 < n) && decide (n + 2 < N) && decide (0 < v) && decide (0 < n2)) = true) :
    DRun P N (.seq (Code.region i1 ⟨[oM n 0 t1 p1 e1, ⟨some (n + 1), .nilCheck (.tmp n), t2, p2, e2, none⟩, oF (n + 2) S (n + 1) k t3 p3 e3, oT v (n + 2) t4 p4 e4]⟩ false)
      (Code.region i2 ⟨[oM n2 v t5 p5 e5]⟩ false)) tys (fun xs => xs) := by
  intro Q a w b ob z xs hN hd h0 hz ht hr hk;simp only [Bool.and_eq_true, decide_eq_true_eq] at hb;obtain ⟨⟨⟨b1, b2⟩, b3⟩, b4⟩ := hb;refine wT fun K1 hK1 => ?_;rw [wCo, wMw, eTm, h0, wCo];refine wNc (q := ⟨b, ob, none⟩) (by rw [eTm, gQ]) ?_;refine wC (wFa (b := b) (i := ob) hF (by rw [eTm, gQ]) ?_);rw [wCo, wAg, wNi];refine hK1 _ w (tUp ?_);refine wp_reg ?_;rw [wCo, wMw, wNi];refine hk _ w z (by simp only [sPu]; exact hN) (by simp only [dPu]; exact hd) ?_ rfl hz ht hr (Fr.refl _ _);rw [gR, gR, gR, gR, gR, h0]
theorem DRunA.look {P : Program} {N n o k v n2 i1 i2 : Nat} {S : TypeId} {tys : List Ty} {t1 t2 t3 t4 t5 : TypeId} {p1 p2 p3 p4 p5 : String} {e1 e2 e3 e4 e5 : Array Edge}
    (hF : fieldOf P S k o = true) (hb : (decide (0 < n) && decide (n + 2 < N) && decide (0 < v) && decide (0 < n2)) = true) :
    DRunA P N (.seq (Code.region i1 ⟨[oM n 0 t1 p1 e1, ⟨some (n + 1), .nilCheck (.tmp n), t2, p2, e2, none⟩, oF (n + 2) S (n + 1) k t3 p3 e3, oT v (n + 2) t4 p4 e4]⟩ false)
      (Code.region i2 ⟨[oM n2 v t5 p5 e5]⟩ false)) tys (fun xs => xs) := by
  intro Q a w b ob z xs A hA hN hd h0 hz ht hr hk;simp only [Bool.and_eq_true, decide_eq_true_eq] at hb;obtain ⟨⟨⟨b1, b2⟩, b3⟩, b4⟩ := hb;refine wT fun K1 hK1 => ?_;rw [wCo, wMw, eTm, h0, wCo];refine wNc (q := ⟨b, ob, none⟩) (by rw [eTm, gQ]) ?_;refine wC (wFa (b := b) (i := ob) hF (by rw [eTm, gQ]) ?_);rw [wCo, wAg, wNi];refine hK1 _ w (tUp ?_);refine wp_reg ?_;rw [wCo, wMw, wNi];refine hk _ w z (by simp only [sPu]; exact hN) (by simp only [dPu]; exact hd) ?_ rfl hz ht hr (Fr.refl _ _);rw [gR, gR, gR, gR, gR, h0]
end Go.Kq

namespace Go.Kq
open Go Go.Proofs
theorem fld_ptr {P : Program} {ge : Nat} {cx : Cx} {m m' sp sv ss n0 n n1 n2 n3 n4 i0 i1 i2 i3 i4 i5 k o : Nat} {S TX TP : TypeId} {f8 fok fd : FuncId} {c : Code} {tys : List Ty} {zs : List Value} {z0 : List V} {d : List V → List V} {f : Rd} {at0 at1 at2 : Array TypeId}
    {u1 u2 u3 u4 u5 u6 u7 u8 u9 u10 u11 u12 u13 u14 u15 u16 u17 u18 u19 u20 u21 u22 u23 : TypeId} {q1 q2 q3 q4 q5 q6 q7 q8 q9 q10 q11 q12 q13 q14 q15 q16 q17 q18 q19 q20 q21 : String} {y1 y2 y3 y4 y5 y6 y7 y8 y9 y10 y11 y12 y13 y14 y15 y16 y17 y18 y19 y20 y21 : Array Edge}
    (h8 : MethV P f8 (.int .i8) gI8) (hok : OkM P fok) (h : Fld P ge { cx with ts := ss } m' c 0 (.st tys) (.l (d z0)) f) (hd : DefM P fd tys d) (hz : zeroIs P TX zs) (hzr : ∀ w, Reps w NoFoot tys zs z0) (hF : fieldOf P S k o = true) (hTP : scal P TP = true)
    (hb : (decide (m ≤ sp) && decide (m ≤ sv) && decide (m ≤ ss) && decide (sp < sv) && decide (sv < ss) && decide (ss < m') && decide (m' ≤ n0) && decide (m' ≤ n) && decide (m' ≤ n1) && decide (m' ≤ n2) && decide (m' ≤ n3) && decide (m' ≤ n4) && decide (n0 < cx.N) && decide (n + 4 < cx.N) && decide (n1 + 3 < cx.N) && decide (n2 + 3 < cx.N) && decide (n3 + 1 < cx.N) && decide (n4 < cx.N) && cx.below m && decide (m' ≤ cx.N)) = true) :
    Fld P ge cx m (.seq (Code.region i0 ⟨[⟨some n0, .call ⟨.value (.func f8), #[.tmp cx.tb], at0⟩, u1, q1, y1, none⟩, ⟨some sp, .assign (.tmp n0), u2, q2, y2, none⟩]⟩ false) (.seq (Code.region i1 ⟨[⟨some n, .move (.tmp sp), u3, q3, y3, none⟩, ⟨some (n + 1), .binOp .neq u22 (.tmp n) (.const (.int .i8 (-1))) u23, u4, q4, y4, none⟩, ⟨some (n + 2), .move (.tmp (n + 1)), u5, q5, y5, none⟩, ⟨some (n + 3), .call ⟨.value (.func fok), #[.tmp cx.tb], at1⟩, u6, q6, y6, some (2, true)⟩, ⟨some (n + 4), .pick (.tmp (n + 2)) (.tmp (n + 3)) (.const (.bool false)), u7, q7, y7, none⟩]⟩ false) (.cond (.tmp (n + 4)) (.seq (Code.region i2 ⟨[⟨some n1, .move (.tmp cx.ts), u8, q8, y8, none⟩, ⟨some (n1 + 1), .alloc TX, u9, q9, y9, none⟩, ⟨some (n1 + 2), .nilCheck (.tmp n1), u10, q10, y10, none⟩, ⟨some (n1 + 3), .fieldAddr S (.tmp (n1 + 2)) k, u11, q11, y11, none⟩, ⟨none, .store TP (.tmp (n1 + 3)) (.tmp (n1 + 1)), u12, q12, y12, none⟩]⟩ false) (.seq (Code.region i3 ⟨[⟨some n2, .move (.tmp cx.ts), u13, q13, y13, none⟩, ⟨some (n2 + 1), .nilCheck (.tmp n2), u14, q14, y14, none⟩, ⟨some (n2 + 2), .fieldAddr S (.tmp (n2 + 1)) k, u15, q15, y15, none⟩, ⟨some (n2 + 3), .load TP (.tmp (n2 + 2)), u16, q16, y16, none⟩, ⟨some sv, .assign (.tmp (n2 + 3)), u17, q17, y17, none⟩]⟩ false) (.seq (Code.region i4 ⟨[⟨some n3, .move (.tmp sv), u18, q18, y18, none⟩, ⟨some (n3 + 1), .call ⟨.value (.func fd), #[.tmp n3], at2⟩, u19, q19, y19, none⟩]⟩ false) (.seq (Code.region i5 ⟨[⟨some n4, .move (.tmp sv), u20, q20, y20, none⟩, ⟨some ss, .assign (.tmp n4), u21, q21, y21, none⟩]⟩ false) c)))) .skip))) o (.ptr (.st tys)) .nil (rdPtr f) := by
  intro e pb po K Q a w st hs hm ht hz0 hk hq;simp only [Bool.and_eq_true, decide_eq_true_eq] at hb;obtain ⟨⟨⟨⟨⟨⟨⟨⟨⟨⟨⟨⟨⟨⟨⟨⟨⟨⟨⟨b1, b2⟩, b3⟩, b4⟩, b5⟩, b6⟩, c0⟩, c1⟩, c2⟩, c3⟩, c4⟩, c5⟩, n0N⟩, nN⟩, n1N⟩, n2N⟩, n3N⟩, n4N⟩, b13⟩, b14⟩ := hb;have hN := hs.size;have hbl := Cx.below_spec b13;have hsz1 : (Ty.ptr (.st tys)).size = 1 := rfl;rw [hsz1] at ht;simp only [hsz1] at hk hq;generalize hq0 : po + o = q0 at *;have hpw : pb < w.heap.size := there_lt ht (by omega);refine wp_seq_k fun K1 hK1 => ?_;refine r_call (m := m) (R := fun x w' => Rep w' (Foot e.sb w.heap.size w'.heap.size) (.int .i8) [x] (gI8 st).1 ∧ RW w' e.rb e.sb (gI8 st).2 ∧ Fr [⟨e.rb, 0, 2⟩] w w') h8.enters hs.b (h8.call w e.rb e.sb st hm.rw) (by omega) (by omega) (by omega) b1 ?_;rintro a1 x w1 ⟨hx, hrw1, f1⟩ k1 g1;refine hK1 a1 w1 ?_;obtain ⟨i, hxi, hgi, _, _⟩ := hx;simp only [List.cons.injEq, and_true] at hxi;subst hxi;generalize hst1 : (gI8 st).2 = st1 at *;have hg8 : gI8 st = (.n i, st1) := by rw [← hst1, ← hgi]
  have s1 := hs.kept b13 k1;have hN1 := s1.size;have hrd : ∀ ver fl, rdPtr f ver fl st = if (i != -1) && !st1.bad then f ver fl st1 else some (.nil, st1) := by intro ver fl; simp only [rdPtr, hg8]
  have m1 : Mem e pb po ge w1 st1 := hm.kept f1 (by simp) hrw1;have sz1 := f1.size
  -- the condition
  refine wp_seq_k fun K2 hK2 => ?_;have hsep : ∀ a' w', Kept m a1 a' → Fr [] w1 w' → get a' (n + 4) = .bool ((i != -1) && !st1.bad) → K2 a' w' := by
    intro a2 w2 k2 f2 g2;have s2 := s1.kept b13 k2;have hN2 := s2.size;have m2 : Mem e pb po ge w2 st1 := m1.kept f2 (by simp) (m1.rw.kept f2 (by simp));have ht2 := f2.there (f1.there ht);have sz2 := f2.size;have f02 : Fr [⟨e.rb, 0, 2⟩] w w2 := f1.tr f2.nil;refine hK2 a2 w2 ?_;refine wp_cond_split (t := (i != -1) && !st1.bad) (by rw [eTm, g2]) (fun hc => ?_) fun hc => ?_
    · have hrd1 : rdPtr f e.ver e.flex st = f e.ver e.flex st1 := by rw [hrd, if_pos hc]
      rw [hrd1] at hk hq;obtain ⟨inf, zv, hinf, hzv, hzl⟩ := hz;have hzlen : zs.length = (Ty.st tys).size := by have := (hzr w2).length; simpa [Ty.size] using this
      -- s.F = new(X)
      refine wS fun K3 hK3 => ?_;rw [wCo, wMw, eTm, s2.s, wCo];refine wp_alloc ⟨inf, hinf, hzv⟩ ?_;have fa := Fr.alloc [] w2 (.cells zv.cells TX);have tha : (w2.alloc (.cells zv.cells TX)).there w2.heap.size 0 zs.length := by rw [← hzl, Array.length_toList]; exact there_new w2 zv.cells TX
      have ra : (w2.alloc (.cells zv.cells TX)).rangeAt w2.heap.size 0 zs := by rw [← hzl]; exact range_new w2 zv.cells TX _
      have sza := size_alloc w2 (.cells zv.cells TX);generalize w2.alloc (.cells zv.cells TX) = w3 at fa tha ra sza ⊢;refine wC (wNc (q := ⟨pb, po, none⟩) (by rw [eTm, gR, gQ]) ?_);refine wC (wFa (b := pb) (i := po) hF (by rw [eTm, gQ]) ?_);rw [wCo, hq0];have ht3 := fa.there ht2;refine wp_store (b := pb) (o := q0) (v := .pointer (some ⟨w2.heap.size, 0, none⟩)) hTP (by rw [eTm, gQ]) (by rw [eTm, gR, gR, gQ]) rfl ht3 ?_;rw [pNo, wNi];have f4 := Fr.set w3 pb q0 (.pointer (some ⟨w2.heap.size, 0, none⟩));have hc4 : (w3.setCell ⟨pb, q0, none⟩ (.pointer (some ⟨w2.heap.size, 0, none⟩))).cell? ⟨pb, q0, none⟩ = some (.pointer (some ⟨w2.heap.size, 0, none⟩)) := range_set ht3;generalize w3.setCell ⟨pb, q0, none⟩ (.pointer (some ⟨w2.heap.size, 0, none⟩)) = w4 at f4 hc4 ⊢;have sz4 := f4.size;have hpb2 : pb ≠ w2.heap.size := by omega
      have k3 : Kept m a2 ((((a2.put (some n1) (.pointer (some ⟨pb, po, none⟩))).put (some (n1 + 1)) (.pointer (some ⟨w2.heap.size, 0, none⟩))).put (some (n1 + 2)) (.pointer (some ⟨pb, po, none⟩))).put (some (n1 + 3)) (.pointer (some ⟨pb, q0, none⟩))) :=
        (((Kept.put0 (by omega) _).put (by omega) _).put (by omega) _).put (by omega) _
      generalize ((((a2.put (some n1) (.pointer (some ⟨pb, po, none⟩))).put (some (n1 + 1)) (.pointer (some ⟨w2.heap.size, 0, none⟩))).put (some (n1 + 2)) (.pointer (some ⟨pb, po, none⟩))).put (some (n1 + 3)) (.pointer (some ⟨pb, q0, none⟩))) = a3 at k3 ⊢;refine hK3 a3 w4 ?_;have s3 := s2.kept b13 k3;have hN3 := s3.size
      -- v := s.F
      refine wS fun K4 hK4 => ?_;rw [wCo, wMw, eTm, s3.s, wCo];refine wNc (q := ⟨pb, po, none⟩) (by rw [eTm, gQ]) ?_;refine wC (wFa (b := pb) (i := po) hF (by rw [eTm, gQ]) ?_);rw [wCo, hq0];refine wp_load hTP (by rw [eTm, gQ]) hc4 ?_;rw [wCo, wAg, eTm, gQ, wNi];have k4 : Kept m a3 (((((a3.put (some n2) (.pointer (some ⟨pb, po, none⟩))).put (some (n2 + 1)) (.pointer (some ⟨pb, po, none⟩))).put (some (n2 + 2)) (.pointer (some ⟨pb, q0, none⟩))).put (some (n2 + 3)) (.pointer (some ⟨w2.heap.size, 0, none⟩))).put (some sv) (.pointer (some ⟨w2.heap.size, 0, none⟩))) :=
        ((((Kept.put0 (by omega) _).put (by omega) _).put (by omega) _).put (by omega) _).put b2 _
      have g4 : get (((((a3.put (some n2) (.pointer (some ⟨pb, po, none⟩))).put (some (n2 + 1)) (.pointer (some ⟨pb, po, none⟩))).put (some (n2 + 2)) (.pointer (some ⟨pb, q0, none⟩))).put (some (n2 + 3)) (.pointer (some ⟨w2.heap.size, 0, none⟩))).put (some sv) (.pointer (some ⟨w2.heap.size, 0, none⟩))) sv = .pointer (some ⟨w2.heap.size, 0, none⟩) := gQ;generalize (((((a3.put (some n2) (.pointer (some ⟨pb, po, none⟩))).put (some (n2 + 1)) (.pointer (some ⟨pb, po, none⟩))).put (some (n2 + 2)) (.pointer (some ⟨pb, q0, none⟩))).put (some (n2 + 3)) (.pointer (some ⟨w2.heap.size, 0, none⟩))).put (some sv) (.pointer (some ⟨w2.heap.size, 0, none⟩))) = a4 at k4 g4 ⊢;refine hK4 a4 w4 ?_;have s4 := s3.kept b13 k4;have hN4 := s4.size
      -- v.Default()
      have r4 : w4.rangeAt w2.heap.size 0 zs := f4.range ra (.cons (.inl (fun h => hpb2 h)) .nil);have th4 : w4.there w2.heap.size 0 zs.length := f4.there tha;refine wp_seq_k fun K5 hK5 => ?_;refine r_do (m := m') (R := fun w' => (∃ z', w'.rangeAt w2.heap.size 0 z' ∧ Reps w' NoFoot tys z' (d z0)) ∧ Fr [⟨w2.heap.size, 0, 0 + zs.length⟩] w4 w') hd.enters g4
        ((hd.call w4 w2.heap.size 0 zs z0 r4 th4 (hzr w4)).mono (by rintro e' w' ⟨x, h1, h2, h3⟩; exact ⟨x, h1, h2, h3⟩)) (by omega) c4 ?_
      rintro a5 w5 ⟨⟨z', hz1, hz2⟩, f5⟩ k5;refine hK5 a5 w5 ?_;have s5 := s4.kept b13 (k5.mono (by omega));have hN5 := s5.size;have sz5 := f5.size;refine wp_seq_k fun K6 hK6 => ?_;refine r_copy (m := ss) (by omega) (by omega) (by omega) (Nat.le_refl _) fun a6 k6 g6 => hK6 a6 w5 ?_;have s6 := s5.kept b13 (k6.mono b3);have g6 : get a6 ss = .pointer (some ⟨w2.heap.size, 0, none⟩) := by rw [g6, k5.get sv (by omega), g4]
      obtain ⟨_, _, _, _, _, hrl⟩ := m2.rw.slice;have hrl := hrl.2;have hsl := m2.sl;have f24 : Fr [⟨pb, q0, q0 + 1⟩] w2 w4 := (fa.mono (by simp)).trans f4 (by intro r hr; simp at hr; subst hr; exact .inr ⟨⟨pb, q0, q0 + 1⟩, by simp, rfl, by simp, by simp⟩);have rw4 : RW w4 e.rb e.sb st1 := m2.rw.kept f24 (by intro r hr; simp at hr; subst hr; exact ⟨m2.pr, m2.ps⟩);have rw5 : RW w5 e.rb e.sb st1 := rw4.kept f5 (by intro r hr; simp at hr; subst hr; simp only; omega);have er4 := f24.cell m2.er (.cons (.inl (fun h => m2.gp h.symm)) .nil);have hge : ge < w4.heap.size := lt_of_cell er4;have hge2 : ge < w2.heap.size := lt_of_cell m2.er;have er5 := f5.cell er4 (.cons (.inl (show w2.heap.size ≠ ge by omega)) .nil);have m5 : Mem e w2.heap.size 0 ge w5 st1 := ⟨rw5, er5, by omega, m2.gr, by omega, by omega, by omega⟩;have sc : Slots { cx with ts := ss } e w2.heap.size 0 a6 := ⟨s6.size, s6.defers, s6.b, g6, s6.v, s6.f, s6.u⟩;have hkk : Kept m a a6 := ((((k1.trans k2).trans k3).trans k4).trans (k5.mono (by omega))).trans (k6.mono b3);have f05 : ∀ {w6 : World}, Fr [⟨e.rb, 0, 2⟩, ⟨w2.heap.size, 0, 0 + (Ty.st tys).size⟩] w5 w6 → Fr [⟨e.rb, 0, 2⟩, ⟨pb, q0, q0 + 1⟩] w w6 := by
        intro w6 f6;have g1 : Fr [⟨e.rb, 0, 2⟩, ⟨pb, q0, q0 + 1⟩] w w4 := (f02.mono (l' := [⟨e.rb, 0, 2⟩, ⟨pb, q0, q0 + 1⟩]) (by intro r hr; simp at hr; subst hr; exact .inr ⟨_, by simp, rfl, by simp, by simp⟩)).trans f24 (by intro r hr; simp at hr; subst hr; exact .inr ⟨⟨pb, q0, q0 + 1⟩, by simp, rfl, by simp, by simp⟩);have g2 := g1.trans f5 (by intro r hr; simp at hr; subst hr; exact .inl (by simp only; omega));exact g2.trans f6 (by
          intro r hr; simp at hr
          rcases hr with rfl | rfl
          · exact .inr ⟨_, by simp, rfl, by simp, by simp⟩
          · exact .inl (by simp only; omega))
      refine h e w2.heap.size 0 K Q a6 w5 st1 sc m5 ?_ ⟨z', hz1, d z0, rfl, hz2⟩ ?_ ?_
      · rw [← hzlen]; exact f5.there th4
      · rintro a7 w7 x st' hf k7 hrw hfr ⟨z7, hz7, hr7⟩;simp only [Nat.add_zero, Nat.zero_add] at hfr hz7;have sz7 := hfr.size;refine hk a7 w7 x st' hf (hkk.trans (k7.mono (by omega))) hrw (f05 (by simpa using hfr)) ?_;refine ⟨[.pointer (some ⟨w2.heap.size, 0, none⟩)], range_one.2 ?_, .inr ⟨w2.heap.size, 0, z7, .inr ⟨by omega, by omega⟩, rfl, hz7, ?_, Rep.kept (Fr.refl [] w7) (by simp) (fun b hb => hb.mono (by omega) (Nat.le_refl _)) hr7⟩⟩
        · refine hfr.cell (f5.cell hc4 (.cons (.inl (fun h => hpb2 h.symm)) .nil)) (.cons (.inl (fun h => m2.pr h.symm)) (.cons (.inl (fun h => hpb2 h.symm)) .nil))
        exact hr7.length
      intro hf a7 w7 hN7 hd7 hr7 hfr;simp only [Nat.add_zero, Nat.zero_add] at hfr;exact hq hf a7 w7 hN7 hd7 hr7 (f05 (by simpa using hfr))
    refine wp_skip ?_;obtain ⟨z, h1, h2⟩ := hz0;have fz : Fr [⟨e.rb, 0, 2⟩] w w2 := f02
    rcases h2 with ⟨hz, _⟩ | ⟨_, _, _, hno, _⟩
    · subst hz;refine hk a2 w2 .nil st1 (by rw [hrd, if_neg (by simp [hc])]) (k1.trans k2) m2.rw (f02.mono (by intro r hr; simp at hr; subst hr; exact .inr ⟨_, by simp, rfl, by simp, by simp⟩)) ⟨_, fz.range h1 (.cons (.inl (fun h => hm.pr h.symm)) .nil), .inl ⟨rfl, rfl⟩⟩
    exact hno.elim
  by_cases hv : i = -1
  · refine wp_seqG (os := [⟨some n, .move (.tmp sp), u3, q3, y3, none⟩, ⟨some (n + 1), .binOp .neq u22 (.tmp n) (.const (.int .i8 (-1))) u23, u4, q4, y4, none⟩, ⟨some (n + 2), .move (.tmp (n + 1)), u5, q5, y5, none⟩, ⟨some (n + 3), .call ⟨.value (.func fok), #[.tmp cx.tb], at1⟩, u6, q6, y6, some (2, true)⟩, ⟨some (n + 4), .pick (.tmp (n + 2)) (.tmp (n + 3)) (.const (.bool false)), u7, q7, y7, none⟩])
      [spC [] (.int .i8 i), spC [0] (.bool false), spC [1] (.bool false), spC [2] undef, spC [2, 3] (.bool false)] n [] rfl rfl (by simp [shape]) (by simp [spC]) (by simp; omega) ⟨lCc _ _ _, lCc _ _ _, lCc _ _ _, lCc _ _ _, lCc _ _ _, trivial⟩
      ⟨op_c fun a' w' hk' hf' hd' K' hK' => ?_, op_c fun a' w' hk' hf' hd' K' hK' => ?_, op_c fun a' w' hk' hf' hd' K' hK' => ?_, op_gn (nd := [2]) rfl (by omega) (fun _ _ hd' => hd'.c 2 (by simp [spC]) rfl), op_c fun a' w' hk' hf' hd' K' hK' => ?_, trivial⟩ ?_
    · rw [wMw, eTm, hk'.get sp (by omega), g1]; exact hK'
    · exact wp_neqF (k1 := .i8) (i := i) (j := -1) hv (by rw [eTm]; exact hd'.c 0 (by simp) rfl) rfl hK'
    · rw [wMw, eTm, hd'.c (nd' := [0]) 1 (by simp) rfl]; exact hK'
    · exact wp_pickNo (by rw [eTm]; exact hd'.c (nd' := [1]) 2 (by simp) rfl) rfl hK'
    intro a' w' hk' hf' hd';exact hsep a' w' (hk'.mono (by omega)) hf' (by rw [show ((i != -1) && !st1.bad) = false from by simp [hv]]; exact hd'.c (nd' := [2, 3]) 4 (by simp) rfl)
  refine wp_seqG (os := [⟨some n, .move (.tmp sp), u3, q3, y3, none⟩, ⟨some (n + 1), .binOp .neq u22 (.tmp n) (.const (.int .i8 (-1))) u23, u4, q4, y4, none⟩, ⟨some (n + 2), .move (.tmp (n + 1)), u5, q5, y5, none⟩, ⟨some (n + 3), .call ⟨.value (.func fok), #[.tmp cx.tb], at1⟩, u6, q6, y6, some (2, true)⟩, ⟨some (n + 4), .pick (.tmp (n + 2)) (.tmp (n + 3)) (.const (.bool false)), u7, q7, y7, none⟩])
    [spC [] (.int .i8 i), spC [0] (.bool true), spC [1] (.bool true), spC [2] (.bool (!st1.bad)), spC [2, 3] (.bool (!st1.bad))] n [] rfl rfl (by simp [shape]) (by simp [spC]) (by simp; omega) ⟨lCc _ _ _, lCc _ _ _, lCc _ _ _, lCc _ _ _, lCc _ _ _, trivial⟩
    ⟨op_c fun a' w' hk' hf' hd' K' hK' => ?_, op_c fun a' w' hk' hf' hd' K' hK' => ?_, op_c fun a' w' hk' hf' hd' K' hK' => ?_, op_gy rfl (by omega) (fun _ _ hd' => hd'.c 2 (by simp [spC]) rfl) (op_c fun a' w' hk' hf' hd' K' hK' => ?_), op_c fun a' w' hk' hf' hd' K' hK' => ?_, trivial⟩ ?_
  · rw [wMw, eTm, hk'.get sp (by omega), g1]; exact hK'
  · exact wp_neqT (k1 := .i8) (i := i) (j := -1) hv (by rw [eTm]; exact hd'.c 0 (by simp) rfl) rfl hK'
  · rw [wMw, eTm, hd'.c (nd' := [0]) 1 (by simp) rfl]; exact hK'
  · refine wp_calls (R := fun v w2 => v = .bool (!st1.bad) ∧ w2 = w') hok.enters (vs := #[.pointer (some ⟨e.rb, 0, none⟩)]) (by simp only [List.map_toArray, List.map_cons, List.map_nil, eTm]; rw [hk'.get cx.tb (by omega), s1.b])
      ((hok.call w' e.rb e.sb st1 (m1.rw.kept hf' (by simp))).mono (by rintro e' w2 ⟨rfl, rfl⟩; exact ⟨_, rfl, rfl, rfl⟩)) ?_
    rintro _ _ ⟨rfl, rfl⟩;exact hK'
  · exact wp_pickYes (by rw [eTm]; exact hd'.c (nd' := [1]) 2 (by simp) rfl) (by rw [eTm]; exact hd'.c (nd' := [2]) 3 (by simp) rfl) hK'
  intro a' w' hk' hf' hd';exact hsep a' w' (hk'.mono (by omega)) hf' (by rw [show ((i != -1) && !st1.bad) = !st1.bad from by simp [hv]]; exact hd'.c (nd' := [2, 3]) 4 (by simp) rfl)
end Go.Kq
