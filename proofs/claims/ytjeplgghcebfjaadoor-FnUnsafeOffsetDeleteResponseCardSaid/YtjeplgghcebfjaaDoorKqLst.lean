/- A field that is a list: its whole text. -/
import Derived.Test.YtjeplgghcebfjaaDoorKqArr
namespace Go.Kq
open Go Go.Proofs

/-- What Default does to a struct: numbers are set. -/
structure DefM (P : Program) (f : FuncId) (tys : List Ty) (d : List V → List V) : Prop where
  enters : Enters P f
  call : ∀ w b o z xs A, w.rangeAt b o z → w.there b o z.length → Reps w A tys z xs → Calls P f #[.pointer (some ⟨b, o, none⟩)] w fun e w' =>
    ∃ x, e = .returned x ∧ (∃ z', w'.rangeAt b o z' ∧ Reps w' A tys z' (d xs)) ∧ Fr [⟨b, o, o + z.length⟩] w w'

/-- An element that is a struct. -/
theorem elt_st {P : Program} {ge : Nat} {cx : Cx} {m m' sa si sv ss n1 n2 n3 i1 i2 i3 : Nat} {fd : FuncId} {c : Code} {zs : List Value} {tys : List Ty} {z0 : List V} {d : List V → List V} {f : Rd} {ats : Array TypeId}
    {t1 t2 t3 t4 t5 t6 t7 t8 : TypeId} {p1 p2 p3 p4 p5 p6 p7 p8 : String} {e1 e2 e3 e4 e5 e6 e7 e8 : Array Edge} {T et bs : Nat}
    (h : Fld P ge { cx with ts := ss } m' c 0 (.st tys) (.l (d z0)) f) (hd : DefM P fd tys d) (hz : ∀ w, Reps w NoFoot tys zs z0)
    (hT : sliceOf P T et (Ty.st tys).size bs = true)
    (hb : (decide (m ≤ sv) && decide (m ≤ ss) && decide (sa < m) && decide (si < m) && decide (sv < ss) && decide (ss < m') && decide (m' ≤ n1) && decide (m' ≤ n2) && decide (m' ≤ n3) && decide (n1 + 2 < cx.N) && decide (n2 + 1 < cx.N) && decide (n3 < cx.N) && cx.below m && decide (m' ≤ cx.N)) = true) :
    Elt P ge cx m (.seq (Code.region i1 ⟨[⟨some n1, .move (.tmp sa), t1, p1, e1, none⟩, ⟨some (n1 + 1), .move (.tmp si), t2, p2, e2, none⟩, ⟨some (n1 + 2), .indexAddr T (.tmp n1) (.tmp (n1 + 1)), t3, p3, e3, none⟩, ⟨some sv, .assign (.tmp (n1 + 2)), t4, p4, e4, none⟩]⟩ false)
      (.seq (Code.region i2 ⟨[⟨some n2, .move (.tmp sv), t5, p5, e5, none⟩, ⟨some (n2 + 1), .call ⟨.value (.func fd), #[.tmp n2], ats⟩, t6, p6, e6, none⟩]⟩ false)
      (.seq (Code.region i3 ⟨[⟨some n3, .move (.tmp sv), t7, p7, e7, none⟩, ⟨some ss, .assign (.tmp n3), t8, p8, e8, none⟩]⟩ false) c))) sa si zs (.st tys) f := by
  intro e pb po K Q a w st ba bo len cap i hs hm hmb hsa hsi hi ht hzs hk hq
  simp only [Bool.and_eq_true, decide_eq_true_eq] at hb
  obtain ⟨⟨⟨⟨⟨⟨⟨⟨⟨⟨⟨⟨⟨b1, b2⟩, b3⟩, b4⟩, b5⟩, b6⟩, b7⟩, b8⟩, b9⟩, b10⟩, b11⟩, b12⟩, b13⟩, b14⟩ := hb
  have hN := hs.size
  have hbl := Cx.below_spec b13
  generalize hq0 : bo + i * (Ty.st tys).size = q0 at *
  refine wp_seq_k fun K1 hK1 => ?_
  refine r_elem (m := m) (k := .i32) (i := i) hT hsa hsi (by omega) (by omega) (by omega) (by omega) (by omega) b1 (by omega) fun a1 k1 g1 => hK1 a1 w ?_
  have g1 : get a1 sv = .pointer (some ⟨ba, q0, none⟩) := by rw [g1, ← hq0]; simp
  have s1 := hs.kept b13 k1
  have hN1 := s1.size
  have hz0 := hz w
  have hzl : zs.length = (Ty.st tys).size := by have := hz0.length; simpa [Ty.size] using this
  rw [← hzl] at ht
  refine wp_seq_k fun K2 hK2 => ?_
  refine r_do (m := m') (R := fun w' => (∃ z', w'.rangeAt ba q0 z' ∧ Reps w' NoFoot tys z' (d z0)) ∧ Fr [⟨ba, q0, q0 + zs.length⟩] w w') hd.enters g1
    ((hd.call w ba q0 zs z0 NoFoot hzs ht hz0).mono (by rintro e' w' ⟨x, h1, h2, h3⟩; exact ⟨x, h1, h2, h3⟩)) (by omega) b8 ?_
  rintro a2 w2 ⟨⟨z', hz1, hz2⟩, f2⟩ k2
  refine hK2 a2 w2 ?_
  have s2 := s1.kept b13 (k2.mono (by omega))
  have hN2 := s2.size
  refine wp_seq_k fun K3 hK3 => ?_
  refine r_copy (m := ss) (by omega) (by omega) (by omega) (Nat.le_refl _) fun a3 k3 g3 => hK3 a3 w2 ?_
  have s3 := s2.kept b13 (k3.mono b2)
  have g3 : get a3 ss = .pointer (some ⟨ba, q0, none⟩) := by rw [g3, k2.get sv (by omega), g1]
  have rw2 : RW w2 e.rb e.sb st := hmb.rw.kept f2 (by intro r hr; simp at hr; subst hr; exact ⟨hmb.pr, hmb.ps⟩)
  have m3 : Mem e ba q0 ge w2 st := ⟨rw2, f2.cell hmb.er (.cons (.inl (fun h => hmb.gp h.symm)) .nil), hmb.gp, hmb.gr, hmb.pr, hmb.ps, Nat.lt_of_lt_of_le hmb.sl f2.size⟩
  have sc : Slots { cx with ts := ss } e ba q0 a3 := ⟨s3.size, s3.defers, s3.b, g3, s3.v, s3.f, s3.u⟩
  have hkk : Kept m a a3 := (k1.trans (k2.mono (by omega))).trans (k3.mono b2)
  refine h e ba q0 K Q a3 w2 st sc m3 ?_ ⟨z', hz1, d z0, rfl, hz2⟩ ?_ ?_
  · rw [← hzl]; exact f2.there ht
  · rintro a4 w4 x st' hf k4 hrw hfr ⟨z4, hz4, hr4⟩
    simp only [Nat.add_zero] at hfr hz4
    have hF : Fr [⟨e.rb, 0, 2⟩, ⟨ba, q0, q0 + (Ty.st tys).size⟩] w w4 := by
      refine (f2.mono (l' := [⟨e.rb, 0, 2⟩, ⟨ba, q0, q0 + (Ty.st tys).size⟩]) ?_).tr hfr
      intro r hr; simp at hr; subst hr
      exact .inr ⟨⟨ba, q0, q0 + (Ty.st tys).size⟩, by simp, rfl, by simp, by simp [hzl]⟩
    refine hk a4 w4 x st' hf (hkk.trans (k4.mono (by omega))) hrw hF ⟨z4, hz4, Rep.kept (Fr.refl [] w4) (by simp) (fun b hb => hb.mono f2.size (Nat.le_refl _)) hr4⟩
  · intro hf a4 w4 hN4 hd4 hr4 hfr
    simp only [Nat.add_zero] at hfr
    refine hq hf a4 w4 hN4 hd4 hr4 ?_
    refine (f2.mono (l' := [⟨e.rb, 0, 2⟩, ⟨ba, q0, q0 + (Ty.st tys).size⟩]) ?_).tr hfr
    intro r hr; simp at hr; subst hr
    exact .inr ⟨⟨ba, q0, q0 + (Ty.st tys).size⟩, by simp, rfl, by simp, by simp [hzl]⟩

/-- 'a[i] = v' -/
theorem r_setElem {P : Program} {a : Act} {w : World} {K : Act → World → Prop} {Q : Exit → Act → World → Prop} {id n s u v m : Nat} {t1 t2 t3 t4 t5 : TypeId} {p1 p2 p3 p4 p5 : String} {e1 e2 e3 e4 e5 : Array Edge} {T et bs S : Nat} {b o len cap : Nat} {k : IntKind} {i : Int} {x : Value}
    (hT : sliceOf P T et 1 bs = true) (hS : scal P S = true) (hs : get a s = .slice (some ⟨b, o, none⟩) len cap) (hu : get a u = .int k i) (hv : get a v = x) (h1 : x.oneCell' = true) (h0 : 0 ≤ i) (hi : i < len)
    (ht : w.there b (o + i.toNat) 1) (hn : n + 3 < a.tmps.size) (hm : m ≤ n) (hun : u < n) (hvn : v < n)
    (hk : ∀ a', Kept m a a' → K a' (w.setCell ⟨b, o + i.toNat, none⟩ x)) :
    (Code.region id ⟨[⟨some n, .move (.tmp s), t1, p1, e1, none⟩, ⟨some (n + 1), .move (.tmp u), t2, p2, e2, none⟩, ⟨some (n + 2), .move (.tmp v), t3, p3, e3, none⟩, ⟨some (n + 3), .indexAddr T (.tmp n) (.tmp (n + 1)), t4, p4, e4, none⟩,
      ⟨none, .store S (.tmp (n + 3)) (.tmp (n + 2)), t5, p5, e5, none⟩]⟩ false).wp P (Exit.then K Q) a w := by
  refine wp_reg ?_
  rw [wpl_cons, wp_move, eval_tmp, hs, wpl_cons, wp_move, eval_tmp, get_put_ne (by omega), hu, wpl_cons, wp_move, eval_tmp, get_put_ne (by omega), get_put_ne (by omega), hv]
  generalize ha1 : ((a.put (some n) (Value.slice (some ⟨b, o, none⟩) len cap)).put (some (n + 1)) (.int k i)).put (some (n + 2)) x = a1
  have hk1 : Kept m a a1 := by subst ha1; exact ((Kept.put0 hm _).put (by omega) _).put (by omega) _
  have g1 : get a1 n = .slice (some ⟨b, o, none⟩) len cap := by subst ha1; rw [get_put_ne (by omega), get_put_ne (by omega), get_put_same (by omega)]
  have g2 : get a1 (n + 1) = .int k i := by subst ha1; rw [get_put_ne (by omega), get_put_same (by simp only [size_put]; omega)]
  have g3 : get a1 (n + 2) = x := by subst ha1; rw [get_put_same (by simp only [size_put]; omega)]
  have hz := hk1.size
  rw [wpl_cons]
  refine wp_indexAddr (k1 := k) (i := i) hT g1 g2 h0 hi ?_
  rw [wpl_cons]
  rw [Nat.mul_one]
  refine wp_store (v := x) hS (get_put_same (by omega)) (by rw [eval_tmp, get_put_ne (by omega), g3]) h1 ht ?_
  exact hk _ (hk1.put (by omega) _)

/-- An element of one cell. -/
theorem elt_one {P : Program} {ge : Nat} {cx : Cx} {m m' sa si sv n i1 : Nat} {c : Code} {zs : List Value} {ty : Ty} {g : Int → Bool → RSt → V × RSt} {t1 t2 t3 t4 t5 : TypeId} {p1 p2 p3 p4 p5 : String} {e1 e2 e3 e4 e5 : Array Edge} {T et bs S : Nat}
    (h : Asg P ge cx m' c sv ty g) (hT : sliceOf P T et 1 bs = true) (hS : scal P S = true) (ho : ty.one = true)
    (hb : (decide (m ≤ m') && decide (sa < m') && decide (si < m') && decide (sv < n) && decide (m' ≤ n) && decide (n + 3 < cx.N) && cx.below m') = true) :
    Elt P ge cx m (.seq c (Code.region i1 ⟨[⟨some n, .move (.tmp sa), t1, p1, e1, none⟩, ⟨some (n + 1), .move (.tmp si), t2, p2, e2, none⟩, ⟨some (n + 2), .move (.tmp sv), t3, p3, e3, none⟩, ⟨some (n + 3), .indexAddr T (.tmp n) (.tmp (n + 1)), t4, p4, e4, none⟩,
      ⟨none, .store S (.tmp (n + 3)) (.tmp (n + 2)), t5, p5, e5, none⟩]⟩ false)) sa si zs ty (rdOne g) := by
  intro e pb po K Q a w st ba bo len cap i hs hm hmb hsa hsi hi ht hzs hk hq
  simp only [Bool.and_eq_true, decide_eq_true_eq] at hb
  obtain ⟨⟨⟨⟨⟨⟨b1, b2⟩, b3⟩, b4⟩, b5⟩, b6⟩, b7⟩ := hb
  have h1 := Ty.one_size ho
  simp only [h1, Nat.mul_one] at *
  refine wp_seq_k fun K1 hK1 => ?_
  refine h e pb po K1 _ a w st hs hm ?_
  intro a1 w1 x k1 hg hr hrw hfr
  refine hK1 a1 w1 ?_
  have s1 := hs.kept b7 k1
  have hN1 := s1.size
  have ht1 := hfr.there ht
  have hbw : ba < w.heap.size := there_lt ht (by omega)
  refine r_setElem (m := m) (k := .i32) (i := i) hT hS ((k1.get sa b2).trans hsa) ((k1.get si b3).trans hsi) hg (hr.oneCell ho) (by omega) (by omega) (by simpa using ht1) (by omega) (by omega) (by omega) b4 ?_
  intro a2 k2
  rw [Int.toNat_natCast]
  have f2 := Fr.set w1 ba (bo + i) x
  have f3 : Fr [⟨e.rb, 0, 2⟩, ⟨ba, bo + i, bo + i + 1⟩] w (w1.setCell ⟨ba, bo + i, none⟩ x) := by
    refine (hfr.mono (l' := [⟨e.rb, 0, 2⟩, ⟨ba, bo + i, bo + i + 1⟩]) ?_).trans f2 ?_
    · intro r hr; simp at hr; subst hr; exact .inr ⟨_, by simp, rfl, by simp, by simp⟩
    · intro r hr; simp at hr; subst hr; exact .inr ⟨⟨ba, bo + i, bo + i + 1⟩, by simp, rfl, by simp, by simp⟩
  refine hk a2 _ _ _ rfl ((k1.mono b1).trans k2) (hrw.kept f2 (by intro r hr; simp at hr; subst hr; exact ⟨hmb.pr, hmb.ps⟩)) f3 ⟨[x], range_one.2 (range_set ht1), ?_⟩
  refine hr.kept f2 (l := [⟨ba, bo + i, bo + i + 1⟩]) ?_ (fun b hb => hb.mono (Nat.le_refl _) f2.size)
  intro r hr hF
  simp at hr
  subst hr
  rcases hF with hF | ⟨hF, _⟩
  · exact hmb.ps hF
  · simp at hF; omega

/-- An element's slot is declared ahead: 'var v T'. -/
theorem elt_var {P : Program} {ge : Nat} {cx : Cx} {m sa si sv i1 : Nat} {x : Value} {t1 : TypeId} {p1 : String} {e1 : Array Edge} {c : Code} {zs : List Value} {ty : Ty} {f : Rd}
    (h : Elt P ge cx m c sa si zs ty f) (hb : (decide (m ≤ sv) && decide (sv < cx.N) && decide (sa < m) && decide (si < m) && cx.below m) = true) :
    Elt P ge cx m (.seq (Code.region i1 ⟨[⟨some sv, .assign (.const x), t1, p1, e1, none⟩]⟩ false) c) sa si zs ty f := by
  intro e pb po K Q a w st ba bo len cap i hs hm hmb hsa hsi hi ht hzs hk hq
  simp only [Bool.and_eq_true, decide_eq_true_eq] at hb
  obtain ⟨⟨⟨⟨b1, b2⟩, b3⟩, b4⟩, b5⟩ := hb
  have hN := hs.size
  refine wp_seq_k fun K1 hK1 => ?_
  refine r_const (m := m) (by omega) b1 fun a1 k1 _ => hK1 a1 w ?_
  exact h e pb po K Q a1 w st ba bo len cap i (hs.kept b5 k1) hm hmb ((k1.get _ b3).trans hsa) ((k1.get _ b4).trans hsi) hi ht hzs (fun a' w' x st' hf k2 => hk a' w' x st' hf (k1.trans k2)) hq


def rdArr (len : Int → Bool → RSt → V × RSt) (f : Rd) : Rd := fun ver fl st =>
  match len ver fl st with
  | (.n l, s) => if s.bad then none else if 0 < l then (match rdMany f ver fl l.toNat s with
    | none => none
    | some (xs, s) => some (.l xs, s)) else some (.nil, s)
  | _ => none

/-- The reader has gone bad: 'if !b.Ok() { return b.Complete() }' -/
theorem r_okOrOut {P : Program} {ge : Nat} {cx : Cx} {fo fc : FuncId} {m n n' i1 i2 : Nat} {T : TypeId} {t1 t2 t3 t4 : TypeId} {p1 p2 p3 p4 : String} {e1 e2 e3 e4 : Array Edge} {a1 a2 : Array TypeId}
    (ho : OkM P fo) (hc : CompleteM P ge fc) {e : Env} {pb po : Nat} {K : Act → World → Prop} {Q : Exit → Act → World → Prop} {a : Act} {w : World} {st : RSt}
    (hs : Slots cx e pb po a) (hm : Mem e pb po ge w st) (hn : n + 1 < cx.N) (hn' : n' < cx.N) (hmn : m ≤ n) (hb : cx.below m = true)
    (hk : st.bad = false → ∀ a', Kept m a a' → K a' w) (hq : st.bad = true → ∀ a', a'.tmps.size = cx.N → a'.defers = [] → get a' cx.tr = e.er → Q .ret a' w) :
    (Code.seq (Code.region i1 ⟨[⟨some n, .call ⟨.value (.func fo), #[.tmp cx.tb], a1⟩, t1, p1, e1, none⟩, ⟨some (n + 1), .unOp .not T (.tmp n), t2, p2, e2, none⟩]⟩ false)
      (.cond (.tmp (n + 1)) (.seq (Code.region i2 ⟨[⟨some n', .call ⟨.value (.func fc), #[.tmp cx.tb], a2⟩, t3, p3, e3, none⟩, ⟨some cx.tr, .assign (.tmp n'), t4, p4, e4, none⟩]⟩ false) .ret) .skip)).wp P (Exit.then K Q) a w := by
  have hN := hs.size
  have hbl := Cx.below_spec hb
  refine wp_seq_k fun K1 hK1 => ?_
  refine r_callNot (m := m) ho.enters hs.b (ho.call w e.rb e.sb st hm.rw) (by omega) hmn fun a1 k1 g1 => hK1 a1 w ?_
  rw [Bool.not_not] at g1
  have s1 := hs.kept hb k1
  have hN1 := s1.size
  refine wp_cond_split (t := st.bad) (by rw [eval_tmp, g1]) ?_ ?_
  · intro hbad
    refine wp_seq_k fun K2 hK2 => ?_
    refine r_call (m := 0) (R := fun x w' => x = e.er ∧ w' = w) hc.enters s1.b ((hc.call w e.rb e.sb st e.er hm.rw hm.er).mono (by rintro e' w' ⟨h1, h2⟩; exact ⟨_, h1, by rw [hbad]; rfl, h2⟩)) (by omega) (by omega) (by omega) (by omega) ?_
    rintro a2 x w' ⟨rfl, rfl⟩ k2 g2
    refine hK2 a2 w' (wp_ret ?_)
    exact hq hbad a2 (by rw [k2.size, hN1]) (by rw [k2.defers, s1.defers]) g2
  · intro hbad
    exact wp_skip (hk hbad a1 k1)

theorem fld_arr {P : Program} {ge : Nat} {cx : Cx} {fo fc : FuncId} {m m' sv sa sl si nl nc nk nr ns ng na n n' nb nt o k S Tl T it e0 bs : Nat} {i1 i2 i3 i5 i6 i7 i8 i9 i10 i11 i12 i13 i14 id id1 : Nat} {cl c : Code} {zs : List Value} {et : Ty} {len : Int → Bool → RSt → V × RSt} {f : Rd}
    {t1 t2 t3 t4 t5 t6 t7 t8 t9 t10 t11 t12 t13 t14 t15 t16 t17 t18 t19 t20 t21 t22 t23 t25 t26 t27 t28 t29 t30 t31 t32 t33 t34 t35 t36 t37 t38 t39 t40 t41 t42 t43 : TypeId}
    {p1 p2 p3 p4 p5 p6 p7 p8 p9 p11 p12 p13 p14 p15 p16 p18 p21 p22 p23 p24 p25 p26 p27 p28 p31 p32 p35 p36 p37 p38 p39 p40 p41 p42 p43 : String}
    {e1 e2 e3 e4 e5 e6 e7 e8 e9 e11 e12 e13 e14 e15 e16 e18 e21 e22 e23 e24 e25 e26 e27 e28 e31 e32 e35 e36 e37 e38 e39 e40 e41 e42 e43 : Array Edge} {x0 : Value} {a1 a2 : Array TypeId}
    (ho : OkM P fo) (hc : CompleteM P ge fc) (hlen : Asg P ge cx sl cl sl (.int .i32) len) (h : Elt P ge cx m' c sa si zs et f)
    (hT : sliceOf P T e0 et.size bs = true) (hbs : bs ≤ 65536) (hTl : scal P Tl = true) (hF : fieldOf P S k o = true) (hit : intOf P it .i32 = true) (hz : zeroIs P e0 zs) (hzl : zs.length = et.size) (htt : t17 = T)
    (hb : (decide (m ≤ sv) && decide (sv < sa) && decide (sa < sl) && decide (sl < si) && decide (si < m') && decide (m' ≤ nl) && decide (nl + 3 < cx.N) && decide (m' ≤ nc) && decide (nc < cx.N) && decide (m' ≤ nk) && decide (nk + 1 < cx.N) && decide (m' ≤ nr) && decide (nr < cx.N) &&
      decide (m' ≤ ns) && decide (ns + 1 < cx.N) && decide (m' ≤ ng) && decide (ng + 1 < cx.N) && decide (m' ≤ na) && decide (na + 2 < cx.N) && decide (m' ≤ n) && decide (n + 2 < cx.N) && decide (m' ≤ n') && decide (n' + 1 < cx.N) && decide (m' ≤ nb) && decide (nb < cx.N) && decide (m' ≤ nt) && decide (nt + 3 < cx.N) && cx.below m && decide (m' ≤ cx.N)) = true) :
    Fld P ge cx m
      (.seq (Code.region i1 ⟨[⟨some nl, .move (.tmp cx.ts), t1, p1, e1, none⟩, ⟨some (nl + 1), .nilCheck (.tmp nl), t2, p2, e2, none⟩, ⟨some (nl + 2), .fieldAddr S (.tmp (nl + 1)) k, t3, p3, e3, none⟩, ⟨some (nl + 3), .load Tl (.tmp (nl + 2)), t4, p4, e4, none⟩, ⟨some sv, .assign (.tmp (nl + 3)), t5, p5, e5, none⟩]⟩ false)
      (.seq (Code.region i2 ⟨[⟨some nc, .move (.tmp sv), t6, p6, e6, none⟩, ⟨some sa, .assign (.tmp nc), t7, p7, e7, none⟩]⟩ false)
      (.seq (Code.region i3 ⟨[⟨some sl, .assign (.const x0), t8, p8, e8, none⟩]⟩ false)
      (.seq cl
      (.seq (.seq (Code.region i5 ⟨[⟨some nk, .call ⟨.value (.func fo), #[.tmp cx.tb], a1⟩, t9, p9, e9, none⟩, ⟨some (nk + 1), .unOp .not t10 (.tmp nk), t11, p11, e11, none⟩]⟩ false)
        (.cond (.tmp (nk + 1)) (.seq (Code.region i6 ⟨[⟨some nr, .call ⟨.value (.func fc), #[.tmp cx.tb], a2⟩, t12, p12, e12, none⟩, ⟨some cx.tr, .assign (.tmp nr), t13, p13, e13, none⟩]⟩ false) .ret) .skip))
      (.seq (Code.region i7 ⟨[⟨some ns, .move (.tmp sa), t14, p14, e14, none⟩, ⟨some (ns + 1), .slice T (.tmp ns) none (some (.const (.int .i64 0))) none, t15, p15, e15, none⟩, ⟨some sa, .assign (.tmp (ns + 1)), t16, p16, e16, none⟩]⟩ false)
      (.seq (.seq (Code.region i8 ⟨[⟨some ng, .move (.tmp sl), t18, p18, e18, none⟩, ⟨some (ng + 1), .binOp .gtr t19 (.tmp ng) (.const (.int .i32 0)) t20, t21, p21, e21, none⟩]⟩ false)
        (.cond (.tmp (ng + 1)) (Code.region i9 ⟨[⟨some na, .move (.tmp sa), t22, p22, e22, none⟩, ⟨some (na + 1), .move (.tmp sl), t23, p23, e23, none⟩, ⟨some (na + 2), .call ⟨.builtin .append, #[.tmp na, .tmp (na + 1)], #[T, it]⟩, t17, p24, e24, none⟩, ⟨some sa, .assign (.tmp (na + 2)), t25, p25, e25, none⟩]⟩ false) .skip))
      (.seq (Code.seq (Code.region i10 ⟨[⟨some si, .assign (.const (.int .i32 0)), t26, p26, e26, none⟩]⟩ false)
        (.block id (.loop (.seq (.seq (Code.region i11 ⟨[⟨some n, .move (.tmp si), t27, p27, e27, none⟩, ⟨some (n + 1), .move (.tmp sl), t28, p28, e28, none⟩, ⟨some (n + 2), .binOp .lss t29 (.tmp n) (.tmp (n + 1)) t30, t31, p31, e31, none⟩]⟩ false)
          (.cond (.tmp (n + 2)) .skip (.exit id)))
          (.seq (.block id1 c) (Code.region i12 ⟨[⟨some n', .move (.tmp si), t32, p32, e32, none⟩, ⟨some (n' + 1), .binOp .add t33 (.tmp n') (.const (.int .i32 1)) t34, t35, p35, e35, none⟩, ⟨some si, .assign (.tmp (n' + 1)), t36, p36, e36, none⟩]⟩ false))))))
      (.seq (Code.region i13 ⟨[⟨some nb, .move (.tmp sa), t37, p37, e37, none⟩, ⟨some sv, .assign (.tmp nb), t38, p38, e38, none⟩]⟩ false)
        (Code.region i14 ⟨[⟨some nt, .move (.tmp cx.ts), t39, p39, e39, none⟩, ⟨some (nt + 1), .move (.tmp sv), t40, p40, e40, none⟩, ⟨some (nt + 2), .nilCheck (.tmp nt), t41, p41, e41, none⟩, ⟨some (nt + 3), .fieldAddr S (.tmp (nt + 2)) k, t42, p42, e42, none⟩, ⟨none, .store Tl (.tmp (nt + 3)) (.tmp (nt + 1)), t43, p43, e43, none⟩]⟩ false))))))))))
      o (.arr et) .nil (rdArr len f) := by
  subst htt
  intro e pb po K Q a w st hs hm ht hzr hk hq
  simp only [Bool.and_eq_true, decide_eq_true_eq] at hb
  obtain ⟨⟨⟨⟨⟨⟨⟨⟨⟨⟨⟨⟨⟨⟨⟨⟨⟨⟨⟨⟨⟨⟨⟨⟨⟨⟨⟨⟨b1, b2⟩, b3⟩, b4⟩, b5⟩, b6⟩, b7⟩, b8⟩, b9⟩, b10⟩, b11⟩, b12⟩, b13⟩, b14⟩, b15⟩, b16⟩, b17⟩, b18⟩, b19⟩, b20⟩, b21⟩, b22⟩, b23⟩, b24⟩, b25⟩, b26⟩, b27⟩, b28⟩, b29⟩ := hb
  have hN := hs.size
  have hbl := Cx.below_spec b28
  have hlow : ∀ x, m ≤ x → x ≤ m' → cx.below x = true := by
    intro x h1 h2
    obtain ⟨g1, g2, g3, g4, g5, g6, g7⟩ := hbl
    simp only [Cx.below, Bool.and_eq_true, decide_eq_true_eq]
    refine ⟨⟨⟨⟨⟨⟨by omega, by omega⟩, by omega⟩, ?_⟩, by omega⟩, by omega⟩, by omega⟩
    cases hf : cx.tf with
    | none => rfl
    | some u => have := g4 u hf; simp; omega
  have hsz1 : (Ty.arr et).size = 1 := rfl
  simp only [hsz1] at ht hk hq
  have hpb : pb < w.heap.size := there_lt ht (by omega)
  obtain ⟨z, hz1, hz2⟩ := hzr
  have hcell : w.cell? ⟨pb, po + o, none⟩ = some (.slice none 0 0) := by
    rcases hz2 with ⟨rfl, _⟩ | ⟨_, _, _, _, _, _, _, h4, _⟩
    · exact range_one.1 hz1
    · exact absurd h4 (by simp)
  -- v := s.F
  refine wp_seq_k fun K1 hK1 => ?_
  refine r_load (m := sv) hs.s hTl hF hcell (by omega) (by omega) (by omega) (by omega) (Nat.le_refl _) fun a1 k1 g1 => hK1 a1 w ?_
  have s1 := hs.kept (hlow sv (by omega) (by omega)) k1
  have hN1 := s1.size
  -- a := v
  refine wp_seq_k fun K2 hK2 => ?_
  refine r_copy (m := sa) (by omega) (by omega) (by omega) (Nat.le_refl _) fun a2 k2 g2 => hK2 a2 w ?_
  rw [g1] at g2
  have s2 := s1.kept (hlow sa (by omega) (by omega)) k2
  have hN2 := s2.size
  -- var l
  refine wp_seq_k fun K3 hK3 => ?_
  refine r_const (m := sl) (by omega) (Nat.le_refl _) fun a3 k3 _ => hK3 a3 w ?_
  have s3 := s2.kept (hlow sl (by omega) (by omega)) k3
  -- l = ..
  refine wp_seq_k fun K4 hK4 => ?_
  refine hlen e pb po K4 _ a3 w st s3 hm ?_
  intro a4 w4 xl k4 g4 hr4 rw4 f4
  refine hK4 a4 w4 ?_
  obtain ⟨l, hx, hv4, hl1, hl2⟩ := hr4
  simp at hx
  subst hx
  have s4 := s3.kept (hlow sl (by omega) (by omega)) k4
  have hN4 := s4.size
  have m4 : Mem e pb po ge w4 (len e.ver e.flex st).2 := hm.kept f4 (by simp) rw4
  have ga4 : get a4 sa = .slice none 0 0 := by rw [k4.get sa b3, k3.get sa b3, g2]
  generalize hln : len e.ver e.flex st = ln at *
  obtain ⟨lv, s⟩ := ln
  simp only at hv4 rw4 m4
  subst hv4
  have hkk4 : Kept m a a4 := (((k1.mono (by omega)).trans (k2.mono (by omega))).trans (k3.mono (by omega))).trans (k4.mono (by omega))
  have f4' : Fr [⟨e.rb, 0, 2⟩, ⟨pb, po + o, po + o + 1⟩] w w4 := f4.mono (by intro r hr; simp at hr; subst hr; exact .inr ⟨_, by simp, rfl, by simp, by simp⟩)
  -- if !b.Ok()
  refine wp_seq_k fun K5 hK5 => ?_
  refine r_okOrOut (m := m') ho hc s4 m4 (by omega) (by omega) (by omega) (hlow m' (by omega) (by omega)) ?_ ?_
  case refine_2 =>
    intro hbad a5 hN5 hd5 hr5
    exact hq (by simp [rdArr, hln, hbad]) a5 w4 hN5 hd5 hr5 f4'
  intro hbad a5 k5
  refine hK5 a5 w4 ?_
  have s5 := s4.kept (hlow m' (by omega) (by omega)) k5
  have hN5 := s5.size
  -- a = a[:0]
  refine wp_seq_k fun K6 hK6 => ?_
  refine r_slice0 (m := sa) hT ((k5.get sa (by omega)).trans ga4) (by omega) (by omega) (by omega) (Nat.le_refl _) fun a6 k6 g6 x6 => hK6 a6 w4 ?_
  have s6 := s5.kept (hlow sa (by omega) (by omega)) k6
  have hN6 := s6.size
  have gl6 : get a6 sl = .int .i32 l := by rw [x6 sl (by omega) (by omega), k5.get sl (by omega), g4]
  have hkk6 : Kept m a a6 := (hkk4.trans (k5.mono (by omega))).trans (k6.mono (by omega))
  -- if l > 0
  refine wp_seq_k fun K7 hK7 => ?_
  refine wp_seq_k fun K8 hK8 => ?_
  refine r_cmp (m := m') (op := .gtr) (r := decide (l > 0)) (by omega) (by omega) gl6 rfl fun a7 k7 g7 => hK8 a7 w4 ?_
  have s7 := s6.kept (hlow m' (by omega) (by omega)) k7
  have hN7 := s7.size
  have ga7 := (k7.get sa (by omega)).trans g6
  have gl7 := (k7.get sl (by omega)).trans gl6
  have hl32 : l ≤ 2147483647 := hl2
  -- what is done behind the list's making: the loop, and the store
  have rest : ∀ (a8 : Act) (w8 : World) (L ba cap : Nat) (slv : Value), L = l.toNat → (0 < L → slv = .slice (some ⟨ba, 0, none⟩) L cap) → (L = 0 → slv = .slice none 0 0) → L ≤ cap → Kept m a a8 → Slots cx e pb po a8 → get a8 sa = slv → get a8 sl = .int .i32 l →
      Fr [] w4 w8 → (0 < L → w4.heap.size ≤ ba ∧ ba < w8.heap.size) → (0 < L → w8.rangeAt ba 0 (zeros zs L)) → (0 < L → w8.there ba 0 (L * zs.length)) → K7 a8 w8 := by
    intro a8 w8 L ba cap slv hL hsv hsv0 hcap k8 s8 ga8 gl8 f8 hba hzr8 htr8
    refine hK7 a8 w8 ?_
    have m8 : Mem e pb po ge w8 s := m4.kept f8 (by simp) (m4.rw.kept f8 (by simp))
    have hgew : ge < w4.heap.size := lt_of_cell m4.er
    have hrbw : e.rb < w4.heap.size := lt_of_cell (range_cons.1 m4.rw.2.2.choose_spec.1).1
    refine wp_seq_k fun K9 hK9 => ?_
    refine loop_elts (m := m) (m' := m') (ws := w4) (L := L) (ba := ba) (cap := cap) (slv := slv) h ?_ (by omega) (by omega) s8 m8 hL (by omega) gl8 ga8 hsv ?_ hba ?_ ?_ (Fr.nil f8) ?_ ?_
    · simp only [Bool.and_eq_true, decide_eq_true_eq]
      exact ⟨⟨⟨⟨⟨⟨⟨⟨⟨⟨⟨by omega, by omega⟩, by omega⟩, by omega⟩, by omega⟩, by omega⟩, by omega⟩, by omega⟩, by omega⟩, by omega⟩, b28⟩, hlow m' (by omega) (by omega)⟩
    · intro h0
      refine ⟨m8.rw, m8.er, ?_, m8.gr, ?_, ?_, m8.sl⟩
      · have := hba h0; omega
      · have := hba h0; omega
      · have := hba h0; have := m4.sl; omega
    · intro h0; rw [← hzl]; exact htr8 h0
    · intro h0 i hi; rw [← hzl]; exact zeros_part (hzr8 h0) i hi
    · intro a9 w9 xs st' hmany k9 g9 rw9 f9 z9 hd9
      refine hK9 a9 w9 ?_
      have s9 := s8.kept b28 k9
      have hN9 := s9.size
      -- v = a; s.F = v
      refine wp_seq_k fun K10 hK10 => ?_
      refine r_copy (m := sv) (by omega) (by omega) (by omega) (Nat.le_refl _) fun a10 k10 g10 => hK10 a10 w9 ?_
      rw [g9] at g10
      have s10 := s9.kept (hlow sv (by omega) (by omega)) k10
      have f49 : Fr [⟨e.rb, 0, 2⟩, ⟨pb, po + o, po + o + 1⟩] w w9 := f4'.trans f9 (by intro r hr; simp at hr; subst hr; exact .inr ⟨_, by simp, rfl, by simp, by simp⟩)
      have ht9 := f49.there ht
      have h1c : slv.oneCell' = true := by
        rcases Nat.eq_zero_or_pos L with h0 | h0
        · rw [hsv0 h0]; rfl
        · rw [hsv h0]; rfl
      refine r_store (m := m) (x := slv) s10.s g10 h1c hTl hF ht9 (by omega) (by omega) (by rw [s10.size]; omega) (by omega) ?_
      intro a11 k11
      have f11 := Fr.set w9 pb (po + o) slv
      have hF11 : Fr [⟨e.rb, 0, 2⟩, ⟨pb, po + o, po + o + 1⟩] w (w9.setCell ⟨pb, po + o, none⟩ slv) := f49.trans f11 (by intro r hr; simp at hr; subst hr; exact .inr ⟨⟨pb, po + o, po + o + 1⟩, by simp, rfl, by simp, by simp⟩)
      have hrw11 : RW (w9.setCell ⟨pb, po + o, none⟩ slv) e.rb e.sb st' := rw9.kept f11 (by intro r hr; simp at hr; subst hr; exact ⟨hm.pr, hm.ps⟩)
      have hkk : Kept m a a11 := ((k8.trans k9).trans (k10.mono b1)).trans k11
      rcases Nat.eq_zero_or_pos L with h0 | h0
      · have hl0 : ¬ (0 < l) := by omega
        have hst : st' = s := by rw [h0] at hmany; simp [rdMany] at hmany; exact hmany.2.symm
        subst hst
        refine hk a11 _ .nil st' (by simp [rdArr, hln, hbad, hl0]) hkk hrw11 hF11 ⟨[slv], range_one.2 (range_set ht9), ?_⟩
        rw [hsv0 h0]
        exact .inl ⟨rfl, rfl⟩
      · have hl0 : 0 < l := by omega
        have hlen := rdMany_length _ _ _ _ _ _ _ hmany
        refine hk a11 _ (.l xs) st' ?_ hkk hrw11 hF11 ⟨[slv], range_one.2 (range_set ht9), ?_⟩
        · rw [hL] at hmany
          simp [rdArr, hln, hbad, hl0, hmany]
        · have hbah := hba h0
          have hpba : pb ≠ ba := by have := f4.size; omega
          refine .inr ⟨ba, 0, cap, xs, .inr ⟨by have := f4.size; omega, ?_⟩, by rw [hsv h0, hlen], ⟨by omega, by omega⟩, rfl, ?_⟩
          · have := f9.size
            have := f11.size
            omega
          · intro i y hy
            obtain ⟨zi, hzi, hri⟩ := hd9 i y hy
            refine ⟨zi, ?_, hri.length, ?_⟩
            · rw [Nat.zero_add]; exact f11.range hzi (.cons (.inl hpba) .nil)
            · refine Rep.kept f11 ?_ (fun b hb => hb.mono (by have := f4.size; have := f8.size; omega) f11.size) hri
              intro r hr hFt
              simp at hr; subst hr
              rcases hFt with hFt | ⟨hFt, _⟩
              · exact hm.ps hFt
              · simp at hFt; have := f4.size; have := f8.size; omega
    · intro hmany a9 w9 hN9 hd9 hr9 f9
      have hl0 : 0 < l := by
        rcases Nat.eq_zero_or_pos L with h0 | h0
        · rw [h0] at hmany; simp [rdMany] at hmany
        · omega
      refine hq ?_ a9 w9 hN9 hd9 hr9 (f4'.trans f9 (by intro r hr; simp at hr; subst hr; exact .inr ⟨_, by simp, rfl, by simp, by simp⟩))
      rw [hL] at hmany
      simp [rdArr, hln, hbad, hl0, hmany]
  refine wp_cond_split (t := decide (l > 0)) (by rw [eval_tmp, g7]) ?_ ?_
  · intro hpos
    have hpos : 0 < l := by simpa using hpos
    obtain ⟨L, rfl⟩ : ∃ L : Nat, l = L := ⟨l.toNat, by omega⟩
    have hLb : L * bs ≤ 140737488355328 := by
      have h1 : L * bs ≤ L * 65536 := Nat.mul_le_mul_left _ hbs
      omega
    refine r_appendMake (m := sa) (l := L) hT hit hz (by omega) hLb (by omega) ga7 gl7 (by omega) (by omega) (by omega) (by omega) (Nat.le_refl _) rfl ?_
    intro a8 w8 ba cap k8 g8 hcap hb1 hb2 hz8 ht8 f8 x8
    have s8 := s7.kept (hlow sa (by omega) (by omega)) k8
    exact rest a8 w8 L ba cap _ (by simp) (fun _ => rfl) (fun h0 => by omega) hcap ((hkk6.trans (k7.mono (by omega))).trans (k8.mono (by omega))) s8 g8 ((x8 sl (by omega) (by omega)).trans gl7) f8 (fun _ => ⟨hb1, hb2⟩) (fun _ => hz8) (fun _ => ht8)
  · intro hneg
    have hneg : ¬ (0 < l) := by simpa using hneg
    refine wp_skip ?_
    exact rest a7 w4 0 0 0 _ (by omega) (fun h0 => by omega) (fun _ => rfl) (Nat.le_refl _) (hkk6.trans (k7.mono (by omega))) s7 ga7 gl7 (Fr.refl _ _) (fun h0 => by omega) (fun h0 => by omega) (fun h0 => by omega)

end Go.Kq
