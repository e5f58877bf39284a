/- A whole list told: the loop. -/
import Derived.Test.YtjeplgghcebfjaaDoorKqTlT
namespace Go.Kq
open Go Go.Proofs

variable {P : Program} {TT TL S TS : TypeId} {N sv st si m n k o kf : Nat}

/-- A place whose cells say a tree. -/
theorem TM.said {w : World} {e : TEnv} {uv : Value} {ts : List Slot} {hi k : Nat} {cs : List Value} {t : T} (h : TM w e uv ts hi) (hk : k < e.n) (hy : ts[k]? = some (.raw cs)) (hr : RepT w (fun b => e.s0 ≤ b ∧ b < hi) cs t) : TM w e uv (ts.set k (.done t)) hi := by
  obtain ⟨es, h4, rfl, _⟩ := h.els k _ hy
  exact h.cells (lo := k * 5) (up := k * 5) hk (Fr.refl _ w) (Nat.le_refl _) (by omega) h4 hr

theorem set_set {α : Type} {l : List α} {k : Nat} {x y : α} : (l.set k x).set k y = l.set k y := by simp

/-- 'for i := range v.F { t.L[k].L = append(..) }' -/
theorem tl_loop {t : Ty} {g : V → T} {TB : TypeId} (hT : TreeTys P TT TL) {c1 c2 : Code} {b0 b1 r4 r5 r6 r7 r11 m2 n' : Nat}
    {t0 t1 t2 t3 t4 t5 t6 t7 t8 t9 t10 t11 t12 t13 t14 : TypeId} {p0 p1 p2 p3 p4 p5 p6 p7 p8 p9 p10 p11 p12 p13 p14 : String} {e0 e1 e2 e3 e4 e5 e6 e7 e8 e9 e10 e11 e12 e13 e14 : Array Edge} {T5 U5 T11 U11 : TypeId}
    (h1 : AppStep P N sv st si m2 c1 k o t g) (h2 : AppStep P N sv st si m2 c2 k o t g)
    (hzb : zeroOf P TB (.bool false)) (hsb : scal P TB = true)
    (hfl : (subE e9 [] && needE e10 [0] && subE e10 [0] && needE e11 [0] && subE e11 [0] && needE e12 [0, 1, 2] && subE e12 [0, 1, 2]) = true)
    (hS : fieldOf P S kf o = true) (hTS0 : sliceN P TS t.size = true) (hscl : scal P TS = true)
    (hb : (decide (sv < m) && decide (st < m) && decide (m ≤ si) && decide (si < n) && decide (m ≤ n) && decide (n + 9 < N) && decide (n + 9 < m2) && decide (m2 ≤ n') && decide (n' < N)) = true) :
    TlG P N sv st m (.seq (Code.region r4 ⟨[⟨some n, .move (.tmp sv), t0, p0, e0, none⟩, ⟨some (n + 1), .nilCheck (.tmp n), t1, p1, e1, none⟩, ⟨some (n + 2), .fieldAddr S (.tmp (n + 1)) kf, t2, p2, e2, none⟩, ⟨some (n + 3), .load TS (.tmp (n + 2)), t3, p3, e3, none⟩,
        ⟨some (n + 4), .call ⟨.builtin .len, #[.tmp (n + 3)], #[TS]⟩, t4, p4, e4, none⟩, ⟨some (n + 5), .move (.const (.int .i64 0)), t5, p5, e5, none⟩]⟩ false)
      (.block b0 (.loop (.seq (Code.region r5 ⟨[⟨some (n + 6), .binOp .lss T5 (.tmp (n + 5)) (.tmp (n + 4)) U5, t6, p6, e6, none⟩]⟩ false)
        (.seq (.cond (.tmp (n + 6)) .skip (.exit b0))
          (.seq (.block b1 (.seq (Code.region r6 ⟨[⟨some (n + 7), .move (.tmp (n + 5)), t7, p7, e7, none⟩, ⟨some si, .assign (.tmp (n + 7)), t8, p8, e8, none⟩]⟩ false)
              (.seq (Code.region r7 ⟨[⟨some (n + 8), .alloc TB, t9, p9, e9, none⟩, ⟨none, .store TB (.tmp (n + 8)) (.const (.bool true)), t10, p10, e10, none⟩, ⟨none, .store TB (.tmp (n + 8)) (.const (.bool false)), t11, p11, e11, none⟩, ⟨some (n + 9), .load TB (.tmp (n + 8)), t12, p12, e12, none⟩]⟩ true)
                (.cond (.tmp (n + 9)) c1 c2))))
            (Code.region r11 ⟨[⟨some n', .binOp .add T11 (.tmp (n + 5)) (.const (.int .i64 1)) U11, t13, p13, e13, none⟩, ⟨some (n + 5), .move (.tmp n'), t14, p14, e14, none⟩]⟩ false))))))) k o (.arr t)
      (fun x => .done (.mk 0 [] x.isNil (x.items.map g) [])) (fun x y => y = .raw (lCells x.isNil (.slice none 0 0))) := by
  rintro e K Q a w ts x _ hN hd hsv hst hm hy rfl hx hk hK
  obtain ⟨et, es, hTS⟩ := sliceN_is hTS0
  simp only [Bool.and_eq_true, decide_eq_true_eq] at hb
  obtain ⟨⟨⟨⟨⟨⟨⟨⟨q1, q2⟩, q3⟩, q4⟩, q5⟩, q6⟩, q7⟩, q8⟩, q9⟩ := hb
  obtain ⟨c, hc, hrc⟩ := hx.one rfl
  obtain ⟨q, cap, rfl, hq, hbig, _⟩ := arr_cell hrc
  refine wp_seq_k fun K1 hK1 => ?_
  refine wp_reg ?_
  rw [wpl_cons, wp_move, eval_tmp, hsv, wpl_cons]
  refine wp_nilCheck (q := ⟨e.pb, e.po, none⟩) (by rw [eval_tmp, get_put_same (by omega)]) ?_
  rw [wpl_cons]
  refine wp_fieldAddr (b := e.pb) (i := e.po) hS (by rw [eval_tmp, get_put_same (by simp only [size_put]; omega)]) ?_
  rw [wpl_cons]
  refine wp_load hscl (by rw [eval_tmp, get_put_same (by simp only [size_put]; omega)]) hc ?_
  rw [wpl_cons]
  refine wp_len (q := q) (len := x.items.length) (cap := cap) hTS (by rw [eval_tmp, get_put_same (by simp only [size_put]; omega)]) ?_
  rw [wpl_cons, wp_move, eval_const, wpl_nil]
  generalize ha1 : (((((a.put (some n) (.pointer (some ⟨e.pb, e.po, none⟩))).put (some (n + 1)) (.pointer (some ⟨e.pb, e.po, none⟩))).put (some (n + 2)) (.pointer (some ⟨e.pb, e.po + o, none⟩))).put (some (n + 3)) (.slice q x.items.length cap)).put (some (n + 4)) (.int .i64 x.items.length)).put (some (n + 5)) (.int .i64 0) = a1
  have k1 : Kept m a a1 := by subst ha1; exact (((((Kept.put0 (by omega) _).put (by omega) _).put (by omega) _).put (by omega) _).put (by omega) _).put (by omega) _
  have gl1 : get a1 (n + 4) = .int .i64 x.items.length := by subst ha1; rw [get_put_ne (by omega), get_put_same (by simp only [size_put]; omega)]
  have gi1 : get a1 (n + 5) = .int .i64 0 := by subst ha1; rw [get_put_same (by simp only [size_put]; omega)]
  have hz1 := k1.size
  clear ha1
  refine hK1 a1 w ?_
  have hs01 : e.s0 ≤ w.heap.size := hm.s0
  refine wp_block (wp_loop (fun a' w' => ∃ (j : Nat) (lv : Value), j ≤ x.items.length ∧ Kept m a a' ∧ get a' (n + 4) = .int .i64 x.items.length ∧ get a' (n + 5) = .int .i64 j ∧
      TM w' e (.slice none 0 0) (ts.set k (.raw (lCells x.isNil lv))) w.heap.size ∧ LOwn w' (From w.heap.size w') lv ((x.items.take j).map g) ∧ ∃ r : List Rng, (∀ z ∈ r, w.heap.size ≤ z.b) ∧ Fr (⟨e.lb, k * 5, k * 5 + 5⟩ :: r) w w')
    (fun a' _ => x.items.length - idxOf (get a' (n + 5))) ?_ ?_)
  · refine ⟨0, .slice none 0 0, Nat.zero_le _, k1, gl1, gi1, ?_, ?_, [], by simp, Fr.refl _ _⟩
    · obtain ⟨es, h4, h5⟩ := hm.els k _ hy
      exact hm.cells (y := .raw (lCells x.isNil (.slice none 0 0))) (lo := k * 5) (up := k * 5) hk (Fr.refl _ w) (Nat.le_refl _) (by omega) h4 h5
    · simpa using LOwn.nil
  · rintro a2 w2 ⟨j, lv, hj, k2, gl2, gi2, hm2, hlo2, r, hr, hf2⟩
    have hz2 := k2.size
    refine wp_seq_k fun K2 hK2 => ?_
    refine wp_reg ?_
    rw [wpl_cons]
    refine wp_lss (k1 := .i64) (i := j) (j := x.items.length) (by rw [eval_tmp, gi2]) (by rw [eval_tmp, gl2]) ?_
    rw [wpl_nil]
    have k3 : Kept (n + 6) a2 (a2.put (some (n + 6)) (.bool (decide ((j : Int) < x.items.length)))) := Kept.put0 (Nat.le_refl _) _
    have g6 : get (a2.put (some (n + 6)) (.bool (decide ((j : Int) < x.items.length)))) (n + 6) = .bool (decide ((j : Int) < x.items.length)) := get_put_same (by omega)
    generalize a2.put (some (n + 6)) (.bool (decide ((j : Int) < x.items.length))) = a3 at k3 g6 ⊢
    have hz3 := k3.size
    have gl3 := (k3.get (n + 4) (by omega)).trans gl2
    have gi3 := (k3.get (n + 5) (by omega)).trans gi2
    refine hK2 a3 w2 ?_
    refine wp_seq_k fun K3 hK3 => ?_
    refine wp_cond_split (t := decide ((j : Int) < x.items.length)) (by rw [eval_tmp, g6]) ?_ ?_
    · intro hlt
      have hjl : j < x.items.length := by simpa using hlt
      refine wp_skip (hK3 a3 w2 ?_)
      refine wp_seq_k fun K4 hK4 => ?_
      -- the body, by either form
      have body : ∀ (a4 : Act) (w4 : World) (Q' : Exit → Act → World → Prop) (c : Code), AppStep P N sv st si m2 c k o t g → Kept (n + 6) a3 a4 ∨ Kept si a3 a4 ∧ get a4 (n + 4) = .int .i64 x.items.length ∧ get a4 (n + 5) = .int .i64 j → a4.tmps.size = a3.tmps.size → Kept m a3 a4 → get a4 si = .int .i64 j → Fr [] w2 w4 →
          get a4 (n + 4) = .int .i64 x.items.length → get a4 (n + 5) = .int .i64 j → c.wp P (Exit.then K4 Q') a4 w4 := by
        intro a4 w4 Q' c hstep _ hz4 k4 gs4 hf4 gl4 gi4
        have hf24 : Fr (⟨e.lb, k * 5, k * 5 + 5⟩ :: r) w w4 := hf2.tr (Fr.nil hf4)
        have hle4 := hf24.size
        have hps := hm.ps
        have hlbs := hm.ls
        have hx4 : FldAt w4 e o (.arr t) x := hx.kept hf24 (by
          intro y hy
          rcases List.mem_cons.1 hy with rfl | hy
          · exact ⟨fun h => hm.pl h.symm, fun h => (hm.bs _ h).2.1 rfl⟩
          · have := hr y hy
            exact ⟨by omega, fun h => by have := (hm.bs _ h).1; omega⟩)
        have hlen : ((x.items.take j).map g).length = j := by simp; omega
        have hkl : k < ts.length := by rw [hm.len]; exact hk
        refine hstep e K4 Q' a4 w4 _ w.heap.size x.isNil lv _ x j (x.items[j]) (by omega) ((k4.get sv q1).trans ((k3.get sv (by omega)).trans ((k2.get sv q1).trans hsv)))
          ((k4.get st q2).trans ((k3.get st (by omega)).trans ((k2.get st q2).trans hst))) gs4 (hm2.kept hf4 (by simp)) (List.getElem?_set_self hkl) (hlo2.kept hf4 (by simp) (From.mono hf4.size)) hx4 (by simp [hjl]) hk (by omega) ?_
        rintro a5 w5 lv' k5 ⟨r', hr', hf5⟩ hm5 hlo5
        refine hK4 a5 w5 ?_
        have hz5 := k5.size
        refine wp_reg ?_
        rw [wpl_cons]
        refine wp_add (k1 := .i64) (i := j) (j := 1) (by rw [eval_tmp, k5.get (n + 5) (by omega), gi4]) rfl ?_
        rw [wpl_cons, wp_move, eval_tmp, get_put_same (by omega), wpl_nil]
        have hwr : IntKind.i64.wrap ((j : Int) + 1) = ((j + 1 : Nat) : Int) := by
          simp [IntKind.wrap, IntKind.bits, IntKind.signed]; omega
        rw [hwr]
        refine ⟨⟨j + 1, lv', hjl, ?_, ?_, ?_, ?_, ?_, r ++ r', ?_, ?_⟩, ?_⟩
        · exact (((k2.trans (k3.mono (by omega))).trans k4).trans (k5.mono (by omega))).trans ((Kept.put0 (by omega) _).put (by omega) _)
        · rw [get_put_ne (by omega), get_put_ne (by omega), k5.get (n + 4) (by omega), gl4]
        · rw [get_put_same (by simp only [size_put]; omega)]
        · rw [set_set] at hm5; exact hm5
        · have : (x.items.take (j + 1)).map g = (x.items.take j).map g ++ [g (x.items[j])] := by
            rw [List.take_succ_eq_append_getElem hjl, List.map_append]; rfl
          rw [this]; exact hlo5
        · intro z hz
          rcases List.mem_append.1 hz with h | h
          · exact hr z h
          · exact hr' z h
        · refine (hf24.mono (l' := ⟨e.lb, k * 5, k * 5 + 5⟩ :: (r ++ r')) ?_).trans hf5 ?_
          · intro z hz
            rcases List.mem_cons.1 hz with rfl | h
            · exact Rng.in_self (by simp)
            · exact Rng.in_self (List.mem_cons_of_mem _ (List.mem_append_left _ h))
          · intro z hz
            rcases List.mem_cons.1 hz with rfl | h
            · exact Rng.in_self (by simp)
            · exact Rng.in_self (List.mem_cons_of_mem _ (List.mem_append_right _ h))
        · rw [get_put_same (by simp only [size_put]; omega), gi2]
          simp [idxOf]; omega
      refine wp_block (wp_mono (show Code.wp P _ (Exit.then K4 (Exit.inBlock b1 (Exit.then K4 _))) a3 w2 from ?_) (fun _ _ _ => inBlock_then))
      refine wp_seq_k fun K5 hK5 => ?_
      refine wp_reg ?_
      rw [wpl_cons, wp_move, eval_tmp, gi3, wpl_cons, wp_assign, eval_tmp, get_put_same (by omega), wpl_nil]
      generalize ha4 : (a3.put (some (n + 7)) (.int .i64 j)).put (some si) (.int .i64 j) = a4
      have k4 : Kept si a3 a4 := by subst ha4; exact (Kept.put0 (by omega) _).put (Nat.le_refl _) _
      have gs4 : get a4 si = .int .i64 j := by subst ha4; exact get_put_same (by simp only [size_put]; omega)
      have gl4 : get a4 (n + 4) = .int .i64 x.items.length := by subst ha4; rw [get_put_ne (by omega), get_put_ne (by omega), gl3]
      have gi4 : get a4 (n + 5) = .int .i64 j := by subst ha4; rw [get_put_ne (by omega), get_put_ne (by omega), gi3]
      have hz4 := k4.size
      refine hK5 a4 w2 ?_
      refine wp_seq_k fun K6 hK6 => ?_
      refine r_flag (m := n + 8) hT.mixed hzb hsb hfl (by omega) (Nat.le_refl _) fun a5 w5 b k5 f5 g5 => hK6 a5 w5 ?_
      have hz5 := k5.size
      refine wp_cond_split (t := b) (by rw [eval_tmp, g5]) ?_ ?_
      · intro _
        exact body a5 w5 _ c1 h1 (.inr ⟨k4.trans (k5.mono (by omega)), (k5.get _ (by omega)).trans gl4, (k5.get _ (by omega)).trans gi4⟩) (by omega) ((k4.mono q3).trans (k5.mono (by omega))) ((k5.get _ (by omega)).trans gs4) f5 ((k5.get _ (by omega)).trans gl4) ((k5.get _ (by omega)).trans gi4)
      · intro _
        exact body a5 w5 _ c2 h2 (.inr ⟨k4.trans (k5.mono (by omega)), (k5.get _ (by omega)).trans gl4, (k5.get _ (by omega)).trans gi4⟩) (by omega) ((k4.mono q3).trans (k5.mono (by omega))) ((k5.get _ (by omega)).trans gs4) f5 ((k5.get _ (by omega)).trans gl4) ((k5.get _ (by omega)).trans gi4)
    · intro hge
      have hjl : j = x.items.length := by
        have : ¬ ((j : Int) < x.items.length) := by simpa using hge
        omega
      subst hjl
      refine wp_exit ?_
      show Exit.inBlock b0 (Exit.then K Q) (.exit b0) a3 w2
      simp only [Exit.inBlock, if_true]
      rw [List.take_length] at hlo2
      have hle := hf2.size
      have hkl : k < ts.length := by rw [hm.len]; exact hk
      refine hK a3 w2 (k2.trans (k3.mono (by omega))) (hf2.mono ?_) ?_
      · intro z hz
        rcases List.mem_cons.1 hz with rfl | h
        · exact Rng.in_self (by simp)
        · exact .inl (hr z h)
      · have := (hm2.up hle (Nat.le_refl _)).said hk (List.getElem?_set_self hkl) (t := .mk 0 [] x.isNil (x.items.map g) []) ?_
        · rw [set_set] at this; exact this
        · rw [repT_iff]
          exact ⟨_, _, _, rfl, by omega, .nil, (LOwn.things (by simpa using hbig) hlo2).kept (Fr.refl [] w2) (by simp) (fun b hb => ⟨by have := hb.1; omega, hb.2⟩), .inl ⟨rfl, rfl⟩⟩

end Go.Kq
