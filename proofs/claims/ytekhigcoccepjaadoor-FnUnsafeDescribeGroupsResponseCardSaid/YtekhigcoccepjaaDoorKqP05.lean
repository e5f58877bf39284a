/- Octets compared, one by one. -/
import Derived.Test.YtekhigcoccepjaaDoorKqP04
set_option linter.unusedVariables false
set_option linter.unusedSimpArgs false
namespace Go.Kq
open Go Go.Proofs

/-- A function that finds the same octets the same. -/
structure SameM (P : Program) (f : FuncId) : Prop where
  enters : Enters P f
  call : ∀ w v1 v2 s A1 A2, OctE w A1 v1 s → OctE w A2 v2 s → Calls P f #[v1, v2] w fun e w' => e = .returned (.bool true) ∧ Fr [] w w'

theorem OctE.slice {w : World} {A : Nat → Prop} {v : Value} {s : List UInt8} (h : OctE w A v s) : ∃ q cap, v = .slice q s.length cap ∧ (0 < s.length → ∃ b o, q = some ⟨b, o, none⟩ ∧ w.rangeAt b o (octets s)) := by
  obtain ⟨x, h, rfl⟩ := h
  rcases h with ⟨rfl, rfl⟩ | ⟨b, o, cap, l, _, rfl, _, hr, rfl⟩
  · exact ⟨none, 0, rfl, fun h => by simp at h⟩
  · exact ⟨_, cap, rfl, fun _ => ⟨b, o, rfl, hr⟩⟩
theorem OctE.big {w : World} {A : Nat → Prop} {v : Value} {s : List UInt8} (h : OctE w A v s) : s.length ≤ 4294967296 := by
  obtain ⟨x, h, rfl⟩ := h
  rcases h with ⟨_, rfl⟩ | ⟨_, _, _, l, _, _, h, _, rfl⟩
  · simp
  · exact h.2
theorem octets_at {w : World} {b o : Nat} {s : List UInt8} (h : w.rangeAt b o (octets s)) {j : Nat} (hj : j < s.length) : w.cell? ⟨b, o + j, none⟩ = some (.int .u8 (s[j]).toNat) :=
  h j _ (by simp [octets, hj])

theorem same_m {P : Program} {f : FuncId} {fn : Func} {TS TE et bs : TypeId} {T1 T2 T3 T4 T5 T6 T7 T8 : TypeId} {i0 i1 i2 i3 i4 i5 i6 i7 i8 i9 : Nat}
    {t0 t1 t2 t3 t4 t5 t6 t7 t8 t9 t10 t11 t12 t13 t14 t15 t16 t17 t18 t19 t20 t21 t22 t23 t24 t25 : TypeId}
    {p0 p1 p2 p3 p4 p5 p6 p7 p8 p9 p10 p11 p12 p13 p14 p15 p16 p17 p18 p19 p20 p21 p22 p23 p24 p25 : String}
    {e0 e1 e2 e3 e4 e5 e6 e7 e8 e9 e10 e11 e12 e13 e14 e15 e16 e17 e18 e19 e20 e21 e22 e23 e24 e25 : Array Edge}
    (hmx : P.follows .mixedOrders = true) (hf : P.funcs[f]? = some fn) (hname : (fn.name == "runtime.NumGoroutine") = false) (hres : fn.results = #[.tmp 4]) (hN : fn.ntmps = 26)
    (hbody : fn.body = some (.seq (Code.region i0 ⟨[⟨some 4, .assign (.const (.bool false)), t0, p0, e0, none⟩]⟩ false)
      (.seq (.seq (Code.region i1 ⟨[⟨some 6, .move (.tmp 0), t1, p1, e1, none⟩, ⟨some 7, .call ⟨.builtin .len, #[.tmp 6], #[TS]⟩, t2, p2, e2, none⟩, ⟨some 8, .move (.tmp 1), t3, p3, e3, none⟩, ⟨some 9, .call ⟨.builtin .len, #[.tmp 8], #[TS]⟩, t4, p4, e4, none⟩, ⟨some 10, .binOp .neq T1 (.tmp 7) (.tmp 9) T2, t5, p5, e5, none⟩]⟩ false)
          (.cond (.tmp 10) (.seq (Code.region i2 ⟨[⟨some 4, .assign (.const (.bool false)), t6, p6, e6, none⟩]⟩ false) .ret) .skip))
        (.seq (.seq (Code.region i3 ⟨[⟨some 11, .move (.tmp 0), t7, p7, e7, none⟩, ⟨some 12, .call ⟨.builtin .len, #[.tmp 11], #[TS]⟩, t8, p8, e8, none⟩, ⟨some 13, .move (.const (.int .i64 0)), t9, p9, e9, none⟩]⟩ false)
            (.block 0 (.loop (.seq (Code.region i4 ⟨[⟨some 14, .binOp .lss T3 (.tmp 13) (.tmp 12) T4, t10, p10, e10, none⟩]⟩ false)
              (.seq (.cond (.tmp 14) .skip (.exit 0))
                (.seq (.block 1 (.seq (Code.region i5 ⟨[⟨some 15, .move (.tmp 13), t11, p11, e11, none⟩, ⟨some 5, .assign (.tmp 15), t12, p12, e12, none⟩]⟩ false)
                    (.seq (Code.region i6 ⟨[⟨some 16, .move (.tmp 0), t13, p13, e13, none⟩, ⟨some 17, .move (.tmp 5), t14, p14, e14, none⟩, ⟨some 18, .indexAddr TS (.tmp 16) (.tmp 17), t15, p15, e15, none⟩, ⟨some 19, .load TE (.tmp 18), t16, p16, e16, none⟩,
                        ⟨some 20, .move (.tmp 1), t17, p17, e17, none⟩, ⟨some 21, .move (.tmp 5), t18, p18, e18, none⟩, ⟨some 22, .indexAddr TS (.tmp 20) (.tmp 21), t19, p19, e19, none⟩, ⟨some 23, .load TE (.tmp 22), t20, p20, e20, none⟩, ⟨some 24, .binOp .neq T5 (.tmp 19) (.tmp 23) T6, t21, p21, e21, none⟩]⟩ true)
                      (.cond (.tmp 24) (.seq (Code.region i7 ⟨[⟨some 4, .assign (.const (.bool false)), t22, p22, e22, none⟩]⟩ false) .ret) .skip))))
                  (Code.region i8 ⟨[⟨some 25, .binOp .add T7 (.tmp 13) (.const (.int .i64 1)) T8, t23, p23, e23, none⟩, ⟨some 13, .move (.tmp 25), t24, p24, e24, none⟩]⟩ false)))))))
          (.seq (Code.region i9 ⟨[⟨some 4, .assign (.const (.bool true)), t25, p25, e25, none⟩]⟩ false) .ret)))))
    (hTS : sliceOf P TS et 1 bs = true) (hTE : scal P TE = true)
    (he : edgeOk 0 [e13, e14, e15, e16, e17, e18, e19, e20, e21] [[], [], [0, 1], [2], [], [], [4, 5], [6], [3, 7]] = true) : SameM P f := by
  refine ⟨enters_of hf hname hbody, ?_⟩
  intro w v1 v2 s A1 A2 h1 h2
  have hlen := h1.big
  obtain ⟨q1, c1, rfl, hq1⟩ := h1.slice
  obtain ⟨q2, c2, rfl, hq2⟩ := h2.slice
  refine calls_of_wp hf hbody ?_
  generalize ha0 : ({ tmps := #[Value.slice q1 s.length c1, Value.slice q2 s.length c2] ++ Array.replicate (fn.ntmps - #[Value.slice q1 s.length c1, Value.slice q2 s.length c2].size) undef, defers := [] } : Act) = a0
  have hsz : a0.tmps.size = 26 := by subst ha0; simp [hN]
  have hd0 : a0.defers = [] := by subst ha0; rfl
  have g0 : get a0 0 = .slice q1 s.length c1 := by subst ha0; exact get_args rfl
  have g1 : get a0 1 = .slice q2 s.length c2 := by subst ha0; exact get_args rfl
  clear ha0
  refine then_id (wp_seq_k fun K1 hK1 => ?_)
  refine r_const (m := 4) (by omega) (by omega) fun a1 k1 _ => hK1 a1 w (then_up ?_)
  have hz1 := k1.size
  refine then_id (wp_seq_k fun K2 hK2 => ?_)
  refine wp_seq_k fun K3 hK3 => ?_
  refine wp_reg ?_
  rw [wpl_cons, wp_move, eval_tmp, k1.get 0 (by omega), g0, wpl_cons]
  refine wp_len hTS (by rw [eval_tmp, get_put_same (by omega)]) ?_
  rw [wpl_cons, wp_move, eval_tmp, get_put_ne (by omega), get_put_ne (by omega), k1.get 1 (by omega), g1, wpl_cons]
  refine wp_len hTS (by rw [eval_tmp, get_put_same (by simp only [size_put]; omega)]) ?_
  rw [wpl_cons]
  refine wp_neq (k1 := .i64) (i := s.length) (j := s.length) (by rw [eval_tmp, get_put_ne (by omega), get_put_ne (by omega), get_put_same (by simp only [size_put]; omega)]) (by rw [eval_tmp, get_put_same (by simp only [size_put]; omega)]) ?_
  rw [wpl_nil]
  generalize ha2 : (((((a1.put (some 6) (.slice q1 s.length c1)).put (some 7) (.int .i64 s.length)).put (some 8) (.slice q2 s.length c2)).put (some 9) (.int .i64 s.length)).put (some 10) (.bool ((s.length : Int) != s.length))) = a2
  have k2 : Kept 6 a1 a2 := by subst ha2; exact (((((Kept.put0 (by omega) _).put (by omega) _).put (by omega) _).put (by omega) _).put (by omega) _)
  have g10 : get a2 10 = .bool false := by subst ha2; rw [get_put_same (by simp only [size_put]; omega)]; simp
  clear ha2
  have hz2 := k2.size
  refine hK3 a2 w ?_
  refine wp_cond_split (t := false) (by rw [eval_tmp, g10]) (fun h => by cases h) fun _ => wp_skip (hK2 a2 w (then_up ?_))
  have kk2 : Kept 4 a0 a2 := k1.trans (k2.mono (by omega))
  refine then_id (wp_seq_k fun K4 hK4 => ?_)
  refine wp_seq_k fun K5 hK5 => ?_
  refine wp_reg ?_
  rw [wpl_cons, wp_move, eval_tmp, kk2.get 0 (by omega), g0, wpl_cons]
  refine wp_len hTS (by rw [eval_tmp, get_put_same (by omega)]) ?_
  rw [wpl_cons, wp_move, eval_const, wpl_nil]
  generalize ha3 : ((a2.put (some 11) (.slice q1 s.length c1)).put (some 12) (.int .i64 s.length)).put (some 13) (.int .i64 0) = a3
  have k3 : Kept 6 a2 a3 := by subst ha3; exact ((Kept.put0 (by omega) _).put (by omega) _).put (by omega) _
  have g12 : get a3 12 = .int .i64 s.length := by subst ha3; rw [get_put_ne (by omega), get_put_same (by simp only [size_put]; omega)]
  have g13 : get a3 13 = .int .i64 0 := by subst ha3; rw [get_put_same (by simp only [size_put]; omega)]
  clear ha3
  have hz3 := k3.size
  refine hK5 a3 w ?_
  refine wp_block (wp_loop (fun a' w' => ∃ j : Nat, j ≤ s.length ∧ Kept 4 a0 a' ∧ get a' 12 = .int .i64 s.length ∧ get a' 13 = .int .i64 j ∧ Fr [] w w') (fun a' _ => s.length - idxOf (get a' 13)) ?_ ?_)
  · exact ⟨0, Nat.zero_le _, kk2.trans (k3.mono (by omega)), g12, g13, Fr.refl _ _⟩
  · rintro a4 w4 ⟨j, hj, k4, gl, gi, f4⟩
    have hz4 := k4.size
    refine wp_seq_k fun K6 hK6 => ?_
    refine wp_reg ?_
    rw [wpl_cons]
    refine wp_lss (k1 := .i64) (i := j) (j := s.length) (by rw [eval_tmp, gi]) (by rw [eval_tmp, gl]) ?_
    rw [wpl_nil]
    generalize ha5 : a4.put (some 14) (.bool (decide ((j : Int) < s.length))) = a5
    have k5 : Kept 14 a4 a5 := by subst ha5; exact Kept.put0 (Nat.le_refl _) _
    have g14 : get a5 14 = .bool (decide ((j : Int) < s.length)) := by subst ha5; exact get_put_same (by omega)
    clear ha5
    have hz5 := k5.size
    refine hK6 a5 w4 ?_
    refine wp_seq_k fun K7 hK7 => ?_
    refine wp_cond_split (t := decide ((j : Int) < s.length)) (by rw [eval_tmp, g14]) ?_ ?_
    · intro hlt
      have hjl : j < s.length := by simpa using hlt
      refine wp_skip (hK7 a5 w4 ?_)
      refine wp_seq_k fun K8 hK8 => ?_
      obtain ⟨b1, o1, rfl, hr1⟩ := hq1 (by omega)
      obtain ⟨b2, o2, rfl, hr2⟩ := hq2 (by omega)
      refine wp_block (wp_mono (show Code.wp P _ (Exit.then K8 (Exit.inBlock 1 (Exit.then K8 _))) a5 w4 from ?_) (fun _ _ _ => inBlock_then))
      refine wp_seq_k fun K9 hK9 => ?_
      refine wp_reg ?_
      rw [wpl_cons, wp_move, eval_tmp, k5.get 13 (by omega), gi, wpl_cons, wp_assign, eval_tmp, get_put_same (by omega), wpl_nil]
      generalize ha6 : (a5.put (some 15) (.int .i64 j)).put (some 5) (.int .i64 j) = a6
      have k6 : Kept 4 a4 a6 := by subst ha6; exact (k5.mono (by omega)).trans ((Kept.put0 (by omega) _).put (by omega) _)
      have g5 : get a6 5 = .int .i64 j := by subst ha6; exact get_put_same (by simp only [size_put]; omega)
      have g12' : get a6 12 = .int .i64 s.length := by subst ha6; rw [get_put_ne (by omega), get_put_ne (by omega), k5.get 12 (by omega), gl]
      have g13' : get a6 13 = .int .i64 j := by subst ha6; rw [get_put_ne (by omega), get_put_ne (by omega), k5.get 13 (by omega), gi]
      clear ha6
      have hz6 := k6.size
      have kk6 := k4.trans k6
      refine hK9 a6 w4 ?_
      refine wp_seq_k fun K10 hK10 => ?_
      refine wp_drawE0 [spC [] (.slice (some ⟨b1, o1, none⟩) s.length c1), spC [] (.int .i64 j), spC [0, 1] (.pointer (some ⟨b1, o1 + (j : Int).toNat * 1, none⟩)), spC [2] (.int .u8 (s[j]).toNat),
        spC [] (.slice (some ⟨b2, o2, none⟩) s.length c2), spC [] (.int .i64 j), spC [4, 5] (.pointer (some ⟨b2, o2 + (j : Int).toNat * 1, none⟩)), spC [6] (.int .u8 (s[j]).toNat), spC [3, 7] (.bool false)] 16 [] hmx he (by simp [shape]) (by simp [spC]) (by simp; omega)
        ⟨lasts_c _ _ _, lasts_c _ _ _, lasts_c _ _ _, lasts_c _ _ _, lasts_c _ _ _, lasts_c _ _ _, lasts_c _ _ _, lasts_c _ _ _, lasts_c _ _ _, trivial⟩ ?_ ?_
      · refine ⟨op_c fun a' w' hk' hf' hd' K' hK' => ?_, op_c fun a' w' hk' hf' hd' K' hK' => ?_, op_c fun a' w' hk' hf' hd' K' hK' => ?_, op_c fun a' w' hk' hf' hd' K' hK' => ?_, op_c fun a' w' hk' hf' hd' K' hK' => ?_,
          op_c fun a' w' hk' hf' hd' K' hK' => ?_, op_c fun a' w' hk' hf' hd' K' hK' => ?_, op_c fun a' w' hk' hf' hd' K' hK' => ?_, op_c fun a' w' hk' hf' hd' K' hK' => ?_, trivial⟩
        · rw [wp_move, eval_tmp, hk'.get 0 (by omega), kk6.get 0 (by omega), g0]; exact hK'
        · rw [wp_move, eval_tmp, hk'.get 5 (by omega), g5]; exact hK'
        · exact wp_indexAddr hTS (by rw [eval_tmp]; exact hd'.c 0 (by simp) rfl) (by rw [eval_tmp]; exact hd'.c 1 (by simp) rfl) (by omega) (by omega) hK'
        · refine wp_load hTE (by rw [eval_tmp]; exact hd'.c 2 (by simp) rfl) ?_ hK'
          have := octets_at ((f4.tr hf').range hr1 .nil) hjl
          simpa using this
        · rw [wp_move, eval_tmp, hk'.get 1 (by omega), kk6.get 1 (by omega), g1]; exact hK'
        · rw [wp_move, eval_tmp, hk'.get 5 (by omega), g5]; exact hK'
        · exact wp_indexAddr hTS (by rw [eval_tmp]; exact hd'.c 4 (by simp) rfl) (by rw [eval_tmp]; exact hd'.c 5 (by simp) rfl) (by omega) (by omega) hK'
        · refine wp_load hTE (by rw [eval_tmp]; exact hd'.c 6 (by simp) rfl) ?_ hK'
          have := octets_at ((f4.tr hf').range hr2 .nil) hjl
          simpa using this
        · refine wp_neq (k1 := .u8) (by rw [eval_tmp]; exact hd'.c 3 (by simp) rfl) (by rw [eval_tmp]; exact hd'.c 7 (by simp) rfl) ?_
          simpa using hK'
      · intro a7 w7 k7 f7 hd7
        have g24 : get a7 24 = .bool false := hd7.c (nd' := [3, 7]) 8 (by simp) rfl
        refine hK10 a7 w7 ?_
        refine wp_cond_split (t := false) (by rw [eval_tmp, g24]) (fun h => by cases h) fun _ => wp_skip (hK8 a7 w7 ?_)
        have hz7 := k7.size
        refine wp_reg ?_
        rw [wpl_cons]
        refine wp_add (k1 := .i64) (i := j) (j := 1) (by rw [eval_tmp, k7.get 13 (by omega), g13']) rfl ?_
        rw [wpl_cons, wp_move, eval_tmp, get_put_same (by omega), wpl_nil]
        have hwr : IntKind.i64.wrap ((j : Int) + 1) = ((j + 1 : Nat) : Int) := by
          simp [IntKind.wrap, IntKind.bits, IntKind.signed]; omega
        rw [hwr]
        refine ⟨⟨j + 1, hjl, ?_, ?_, ?_, f4.tr f7⟩, ?_⟩
        · exact (kk6.trans (k7.mono (by omega))).trans ((Kept.put0 (by omega) _).put (by omega) _)
        · rw [get_put_ne (by omega), get_put_ne (by omega), k7.get 12 (by omega), g12']
        · rw [get_put_same (by simp only [size_put]; omega)]
        · rw [get_put_same (by simp only [size_put]; omega), gi]; simp [idxOf]; omega
    · intro hge
      refine wp_exit ?_
      show K4 a5 w4
      refine hK4 a5 w4 (then_up ?_)
      refine then_id (wp_seq_k fun K11 hK11 => ?_)
      have hz5 := k5.size
      refine r_const (m := 4) (by omega) (by omega) fun a8 k8 g8 => hK11 a8 w4 (then_up ?_)
      refine wp_ret ?_
      refine ⟨by rw [k8.defers, k5.defers, k4.defers, hd0], _, results_one hres, ?_, f4⟩
      rw [g8]

end Go.Kq

/- Two trees compared: the head. Written by mk_st.py. -/
namespace Go.Kq
open Go Go.Proofs

variable {P : Program} {a : Act} {w : World} {K : Act → World → Prop} {Q : Exit → Act → World → Prop} {d : Option Tmp} {t : TypeId} {p : String} {af : Array Edge} {g : Option (Nat × Bool)}
theorem under_bool {s : TypeId} (h : boolTy P s = true) : P.underlying s = some .bool := by
  unfold boolTy at h
  split at h
  · assumption
  · cases h
theorem run_eqBool {s : TypeId} {i j : Bool} (h : P.underlying s = some .bool) (n : Nat) : (Op.equalIn (n + 1) s (.bool i) (.bool j)).run P w = .ok (i == j) w := by
  simp [Op.equalIn, run_underlying h]
theorem run_equalBool {s : TypeId} {i j : Bool} (h : P.underlying s = some .bool) : (Op.equal s (.bool i) (.bool j)).run P w = .ok (i == j) w := run_eqBool h 9999
theorem wp_neqBool {s u : TypeId} {x y : Operand} {i j : Bool} (hs : boolTy P s = true) (hx : a.eval x = .bool i) (hy : a.eval y = .bool j) (k : K (a.put d (.bool (!(i == j)))) w) :
    OW P ⟨d, .binOp .neq s x y u, t, p, af, g⟩ a w K Q := by
  refine wp_val (v := .bool (!(i == j))) (w' := w) ?_ k
  have hg : (eqGuard .neq s x y (.bool i) (.bool j)).run P w = .ok () w := by simp [eqGuard]
  have hr : (binOp .neq s (.bool i) (.bool j)).run P w = .ok (.bool (!(i == j))) w := by
    simp only [binOp, Sem.run_bind, run_equalBool (under_bool hs), Result.andThen_ok, Sem.run_pure]
  simp only [execOp, hx, hy, Sem.run_bind, hg, hr, Result.andThen_ok, Sem.run_pure]
theorem wp_eqlBool {s u : TypeId} {x y : Operand} {i j : Bool} (hs : boolTy P s = true) (hx : a.eval x = .bool i) (hy : a.eval y = .bool j) (k : K (a.put d (.bool (i == j))) w) :
    OW P ⟨d, .binOp .eql s x y u, t, p, af, g⟩ a w K Q := by
  refine wp_val (v := .bool (i == j)) (w' := w) ?_ k
  have hg : (eqGuard .eql s x y (.bool i) (.bool j)).run P w = .ok () w := by simp [eqGuard]
  have hr : (binOp .eql s (.bool i) (.bool j)).run P w = .ok (.bool (i == j)) w := by
    simp only [binOp, Sem.run_bind, run_equalBool (under_bool hs), Result.andThen_ok, Sem.run_pure]
  simp only [execOp, hx, hy, Sem.run_bind, hg, hr, Result.andThen_ok, Sem.run_pure]
theorem wp_pickNo {x y z : Operand} {v : Value} (hx : a.eval x = .bool false) (hz : a.eval z = v) (k : K (a.put d v) w) : OW P ⟨d, .pick x y z, t, p, af, g⟩ a w K Q :=
  wp_val (by simp [execOp, hx, hz, asBool]) k
theorem wp_pickYes {x y z : Operand} {v : Value} (hx : a.eval x = .bool true) (hy : a.eval y = v) (k : K (a.put d v) w) : OW P ⟨d, .pick x y z, t, p, af, g⟩ a w K Q :=
  wp_val (by simp [execOp, hx, hy, asBool]) k
theorem wp_box {s : TypeId} {x : Operand} {v : Value} (hx : a.eval x = v) (k : K (a.put d (.pointer (some ⟨w.heap.size, 0, none⟩))) (w.alloc (.cells v.cells s))) : OW P ⟨d, .box s x, t, p, af, g⟩ a w K Q :=
  wp_val (v := .pointer (some ⟨w.heap.size, 0, none⟩)) (w' := w.alloc (.cells v.cells s)) (by simp [execOp, hx, Instr.box, newVar, newRow]) k

/-- Two trees that say the same, in their boxes. -/
structure SE (a : Act) (w : World) (b2 b3 : Nat) (n : Int) (nl : Bool) (s1 s2 l1 l2 u1 u2 : Value) (A1 A2 : Nat → Prop) (s : List UInt8) (l : List T) (u : List (Nat × List UInt8)) : Prop where
  size : a.tmps.size = 100
  defers : a.defers = []
  g2 : get a 2 = .pointer (some ⟨b2, 0, none⟩)
  g3 : get a 3 = .pointer (some ⟨b3, 0, none⟩)
  r2 : w.rangeAt b2 0 [.int .i64 n, s1, .bool nl, l1, u1]
  r3 : w.rangeAt b3 0 [.int .i64 n, s2, .bool nl, l2, u2]
  o1 : OctE w A1 s1 s
  o2 : OctE w A2 s2 s
  t1 : Things w A1 l1 l
  t2 : Things w A2 l2 l
  v1 : TagsR w A1 u1 u
  v2 : TagsR w A2 u2 u
theorem SE.step {a a' : Act} {w w' : World} {b2 b3 : Nat} {n : Int} {nl : Bool} {s1 s2 l1 l2 u1 u2 : Value} {A1 A2 : Nat → Prop} {s : List UInt8} {l : List T} {u : List (Nat × List UInt8)} (h : SE a w b2 b3 n nl s1 s2 l1 l2 u1 u2 A1 A2 s l u) (hk : Kept 4 a a') (hf : Fr [] w w') :
    SE a' w' b2 b3 n nl s1 s2 l1 l2 u1 u2 A1 A2 s l u :=
  ⟨hk.size.trans h.size, hk.defers.trans h.defers, (hk.get 2 (by omega)).trans h.g2, (hk.get 3 (by omega)).trans h.g3, hf.range h.r2 .nil, hf.range h.r3 .nil, h.o1.kept hf (by simp) (fun _ h => h), h.o2.kept hf (by simp) (fun _ h => h),
    h.t1.kept hf (by simp) (fun _ h => h), h.t2.kept hf (by simp) (fun _ h => h), h.v1.kept hf (by simp) (fun _ h => h), h.v2.kept hf (by simp) (fun _ h => h)⟩
theorem Things.slice {w : World} {A : Nat → Prop} {v : Value} {l : List T} (h : Things w A v l) : ∃ q cap, v = .slice q l.length cap := by
  rcases h with ⟨rfl, rfl⟩ | ⟨b, o, cap, _, rfl, _⟩
  · exact ⟨none, 0, rfl⟩
  · exact ⟨_, _, rfl⟩
theorem TagsR.slice {w : World} {A : Nat → Prop} {v : Value} {l : List (Nat × List UInt8)} (h : TagsR w A v l) : ∃ q cap, v = .slice q l.length cap := by
  rcases h with ⟨rfl, rfl⟩ | ⟨b, o, cap, _, rfl, _⟩
  · exact ⟨none, 0, rfl⟩
  · exact ⟨_, _, rfl⟩

theorem st_head {P : Program} {T2 T3 T4 T22 T32 T33 T35 et1 et2 bs1 bs2 : TypeId} {f21 : FuncId} {a0 : Array TypeId} {i1 : Nat} {z : List Value} {c1 c2 : Code}
    {t3 t4 t5 t6 t7 t8 t9 t10 t11 t12 t13 t14 t15 t16 t17 t18 t19 t20 t21 t22 t23 t24 t25 t26 t27 t28 t29 t30 t31 t32 t33 t34 t35 t36 t37 t38 t39 t40 : TypeId} {p3 p4 p5 p6 p7 p8 p9 p10 p11 p12 p13 p14 p15 p16 p17 p18 p19 p20 p21 p22 p23 p24 p25 p26 p27 p28 p29 p30 p31 p32 p33 p34 p35 p36 p37 p38 p39 p40 : String} {e3 e4 e5 e6 e7 e8 e9 e10 e11 e12 e13 e14 e15 e16 e17 e18 e19 e20 e21 e22 e23 e24 e25 e26 e27 e28 e29 e30 e31 e32 e33 e34 e35 e36 e37 e38 e39 e40 : Array Edge}
    (hT : Flat P T35 z) (hz : z.length = 5) (hT2 : scal P T2 = true) (hT4 : scal P T4 = true) (hT4b : boolTy P T4 = true) (hT22 : scal P T22 = true) (hT32 : scal P T32 = true) (hT33 : scal P T33 = true) (hT32s : sliceOf P T32 et1 5 bs1 = true) (hT33s : sliceOf P T33 et2 2 bs2 = true) (hS : SameM P f21)
    {a : Act} {w : World} {K : Act → World → Prop} {Q : Exit → Act → World → Prop} {b2 b3 : Nat} {n : Int} {nl : Bool} {s1 s2 l1 l2 u1 u2 : Value} {A1 A2 : Nat → Prop} {s : List UInt8} {l : List T} {u : List (Nat × List UInt8)} (h : SE a w b2 b3 n nl s1 s2 l1 l2 u1 u2 A1 A2 s l u)
    (hk : ∀ a' w', Kept 4 a a' → Fr [] w w' → c2.wp P (Exit.then K Q) a' w') :
    (Code.seq (Code.region i1 ⟨[⟨some 7, .fieldAddr T35 (.tmp 2) 0, t3, p3, e3, none⟩,
    ⟨some 8, .load T2 (.tmp 7), t4, p4, e4, none⟩,
    ⟨some 9, .fieldAddr T35 (.tmp 3) 0, t5, p5, e5, none⟩,
    ⟨some 10, .load T2 (.tmp 9), t6, p6, e6, none⟩,
    ⟨some 11, .binOp .neq T2 (.tmp 8) (.tmp 10) T2, t7, p7, e7, none⟩,
    ⟨some 12, .move (.tmp 11), t8, p8, e8, none⟩,
    ⟨some 13, .fieldAddr T35 (.tmp 2) 2, t9, p9, e9, some (5, false)⟩,
    ⟨some 14, .load T4 (.tmp 13), t10, p10, e10, some (5, false)⟩,
    ⟨some 15, .fieldAddr T35 (.tmp 3) 2, t11, p11, e11, some (5, false)⟩,
    ⟨some 16, .load T4 (.tmp 15), t12, p12, e12, some (5, false)⟩,
    ⟨some 17, .binOp .neq T4 (.tmp 14) (.tmp 16) T4, t13, p13, e13, some (5, false)⟩,
    ⟨some 18, .pick (.tmp 12) (.const (.bool true)) (.tmp 17), t14, p14, e14, none⟩,
    ⟨some 19, .move (.tmp 18), t15, p15, e15, none⟩,
    ⟨some 20, .fieldAddr T35 (.tmp 2) 1, t16, p16, e16, some (12, false)⟩,
    ⟨some 21, .load T22 (.tmp 20), t17, p17, e17, some (12, false)⟩,
    ⟨some 22, .fieldAddr T35 (.tmp 3) 1, t18, p18, e18, some (12, false)⟩,
    ⟨some 23, .load T22 (.tmp 22), t19, p19, e19, some (12, false)⟩,
    ⟨some 24, .call ⟨.value (.func f21), #[(.tmp 21), (.tmp 23)], a0⟩, t20, p20, e20, some (12, false)⟩,
    ⟨some 25, .unOp .not T4 (.tmp 24), t21, p21, e21, some (12, false)⟩,
    ⟨some 26, .pick (.tmp 19) (.const (.bool true)) (.tmp 25), t22, p22, e22, none⟩,
    ⟨some 27, .move (.tmp 26), t23, p23, e23, none⟩,
    ⟨some 28, .fieldAddr T35 (.tmp 2) 3, t24, p24, e24, some (20, false)⟩,
    ⟨some 29, .load T32 (.tmp 28), t25, p25, e25, some (20, false)⟩,
    ⟨some 30, .call ⟨.builtin .len, #[(.tmp 29)], #[T32]⟩, t26, p26, e26, some (20, false)⟩,
    ⟨some 31, .fieldAddr T35 (.tmp 3) 3, t27, p27, e27, some (20, false)⟩,
    ⟨some 32, .load T32 (.tmp 31), t28, p28, e28, some (20, false)⟩,
    ⟨some 33, .call ⟨.builtin .len, #[(.tmp 32)], #[T32]⟩, t29, p29, e29, some (20, false)⟩,
    ⟨some 34, .binOp .neq T3 (.tmp 30) (.tmp 33) T3, t30, p30, e30, some (20, false)⟩,
    ⟨some 35, .pick (.tmp 27) (.const (.bool true)) (.tmp 34), t31, p31, e31, none⟩,
    ⟨some 36, .move (.tmp 35), t32, p32, e32, none⟩,
    ⟨some 37, .fieldAddr T35 (.tmp 2) 4, t33, p33, e33, some (29, false)⟩,
    ⟨some 38, .load T33 (.tmp 37), t34, p34, e34, some (29, false)⟩,
    ⟨some 39, .call ⟨.builtin .len, #[(.tmp 38)], #[T33]⟩, t35, p35, e35, some (29, false)⟩,
    ⟨some 40, .fieldAddr T35 (.tmp 3) 4, t36, p36, e36, some (29, false)⟩,
    ⟨some 41, .load T33 (.tmp 40), t37, p37, e37, some (29, false)⟩,
    ⟨some 42, .call ⟨.builtin .len, #[(.tmp 41)], #[T33]⟩, t38, p38, e38, some (29, false)⟩,
    ⟨some 43, .binOp .neq T3 (.tmp 39) (.tmp 42) T3, t39, p39, e39, some (29, false)⟩,
    ⟨some 44, .pick (.tmp 36) (.const (.bool true)) (.tmp 43), t40, p40, e40, none⟩]⟩ false) (.cond (.tmp 44) c1 c2)).wp P (Exit.then K Q) a w := by
  obtain ⟨ql1, cl1, hl1⟩ := h.t1.slice
  obtain ⟨ql2, cl2, hl2⟩ := h.t2.slice
  obtain ⟨qu1, cu1, hu1⟩ := h.v1.slice
  obtain ⟨qu2, cu2, hu2⟩ := h.v2.slice
  have hfield := fun k (hk : k < 5) => hT.field (k := k) (by rw [hz]; exact hk)
  have hsz := h.size
  refine wp_seq_k fun K1 hK1 => ?_
  refine wp_seqG [spC [] (.pointer (some ⟨b2, 0 + 0, none⟩)),
    spC [0] (.int .i64 n),
    spC [] (.pointer (some ⟨b3, 0 + 0, none⟩)),
    spC [2] (.int .i64 n),
    spC [1, 3] (.bool false),
    spC [4] (.bool false),
    spC [5] (.pointer (some ⟨b2, 0 + 2, none⟩)),
    spC [6, 5] (.bool nl),
    spC [5] (.pointer (some ⟨b3, 0 + 2, none⟩)),
    spC [8, 5] (.bool nl),
    spC [7, 9, 5] (.bool false),
    spC [5, 10] (.bool false),
    spC [11] (.bool false),
    spC [12] (.pointer (some ⟨b2, 0 + 1, none⟩)),
    spC [13, 12] s1,
    spC [12] (.pointer (some ⟨b3, 0 + 1, none⟩)),
    spC [15, 12] s2,
    spC [14, 16, 12] (.bool true),
    spC [17, 12] (.bool false),
    spC [12, 18] (.bool false),
    spC [19] (.bool false),
    spC [20] (.pointer (some ⟨b2, 0 + 3, none⟩)),
    spC [21, 20] l1,
    spC [22, 20] (.int .i64 l.length),
    spC [20] (.pointer (some ⟨b3, 0 + 3, none⟩)),
    spC [24, 20] l2,
    spC [25, 20] (.int .i64 l.length),
    spC [23, 26, 20] (.bool false),
    spC [20, 27] (.bool false),
    spC [28] (.bool false),
    spC [29] (.pointer (some ⟨b2, 0 + 4, none⟩)),
    spC [30, 29] u1,
    spC [31, 29] (.int .i64 u.length),
    spC [29] (.pointer (some ⟨b3, 0 + 4, none⟩)),
    spC [33, 29] u2,
    spC [34, 29] (.int .i64 u.length),
    spC [32, 35, 29] (.bool false),
    spC [29, 36] (.bool false)] 7 [] rfl (by simp [needLt, spC]) (by simp [shape]) (by simp [spC]) (by simp; omega)
    ⟨lasts_c _ _ _, lasts_c _ _ _, lasts_c _ _ _, lasts_c _ _ _, lasts_c _ _ _, lasts_c _ _ _, lasts_c _ _ _, lasts_c _ _ _, lasts_c _ _ _, lasts_c _ _ _, lasts_c _ _ _, lasts_c _ _ _, lasts_c _ _ _, lasts_c _ _ _, lasts_c _ _ _, lasts_c _ _ _, lasts_c _ _ _, lasts_c _ _ _, lasts_c _ _ _, lasts_c _ _ _, lasts_c _ _ _, lasts_c _ _ _, lasts_c _ _ _, lasts_c _ _ _, lasts_c _ _ _, lasts_c _ _ _, lasts_c _ _ _, lasts_c _ _ _, lasts_c _ _ _, lasts_c _ _ _, lasts_c _ _ _, lasts_c _ _ _, lasts_c _ _ _, lasts_c _ _ _, lasts_c _ _ _, lasts_c _ _ _, lasts_c _ _ _, lasts_c _ _ _, trivial⟩ ?_ ?_
  · refine ⟨op_c fun a' w' hk' hf' hd' K' hK' => ?_,
      op_c fun a' w' hk' hf' hd' K' hK' => ?_,
      op_c fun a' w' hk' hf' hd' K' hK' => ?_,
      op_c fun a' w' hk' hf' hd' K' hK' => ?_,
      op_c fun a' w' hk' hf' hd' K' hK' => ?_,
      op_c fun a' w' hk' hf' hd' K' hK' => ?_,
      op_gy rfl (by omega) (fun _ _ hd' => hd'.c 5 (by simp [spC]) rfl) (op_c fun a' w' hk' hf' hd' K' hK' => ?_),
      op_gy rfl (by omega) (fun _ _ hd' => hd'.c 5 (by simp [spC]) rfl) (op_c fun a' w' hk' hf' hd' K' hK' => ?_),
      op_gy rfl (by omega) (fun _ _ hd' => hd'.c 5 (by simp [spC]) rfl) (op_c fun a' w' hk' hf' hd' K' hK' => ?_),
      op_gy rfl (by omega) (fun _ _ hd' => hd'.c 5 (by simp [spC]) rfl) (op_c fun a' w' hk' hf' hd' K' hK' => ?_),
      op_gy rfl (by omega) (fun _ _ hd' => hd'.c 5 (by simp [spC]) rfl) (op_c fun a' w' hk' hf' hd' K' hK' => ?_),
      op_c fun a' w' hk' hf' hd' K' hK' => ?_,
      op_c fun a' w' hk' hf' hd' K' hK' => ?_,
      op_gy rfl (by omega) (fun _ _ hd' => hd'.c 12 (by simp [spC]) rfl) (op_c fun a' w' hk' hf' hd' K' hK' => ?_),
      op_gy rfl (by omega) (fun _ _ hd' => hd'.c 12 (by simp [spC]) rfl) (op_c fun a' w' hk' hf' hd' K' hK' => ?_),
      op_gy rfl (by omega) (fun _ _ hd' => hd'.c 12 (by simp [spC]) rfl) (op_c fun a' w' hk' hf' hd' K' hK' => ?_),
      op_gy rfl (by omega) (fun _ _ hd' => hd'.c 12 (by simp [spC]) rfl) (op_c fun a' w' hk' hf' hd' K' hK' => ?_),
      op_gy rfl (by omega) (fun _ _ hd' => hd'.c 12 (by simp [spC]) rfl) (op_r fun a' w' hk' hf' hd' K' hK' => ?_),
      op_gy rfl (by omega) (fun _ _ hd' => hd'.c 12 (by simp [spC]) rfl) (op_c fun a' w' hk' hf' hd' K' hK' => ?_),
      op_c fun a' w' hk' hf' hd' K' hK' => ?_,
      op_c fun a' w' hk' hf' hd' K' hK' => ?_,
      op_gy rfl (by omega) (fun _ _ hd' => hd'.c 20 (by simp [spC]) rfl) (op_c fun a' w' hk' hf' hd' K' hK' => ?_),
      op_gy rfl (by omega) (fun _ _ hd' => hd'.c 20 (by simp [spC]) rfl) (op_c fun a' w' hk' hf' hd' K' hK' => ?_),
      op_gy rfl (by omega) (fun _ _ hd' => hd'.c 20 (by simp [spC]) rfl) (op_c fun a' w' hk' hf' hd' K' hK' => ?_),
      op_gy rfl (by omega) (fun _ _ hd' => hd'.c 20 (by simp [spC]) rfl) (op_c fun a' w' hk' hf' hd' K' hK' => ?_),
      op_gy rfl (by omega) (fun _ _ hd' => hd'.c 20 (by simp [spC]) rfl) (op_c fun a' w' hk' hf' hd' K' hK' => ?_),
      op_gy rfl (by omega) (fun _ _ hd' => hd'.c 20 (by simp [spC]) rfl) (op_c fun a' w' hk' hf' hd' K' hK' => ?_),
      op_gy rfl (by omega) (fun _ _ hd' => hd'.c 20 (by simp [spC]) rfl) (op_c fun a' w' hk' hf' hd' K' hK' => ?_),
      op_c fun a' w' hk' hf' hd' K' hK' => ?_,
      op_c fun a' w' hk' hf' hd' K' hK' => ?_,
      op_gy rfl (by omega) (fun _ _ hd' => hd'.c 29 (by simp [spC]) rfl) (op_c fun a' w' hk' hf' hd' K' hK' => ?_),
      op_gy rfl (by omega) (fun _ _ hd' => hd'.c 29 (by simp [spC]) rfl) (op_c fun a' w' hk' hf' hd' K' hK' => ?_),
      op_gy rfl (by omega) (fun _ _ hd' => hd'.c 29 (by simp [spC]) rfl) (op_c fun a' w' hk' hf' hd' K' hK' => ?_),
      op_gy rfl (by omega) (fun _ _ hd' => hd'.c 29 (by simp [spC]) rfl) (op_c fun a' w' hk' hf' hd' K' hK' => ?_),
      op_gy rfl (by omega) (fun _ _ hd' => hd'.c 29 (by simp [spC]) rfl) (op_c fun a' w' hk' hf' hd' K' hK' => ?_),
      op_gy rfl (by omega) (fun _ _ hd' => hd'.c 29 (by simp [spC]) rfl) (op_c fun a' w' hk' hf' hd' K' hK' => ?_),
      op_gy rfl (by omega) (fun _ _ hd' => hd'.c 29 (by simp [spC]) rfl) (op_c fun a' w' hk' hf' hd' K' hK' => ?_),
      op_c fun a' w' hk' hf' hd' K' hK' => ?_, trivial⟩
    · exact wp_fieldAddr (hfield _ (by decide)) (by rw [eval_tmp, hk'.get 2 (by omega), h.g2]) hK'
    · exact wp_load hT2 (by rw [eval_tmp]; exact hd'.c 0 (by simp [spC]) rfl) ((hf'.range h.r2 .nil) 0 _ rfl) hK'
    · exact wp_fieldAddr (hfield _ (by decide)) (by rw [eval_tmp, hk'.get 3 (by omega), h.g3]) hK'
    · exact wp_load hT2 (by rw [eval_tmp]; exact hd'.c 2 (by simp [spC]) rfl) ((hf'.range h.r3 .nil) 0 _ rfl) hK'
    · exact wp_neq (k1 := .i64) (by rw [eval_tmp]; exact hd'.c 1 (by simp [spC]) rfl) (by rw [eval_tmp]; exact hd'.c 3 (by simp [spC]) rfl) (by simpa using hK')
    · rw [wp_move, eval_tmp, hd'.c 4 (by simp [spC]) rfl]; exact hK'
    · exact wp_fieldAddr (hfield _ (by decide)) (by rw [eval_tmp, hk'.get 2 (by omega), h.g2]) hK'
    · exact wp_load hT4 (by rw [eval_tmp]; exact hd'.c 6 (by simp [spC]) rfl) ((hf'.range h.r2 .nil) 2 _ rfl) hK'
    · exact wp_fieldAddr (hfield _ (by decide)) (by rw [eval_tmp, hk'.get 3 (by omega), h.g3]) hK'
    · exact wp_load hT4 (by rw [eval_tmp]; exact hd'.c 8 (by simp [spC]) rfl) ((hf'.range h.r3 .nil) 2 _ rfl) hK'
    · exact wp_neqBool hT4b (by rw [eval_tmp]; exact hd'.c 7 (by simp [spC]) rfl) (by rw [eval_tmp]; exact hd'.c 9 (by simp [spC]) rfl) (by simpa using hK')
    · exact wp_pickNo (by rw [eval_tmp]; exact hd'.c 5 (by simp [spC]) rfl) (by rw [eval_tmp]; exact hd'.c 10 (by simp [spC]) rfl) hK'
    · rw [wp_move, eval_tmp, hd'.c 11 (by simp [spC]) rfl]; exact hK'
    · exact wp_fieldAddr (hfield _ (by decide)) (by rw [eval_tmp, hk'.get 2 (by omega), h.g2]) hK'
    · exact wp_load hT22 (by rw [eval_tmp]; exact hd'.c 13 (by simp [spC]) rfl) ((hf'.range h.r2 .nil) 1 _ rfl) hK'
    · exact wp_fieldAddr (hfield _ (by decide)) (by rw [eval_tmp, hk'.get 3 (by omega), h.g3]) hK'
    · exact wp_load hT22 (by rw [eval_tmp]; exact hd'.c 15 (by simp [spC]) rfl) ((hf'.range h.r3 .nil) 1 _ rfl) hK'
    · exact wp_calls hS.enters (vs := #[s1, s2]) (by simp [eval_tmp, hd'.c 14 (by simp [spC]) rfl, hd'.c 16 (by simp [spC]) rfl]) (R := fun v w2 => v = .bool true ∧ Fr [] w' w2) ((hS.call w' s1 s2 s A1 A2 (h.o1.kept hf' (by simp) (fun _ h => h)) (h.o2.kept hf' (by simp) (fun _ h => h))).mono (by rintro e' w2 ⟨rfl, h2⟩; exact ⟨_, rfl, rfl, h2⟩)) (by rintro v w2 ⟨rfl, h2⟩; exact hK' _ _ rfl h2)
    · exact wp_not (b := true) (by rw [eval_tmp]; exact hd'.c 17 (by simp [spC]) rfl) hK'
    · exact wp_pickNo (by rw [eval_tmp]; exact hd'.c 12 (by simp [spC]) rfl) (by rw [eval_tmp]; exact hd'.c 18 (by simp [spC]) rfl) hK'
    · rw [wp_move, eval_tmp, hd'.c 19 (by simp [spC]) rfl]; exact hK'
    · exact wp_fieldAddr (hfield _ (by decide)) (by rw [eval_tmp, hk'.get 2 (by omega), h.g2]) hK'
    · exact wp_load hT32 (by rw [eval_tmp]; exact hd'.c 21 (by simp [spC]) rfl) ((hf'.range h.r2 .nil) 3 _ rfl) hK'
    · exact wp_len hT32s (by rw [eval_tmp, hd'.c 22 (by simp [spC]) rfl, hl1]) hK'
    · exact wp_fieldAddr (hfield _ (by decide)) (by rw [eval_tmp, hk'.get 3 (by omega), h.g3]) hK'
    · exact wp_load hT32 (by rw [eval_tmp]; exact hd'.c 24 (by simp [spC]) rfl) ((hf'.range h.r3 .nil) 3 _ rfl) hK'
    · exact wp_len hT32s (by rw [eval_tmp, hd'.c 25 (by simp [spC]) rfl, hl2]) hK'
    · exact wp_neq (k1 := .i64) (by rw [eval_tmp]; exact hd'.c 23 (by simp [spC]) rfl) (by rw [eval_tmp]; exact hd'.c 26 (by simp [spC]) rfl) (by simpa using hK')
    · exact wp_pickNo (by rw [eval_tmp]; exact hd'.c 20 (by simp [spC]) rfl) (by rw [eval_tmp]; exact hd'.c 27 (by simp [spC]) rfl) hK'
    · rw [wp_move, eval_tmp, hd'.c 28 (by simp [spC]) rfl]; exact hK'
    · exact wp_fieldAddr (hfield _ (by decide)) (by rw [eval_tmp, hk'.get 2 (by omega), h.g2]) hK'
    · exact wp_load hT33 (by rw [eval_tmp]; exact hd'.c 30 (by simp [spC]) rfl) ((hf'.range h.r2 .nil) 4 _ rfl) hK'
    · exact wp_len hT33s (by rw [eval_tmp, hd'.c 31 (by simp [spC]) rfl, hu1]) hK'
    · exact wp_fieldAddr (hfield _ (by decide)) (by rw [eval_tmp, hk'.get 3 (by omega), h.g3]) hK'
    · exact wp_load hT33 (by rw [eval_tmp]; exact hd'.c 33 (by simp [spC]) rfl) ((hf'.range h.r3 .nil) 4 _ rfl) hK'
    · exact wp_len hT33s (by rw [eval_tmp, hd'.c 34 (by simp [spC]) rfl, hu2]) hK'
    · exact wp_neq (k1 := .i64) (by rw [eval_tmp]; exact hd'.c 32 (by simp [spC]) rfl) (by rw [eval_tmp]; exact hd'.c 35 (by simp [spC]) rfl) (by simpa using hK')
    · exact wp_pickNo (by rw [eval_tmp]; exact hd'.c 29 (by simp [spC]) rfl) (by rw [eval_tmp]; exact hd'.c 36 (by simp [spC]) rfl) hK'
  · intro a' w' hk' hf' hd'
    have g44 : get a' 44 = .bool false := hd'.c (nd' := [29, 36]) 37 (by simp [spC]) rfl
    refine hK1 a' w' ?_
    exact wp_cond_split (t := false) (by rw [eval_tmp, g44]) (fun h => by cases h) fun _ => hk a' w' (hk'.mono (by omega)) hf'

end Go.Kq

/- Two trees compared: what they lead to, and the tags. -/
namespace Go.Kq
open Go Go.Proofs

/-- A call on two trees that say the same. -/
def SameCall (P : Program) (f : FuncId) (y : T) : Prop :=
  ∀ (w : World) (A1 A2 : Nat → Prop) (c1 c2 : List Value), RepT w A1 c1 y → RepT w A2 c2 y → Calls P f #[.agg c1.toArray, .agg c2.toArray] w fun e w' => e = .returned (.bool true) ∧ Fr [] w w'

theorem Things.at {w : World} {A : Nat → Prop} {v : Value} {l : List T} (h : Things w A v l) {j : Nat} (hj : j < l.length) : ∃ b o cap es, v = .slice (some ⟨b, o, none⟩) l.length cap ∧ w.rangeAt b (o + j * 5) es ∧ RepT w A es (l[j]) := by
  rcases h with ⟨rfl, rfl⟩ | ⟨b, o, cap, _, rfl, _, es, h1, h2⟩
  · simp at hj
  · exact ⟨b, o, cap, es j, rfl, h1 j l[j] (by simp [hj]), h2 j l[j] (by simp [hj])⟩
theorem TagsR.at {w : World} {A : Nat → Prop} {v : Value} {u : List (Nat × List UInt8)} (h : TagsR w A v u) {j : Nat} (hj : j < u.length) : ∃ b o cap xv, v = .slice (some ⟨b, o, none⟩) u.length cap ∧ w.rangeAt b (o + j * 2) [.int .u32 (u[j]).1, xv] ∧ OctE w A xv (u[j]).2 := by
  rcases h with ⟨rfl, rfl⟩ | ⟨b, o, cap, _, rfl, _, h1⟩
  · simp at hj
  · obtain ⟨xv, _, h2, h3⟩ := h1 j (u[j]).1 (u[j]).2 (by simp [hj])
    exact ⟨b, o, cap, xv, rfl, h2, h3⟩
theorem Things.big {w : World} {A : Nat → Prop} {v : Value} {l : List T} (h : Things w A v l) : l.length ≤ 4294967296 := by
  rcases h with ⟨_, rfl⟩ | ⟨_, _, _, _, _, h, _⟩
  · simp
  · exact h.2
theorem TagsR.big {w : World} {A : Nat → Prop} {v : Value} {u : List (Nat × List UInt8)} (h : TagsR w A v u) : u.length ≤ 4294967296 := by
  rcases h with ⟨_, rfl⟩ | ⟨_, _, _, _, _, h, _⟩
  · simp
  · exact h.2

theorem st_loopL {P : Program} {T3 T4 T32 T35 et1 bs1 : TypeId} {f10 : FuncId} {a1 : Array TypeId} {i3 i4 i5 i6 i8 : Nat} {z : List Value} {c1 : Code}
    {t42 t43 t44 t45 t46 t47 t48 t49 t50 t51 t52 t53 t54 t55 t56 t57 t58 t59 t60 t62 t63 : TypeId} {p42 p43 p44 p45 p46 p47 p48 p49 p50 p51 p52 p53 p54 p55 p56 p57 p58 p59 p60 p62 p63 : String} {e42 e43 e44 e45 e46 e47 e48 e49 e50 e51 e52 e53 e54 e55 e56 e57 e58 e59 e60 e62 e63 : Array Edge}
    (hT : Flat P T35 z) (hz : z.length = 5) (hT32 : scal P T32 = true) (hT32s : sliceOf P T32 et1 5 bs1 = true) (hmx : P.follows .mixedOrders = true) (hrec : Enters P f10)
    (he : edgeOk 0 [e49, e50, e51, e52, e53, e54, e55, e56, e57, e58, e59, e60] [[], [0], [], [1, 2], [3], [], [5], [], [6, 7], [8], [4, 9], [10]] = true)
    {a : Act} {w : World} {K : Act → World → Prop} {Q : Exit → Act → World → Prop} {b2 b3 : Nat} {n : Int} {nl : Bool} {s1 s2 l1 l2 u1 u2 : Value} {A1 A2 : Nat → Prop} {s : List UInt8} {l : List T} {u : List (Nat × List UInt8)} (h : SE a w b2 b3 n nl s1 s2 l1 l2 u1 u2 A1 A2 s l u)
    (hcall : ∀ y ∈ l, SameCall P f10 y) (hk : ∀ a' w', Kept 4 a a' → Fr [] w w' → K a' w') :
    (Code.seq (Code.region i3 ⟨[⟨some 45, .fieldAddr T35 (.tmp 2) 3, t42, p42, e42, none⟩, ⟨some 46, .load T32 (.tmp 45), t43, p43, e43, none⟩, ⟨some 47, .call ⟨.builtin .len, #[(.tmp 46)], #[T32]⟩, t44, p44, e44, none⟩, ⟨some 48, .move (.const (.int .i64 0)), t45, p45, e45, none⟩]⟩ false)
      (.block 0 (.loop (.seq (Code.region i4 ⟨[⟨some 49, .binOp .lss T3 (.tmp 48) (.tmp 47) T3, t46, p46, e46, none⟩]⟩ false)
        (.seq (.cond (.tmp 49) .skip (.exit 0))
          (.seq (.block 1 (.seq (Code.region i5 ⟨[⟨some 50, .move (.tmp 48), t47, p47, e47, none⟩, ⟨some 5, .assign (.tmp 50), t48, p48, e48, none⟩]⟩ false)
              (.seq (Code.region i6 ⟨[⟨some 51, .fieldAddr T35 (.tmp 2) 3, t49, p49, e49, none⟩, ⟨some 52, .load T32 (.tmp 51), t50, p50, e50, none⟩, ⟨some 53, .move (.tmp 5), t51, p51, e51, none⟩, ⟨some 54, .indexAddr T32 (.tmp 52) (.tmp 53), t52, p52, e52, none⟩, ⟨some 55, .load T35 (.tmp 54), t53, p53, e53, none⟩,
                  ⟨some 56, .fieldAddr T35 (.tmp 3) 3, t54, p54, e54, none⟩, ⟨some 57, .load T32 (.tmp 56), t55, p55, e55, none⟩, ⟨some 58, .move (.tmp 5), t56, p56, e56, none⟩, ⟨some 59, .indexAddr T32 (.tmp 57) (.tmp 58), t57, p57, e57, none⟩, ⟨some 60, .load T35 (.tmp 59), t58, p58, e58, none⟩,
                  ⟨some 61, .call ⟨.value (.func f10), #[(.tmp 55), (.tmp 60)], a1⟩, t59, p59, e59, none⟩, ⟨some 62, .unOp .not T4 (.tmp 61), t60, p60, e60, none⟩]⟩ true)
                (.cond (.tmp 62) c1 .skip))))
            (Code.region i8 ⟨[⟨some 63, .binOp .add T3 (.tmp 48) (.const (.int .i64 1)) T3, t62, p62, e62, none⟩, ⟨some 48, .move (.tmp 63), t63, p63, e63, none⟩]⟩ false))))))).wp P (Exit.then K Q) a w := by
  have hsz := h.size
  have hbig := h.t1.big
  obtain ⟨ql1, cl1, hl1⟩ := h.t1.slice
  refine wp_seq_k fun K5 hK5 => ?_
  refine wp_reg ?_
  rw [wpl_cons]
  refine wp_fieldAddr (hT.field (k := 3) (by rw [hz]; decide)) (by rw [eval_tmp, h.g2]) ?_
  rw [wpl_cons]
  refine wp_load hT32 (by rw [eval_tmp, get_put_same (by omega)]) (h.r2 3 l1 rfl) ?_
  rw [wpl_cons]
  refine wp_len hT32s (by rw [eval_tmp, get_put_same (by simp only [size_put]; omega), hl1]) ?_
  rw [wpl_cons, wp_move, eval_const, wpl_nil]
  generalize ha3 : (((a.put (some 45) (.pointer (some ⟨b2, 0 + 3, none⟩))).put (some 46) l1).put (some 47) (.int .i64 l.length)).put (some 48) (.int .i64 0) = a3
  have k3 : Kept 4 a a3 := by subst ha3; exact (((Kept.put0 (by omega) _).put (by omega) _).put (by omega) _).put (by omega) _
  have g47 : get a3 47 = .int .i64 l.length := by subst ha3; rw [get_put_ne (by omega), get_put_same (by simp only [size_put]; omega)]
  have g48 : get a3 48 = .int .i64 0 := by subst ha3; rw [get_put_same (by simp only [size_put]; omega)]
  clear ha3
  refine hK5 a3 w ?_
  refine wp_block (wp_loop (fun a' w' => ∃ j : Nat, j ≤ l.length ∧ Kept 4 a a' ∧ get a' 47 = .int .i64 l.length ∧ get a' 48 = .int .i64 j ∧ Fr [] w w') (fun a' _ => l.length - idxOf (get a' 48)) ?_ ?_)
  · exact ⟨0, Nat.zero_le _, k3, g47, g48, Fr.refl _ _⟩
  · rintro a4 w4 ⟨j, hj, k4, gl, gi, f4⟩
    have hz4 := k4.size
    refine wp_seq_k fun K6 hK6 => ?_
    refine wp_reg ?_
    rw [wpl_cons]
    refine wp_lss (k1 := .i64) (i := j) (j := l.length) (by rw [eval_tmp, gi]) (by rw [eval_tmp, gl]) ?_
    rw [wpl_nil]
    generalize ha5 : a4.put (some 49) (.bool (decide ((j : Int) < l.length))) = a5
    have k5 : Kept 49 a4 a5 := by subst ha5; exact Kept.put0 (Nat.le_refl _) _
    have g49 : get a5 49 = .bool (decide ((j : Int) < l.length)) := by subst ha5; exact get_put_same (by omega)
    clear ha5
    have hz5 := k5.size
    refine hK6 a5 w4 ?_
    refine wp_seq_k fun K7 hK7 => ?_
    refine wp_cond_split (t := decide ((j : Int) < l.length)) (by rw [eval_tmp, g49]) ?_ ?_
    · intro hlt
      have hjl : j < l.length := by simpa using hlt
      refine wp_skip (hK7 a5 w4 ?_)
      refine wp_seq_k fun K8 hK8 => ?_
      refine wp_block (wp_mono (show Code.wp P _ (Exit.then K8 (Exit.inBlock 1 (Exit.then K8 _))) a5 w4 from ?_) (fun _ _ _ => inBlock_then))
      refine wp_seq_k fun K9 hK9 => ?_
      refine wp_reg ?_
      rw [wpl_cons, wp_move, eval_tmp, k5.get 48 (by omega), gi, wpl_cons, wp_assign, eval_tmp, get_put_same (by omega), wpl_nil]
      generalize ha6 : (a5.put (some 50) (.int .i64 j)).put (some 5) (.int .i64 j) = a6
      have k6 : Kept 4 a4 a6 := by subst ha6; exact (k5.mono (by omega)).trans ((Kept.put0 (by omega) _).put (by omega) _)
      have g5 : get a6 5 = .int .i64 j := by subst ha6; exact get_put_same (by simp only [size_put]; omega)
      have g47' : get a6 47 = .int .i64 l.length := by subst ha6; rw [get_put_ne (by omega), get_put_ne (by omega), k5.get 47 (by omega), gl]
      have g48' : get a6 48 = .int .i64 j := by subst ha6; rw [get_put_ne (by omega), get_put_ne (by omega), k5.get 48 (by omega), gi]
      clear ha6
      have kk6 := k4.trans k6
      have h6 := h.step kk6 f4
      have hz6 := h6.size
      obtain ⟨bb1, oo1, cc1, es1, hv1, hr1, ht1⟩ := h6.t1.at hjl
      obtain ⟨bb2, oo2, cc2, es2, hv2, hr2, ht2⟩ := h6.t2.at hjl
      refine hK9 a6 w4 ?_
      refine wp_seq_k fun K10 hK10 => ?_
      refine wp_drawE0 [spC [] (.pointer (some ⟨b2, 0 + 3, none⟩)), spC [0] l1, spC [] (.int .i64 j), spC [1, 2] (.pointer (some ⟨bb1, oo1 + (j : Int).toNat * 5, none⟩)), spC [3] (.agg es1.toArray),
        spC [] (.pointer (some ⟨b3, 0 + 3, none⟩)), spC [5] l2, spC [] (.int .i64 j), spC [6, 7] (.pointer (some ⟨bb2, oo2 + (j : Int).toNat * 5, none⟩)), spC [8] (.agg es2.toArray), spC [4, 9] (.bool true), spC [10] (.bool false)] 51 [] hmx he (by simp [shape]) (by simp [spC]) (by simp; omega)
        ⟨lasts_c _ _ _, lasts_c _ _ _, lasts_c _ _ _, lasts_c _ _ _, lasts_c _ _ _, lasts_c _ _ _, lasts_c _ _ _, lasts_c _ _ _, lasts_c _ _ _, lasts_c _ _ _, lasts_c _ _ _, lasts_c _ _ _, trivial⟩ ?_ ?_
      · refine ⟨op_c fun a' w' hk' hf' hd' K' hK' => ?_, op_c fun a' w' hk' hf' hd' K' hK' => ?_, op_c fun a' w' hk' hf' hd' K' hK' => ?_, op_c fun a' w' hk' hf' hd' K' hK' => ?_, op_c fun a' w' hk' hf' hd' K' hK' => ?_,
          op_c fun a' w' hk' hf' hd' K' hK' => ?_, op_c fun a' w' hk' hf' hd' K' hK' => ?_, op_c fun a' w' hk' hf' hd' K' hK' => ?_, op_c fun a' w' hk' hf' hd' K' hK' => ?_, op_c fun a' w' hk' hf' hd' K' hK' => ?_,
          op_r fun a' w' hk' hf' hd' K' hK' => ?_, op_c fun a' w' hk' hf' hd' K' hK' => ?_, trivial⟩
        · exact wp_fieldAddr (hT.field (by rw [hz]; decide)) (by rw [eval_tmp, hk'.get 2 (by omega), h6.g2]) hK'
        · exact wp_load hT32 (by rw [eval_tmp]; exact hd'.c 0 (by simp [spC]) rfl) ((hf'.range h6.r2 .nil) 3 _ rfl) hK'
        · rw [wp_move, eval_tmp, hk'.get 5 (by omega), g5]; exact hK'
        · exact wp_indexAddr hT32s (by rw [eval_tmp, hd'.c 1 (by simp [spC]) rfl, hv1]) (by rw [eval_tmp]; exact hd'.c 2 (by simp [spC]) rfl) (by omega) (by omega) hK'
        · exact wp_loadFlat hT (cs := es1) (by rw [ht1.length, hz]) (by rw [eval_tmp, hd'.c 3 (by simp [spC]) rfl]) (by simpa using hf'.range hr1 .nil) hK'
        · exact wp_fieldAddr (hT.field (by rw [hz]; decide)) (by rw [eval_tmp, hk'.get 3 (by omega), h6.g3]) hK'
        · exact wp_load hT32 (by rw [eval_tmp]; exact hd'.c 5 (by simp [spC]) rfl) ((hf'.range h6.r3 .nil) 3 _ rfl) hK'
        · rw [wp_move, eval_tmp, hk'.get 5 (by omega), g5]; exact hK'
        · exact wp_indexAddr hT32s (by rw [eval_tmp, hd'.c 6 (by simp [spC]) rfl, hv2]) (by rw [eval_tmp]; exact hd'.c 7 (by simp [spC]) rfl) (by omega) (by omega) hK'
        · exact wp_loadFlat hT (cs := es2) (by rw [ht2.length, hz]) (by rw [eval_tmp, hd'.c 8 (by simp [spC]) rfl]) (by simpa using hf'.range hr2 .nil) hK'
        · exact wp_calls hrec (vs := #[.agg es1.toArray, .agg es2.toArray]) (by simp [eval_tmp, hd'.c 4 (by simp [spC]) rfl, hd'.c 9 (by simp [spC]) rfl]) (R := fun v w2 => v = .bool true ∧ Fr [] w' w2)
            ((hcall _ (List.getElem_mem hjl) w' A1 A2 es1 es2 (ht1.kept hf' (by simp) (fun _ h => h)) (ht2.kept hf' (by simp) (fun _ h => h))).mono (by rintro e' w2 ⟨rfl, h2⟩; exact ⟨_, rfl, rfl, h2⟩)) (by rintro v w2 ⟨rfl, h2⟩; exact hK' _ _ rfl h2)
        · exact wp_not (b := true) (by rw [eval_tmp]; exact hd'.c 10 (by simp [spC]) rfl) hK'
      · intro a7 w7 k7 f7 hd7
        have g62 : get a7 62 = .bool false := hd7.c (nd' := [10]) 11 (by simp) rfl
        refine hK10 a7 w7 ?_
        refine wp_cond_split (t := false) (by rw [eval_tmp, g62]) (fun h => by cases h) fun _ => wp_skip (hK8 a7 w7 ?_)
        have hz7 := k7.size
        refine wp_reg ?_
        rw [wpl_cons]
        refine wp_add (k1 := .i64) (i := j) (j := 1) (by rw [eval_tmp, k7.get 48 (by omega), g48']) rfl ?_
        rw [wpl_cons, wp_move, eval_tmp, get_put_same (by omega), wpl_nil]
        have hwr : IntKind.i64.wrap ((j : Int) + 1) = ((j + 1 : Nat) : Int) := by
          simp [IntKind.wrap, IntKind.bits, IntKind.signed]; omega
        rw [hwr]
        refine ⟨⟨j + 1, hjl, ?_, ?_, ?_, f4.tr f7⟩, ?_⟩
        · exact (kk6.trans (k7.mono (by omega))).trans ((Kept.put0 (by omega) _).put (by omega) _)
        · rw [get_put_ne (by omega), get_put_ne (by omega), k7.get 47 (by omega), g47']
        · rw [get_put_same (by simp only [size_put]; omega)]
        · rw [get_put_same (by simp only [size_put]; omega), gi]; simp [idxOf]; omega
    · intro hge
      refine wp_exit ?_
      show K a5 w4
      exact hk a5 w4 (k4.trans (k5.mono (by omega))) f4

end Go.Kq

/- Two trees compared: the tags, and the whole. Written by mk_st3.py. -/
namespace Go.Kq
open Go Go.Proofs

theorem st_loopU {P : Program} {T3 T4 T22 T33 T35 T59 T61 et2 bs2 : TypeId} {f21 : FuncId} {a2 : Array TypeId} {i9 i10 i11 i12 i14 : Nat} {z z2 : List Value} {c1 : Code}
    {t64 t65 t66 t67 t68 t69 t70 t71 t72 t73 t74 t75 t76 t77 t78 t79 t80 t81 t82 t83 t84 t85 t86 t87 t88 t89 t90 t91 t92 t93 t94 t95 t96 t97 t98 t99 t101 t102 : TypeId} {p64 p65 p66 p67 p68 p69 p70 p71 p72 p73 p74 p75 p76 p77 p78 p79 p80 p81 p82 p83 p84 p85 p86 p87 p88 p89 p90 p91 p92 p93 p94 p95 p96 p97 p98 p99 p101 p102 : String} {e64 e65 e66 e67 e68 e69 e70 e71 e72 e73 e74 e75 e76 e77 e78 e79 e80 e81 e82 e83 e84 e85 e86 e87 e88 e89 e90 e91 e92 e93 e94 e95 e96 e97 e98 e99 e101 e102 : Array Edge}
    (hT : Flat P T35 z) (hz : z.length = 5) (hT61 : Flat P T61 z2) (hz2 : z2.length = 2) (hT33 : scal P T33 = true) (hT59 : scal P T59 = true) (hT22 : scal P T22 = true) (hT33s : sliceOf P T33 et2 2 bs2 = true) (hmx : P.follows .mixedOrders = true) (hS : SameM P f21)
    (he : edgeOk 0 [e71, e72, e73, e74, e75, e76, e77, e78, e79, e80, e81, e82, e83, e84, e85, e86, e87, e88, e89, e90, e91, e92, e93, e94, e95, e96, e97, e98, e99] [[], [0], [], [1, 2], [3], [4], [], [6], [], [7, 8], [9], [10], [5, 11], [12], [13], [14, 13], [13], [15, 16, 13], [17, 13], [18, 13], [13], [20, 13], [13], [21, 22, 13], [23, 13], [24, 13], [19, 25, 13], [26, 13], [13, 27]] = true)
    {a : Act} {w : World} {K : Act → World → Prop} {Q : Exit → Act → World → Prop} {b2 b3 : Nat} {n : Int} {nl : Bool} {s1 s2 l1 l2 u1 u2 : Value} {A1 A2 : Nat → Prop} {s : List UInt8} {l : List T} {u : List (Nat × List UInt8)} (h : SE a w b2 b3 n nl s1 s2 l1 l2 u1 u2 A1 A2 s l u)
    (hk : ∀ a' w', Kept 4 a a' → Fr [] w w' → K a' w') :
    (Code.seq (Code.region i9 ⟨[⟨some 64, .fieldAddr T35 (.tmp 2) 4, t64, p64, e64, none⟩,
    ⟨some 65, .load T33 (.tmp 64), t65, p65, e65, none⟩,
    ⟨some 66, .call ⟨.builtin .len, #[(.tmp 65)], #[T33]⟩, t66, p66, e66, none⟩,
    ⟨some 67, .move (.const (.int .i64 0)), t67, p67, e67, none⟩]⟩ false)
  (.block 2 (.loop (.seq (Code.region i10 ⟨[⟨some 68, .binOp .lss T3 (.tmp 67) (.tmp 66) T3, t68, p68, e68, none⟩]⟩ false)
  (.seq (.cond (.tmp 68) .skip
  (.exit 2))
  (.seq (.block 3 (.seq (Code.region i11 ⟨[⟨some 69, .move (.tmp 67), t69, p69, e69, none⟩,
    ⟨some 6, .assign (.tmp 69), t70, p70, e70, none⟩]⟩ false)
  (.seq (Code.region i12 ⟨[⟨some 70, .fieldAddr T35 (.tmp 2) 4, t71, p71, e71, none⟩,
    ⟨some 71, .load T33 (.tmp 70), t72, p72, e72, none⟩,
    ⟨some 72, .move (.tmp 6), t73, p73, e73, none⟩,
    ⟨some 73, .indexAddr T33 (.tmp 71) (.tmp 72), t74, p74, e74, none⟩,
    ⟨some 74, .fieldAddr T61 (.tmp 73) 0, t75, p75, e75, none⟩,
    ⟨some 75, .load T59 (.tmp 74), t76, p76, e76, none⟩,
    ⟨some 76, .fieldAddr T35 (.tmp 3) 4, t77, p77, e77, none⟩,
    ⟨some 77, .load T33 (.tmp 76), t78, p78, e78, none⟩,
    ⟨some 78, .move (.tmp 6), t79, p79, e79, none⟩,
    ⟨some 79, .indexAddr T33 (.tmp 77) (.tmp 78), t80, p80, e80, none⟩,
    ⟨some 80, .fieldAddr T61 (.tmp 79) 0, t81, p81, e81, none⟩,
    ⟨some 81, .load T59 (.tmp 80), t82, p82, e82, none⟩,
    ⟨some 82, .binOp .neq T59 (.tmp 75) (.tmp 81) T59, t83, p83, e83, none⟩,
    ⟨some 83, .move (.tmp 82), t84, p84, e84, none⟩,
    ⟨some 84, .fieldAddr T35 (.tmp 2) 4, t85, p85, e85, some (13, false)⟩,
    ⟨some 85, .load T33 (.tmp 84), t86, p86, e86, some (13, false)⟩,
    ⟨some 86, .move (.tmp 6), t87, p87, e87, some (13, false)⟩,
    ⟨some 87, .indexAddr T33 (.tmp 85) (.tmp 86), t88, p88, e88, some (13, false)⟩,
    ⟨some 88, .fieldAddr T61 (.tmp 87) 1, t89, p89, e89, some (13, false)⟩,
    ⟨some 89, .load T22 (.tmp 88), t90, p90, e90, some (13, false)⟩,
    ⟨some 90, .fieldAddr T35 (.tmp 3) 4, t91, p91, e91, some (13, false)⟩,
    ⟨some 91, .load T33 (.tmp 90), t92, p92, e92, some (13, false)⟩,
    ⟨some 92, .move (.tmp 6), t93, p93, e93, some (13, false)⟩,
    ⟨some 93, .indexAddr T33 (.tmp 91) (.tmp 92), t94, p94, e94, some (13, false)⟩,
    ⟨some 94, .fieldAddr T61 (.tmp 93) 1, t95, p95, e95, some (13, false)⟩,
    ⟨some 95, .load T22 (.tmp 94), t96, p96, e96, some (13, false)⟩,
    ⟨some 96, .call ⟨.value (.func f21), #[(.tmp 89), (.tmp 95)], a2⟩, t97, p97, e97, some (13, false)⟩,
    ⟨some 97, .unOp .not T4 (.tmp 96), t98, p98, e98, some (13, false)⟩,
    ⟨some 98, .pick (.tmp 83) (.const (.bool true)) (.tmp 97), t99, p99, e99, none⟩]⟩ true)
  (.cond (.tmp 98) c1
  .skip))))
  (Code.region i14 ⟨[⟨some 99, .binOp .add T3 (.tmp 67) (.const (.int .i64 1)) T3, t101, p101, e101, none⟩,
    ⟨some 67, .move (.tmp 99), t102, p102, e102, none⟩]⟩ false))))))).wp P (Exit.then K Q) a w := by
  have hsz := h.size
  have hbig := h.v1.big
  obtain ⟨qu1, cu1, hu1⟩ := h.v1.slice
  refine wp_seq_k fun K5 hK5 => ?_
  refine wp_reg ?_
  rw [wpl_cons]
  refine wp_fieldAddr (hT.field (k := 4) (by rw [hz]; decide)) (by rw [eval_tmp, h.g2]) ?_
  rw [wpl_cons]
  refine wp_load hT33 (by rw [eval_tmp, get_put_same (by omega)]) (h.r2 4 u1 rfl) ?_
  rw [wpl_cons]
  refine wp_len hT33s (by rw [eval_tmp, get_put_same (by simp only [size_put]; omega), hu1]) ?_
  rw [wpl_cons, wp_move, eval_const, wpl_nil]
  generalize ha3 : (((a.put (some 64) (.pointer (some ⟨b2, 0 + 4, none⟩))).put (some 65) u1).put (some 66) (.int .i64 u.length)).put (some 67) (.int .i64 0) = a3
  have k3 : Kept 4 a a3 := by subst ha3; exact (((Kept.put0 (by omega) _).put (by omega) _).put (by omega) _).put (by omega) _
  have g66 : get a3 66 = .int .i64 u.length := by subst ha3; rw [get_put_ne (by omega), get_put_same (by simp only [size_put]; omega)]
  have g67 : get a3 67 = .int .i64 0 := by subst ha3; rw [get_put_same (by simp only [size_put]; omega)]
  clear ha3
  refine hK5 a3 w ?_
  refine wp_block (wp_loop (fun a' w' => ∃ j : Nat, j ≤ u.length ∧ Kept 4 a a' ∧ get a' 66 = .int .i64 u.length ∧ get a' 67 = .int .i64 j ∧ Fr [] w w') (fun a' _ => u.length - idxOf (get a' 67)) ?_ ?_)
  · exact ⟨0, Nat.zero_le _, k3, g66, g67, Fr.refl _ _⟩
  · rintro a4 w4 ⟨j, hj, k4, gl, gi, f4⟩
    have hz4 := k4.size
    refine wp_seq_k fun K6 hK6 => ?_
    refine wp_reg ?_
    rw [wpl_cons]
    refine wp_lss (k1 := .i64) (i := j) (j := u.length) (by rw [eval_tmp, gi]) (by rw [eval_tmp, gl]) ?_
    rw [wpl_nil]
    generalize ha5 : a4.put (some 68) (.bool (decide ((j : Int) < u.length))) = a5
    have k5 : Kept 68 a4 a5 := by subst ha5; exact Kept.put0 (Nat.le_refl _) _
    have g68 : get a5 68 = .bool (decide ((j : Int) < u.length)) := by subst ha5; exact get_put_same (by omega)
    clear ha5
    have hz5 := k5.size
    refine hK6 a5 w4 ?_
    refine wp_seq_k fun K7 hK7 => ?_
    refine wp_cond_split (t := decide ((j : Int) < u.length)) (by rw [eval_tmp, g68]) ?_ ?_
    · intro hlt
      have hjl : j < u.length := by simpa using hlt
      refine wp_skip (hK7 a5 w4 ?_)
      refine wp_seq_k fun K8 hK8 => ?_
      refine wp_block (wp_mono (show Code.wp P _ (Exit.then K8 (Exit.inBlock 3 (Exit.then K8 _))) a5 w4 from ?_) (fun _ _ _ => inBlock_then))
      refine wp_seq_k fun K9 hK9 => ?_
      refine wp_reg ?_
      rw [wpl_cons, wp_move, eval_tmp, k5.get 67 (by omega), gi, wpl_cons, wp_assign, eval_tmp, get_put_same (by omega), wpl_nil]
      generalize ha6 : (a5.put (some 69) (.int .i64 j)).put (some 6) (.int .i64 j) = a6
      have k6 : Kept 4 a4 a6 := by subst ha6; exact (k5.mono (by omega)).trans ((Kept.put0 (by omega) _).put (by omega) _)
      have g5 : get a6 6 = .int .i64 j := by subst ha6; exact get_put_same (by simp only [size_put]; omega)
      have g66' : get a6 66 = .int .i64 u.length := by subst ha6; rw [get_put_ne (by omega), get_put_ne (by omega), k5.get 66 (by omega), gl]
      have g67' : get a6 67 = .int .i64 j := by subst ha6; rw [get_put_ne (by omega), get_put_ne (by omega), k5.get 67 (by omega), gi]
      clear ha6
      have kk6 := k4.trans k6
      have h6 := h.step kk6 f4
      have hz6 := h6.size
      obtain ⟨bb1, oo1, cc1, xv1, hv1, hr1, ht1⟩ := h6.v1.at hjl
      obtain ⟨bb2, oo2, cc2, xv2, hv2, hr2, ht2⟩ := h6.v2.at hjl
      refine hK9 a6 w4 ?_
      refine wp_seq_k fun K10 hK10 => ?_
      refine wp_drawE0 [spC [] (.pointer (some ⟨b2, 0 + 4, none⟩)),
        spC [0] u1,
        spC [] (.int .i64 j),
        spC [1, 2] (.pointer (some ⟨bb1, oo1 + (j : Int).toNat * 2, none⟩)),
        spC [3] (.pointer (some ⟨bb1, oo1 + (j : Int).toNat * 2 + 0, none⟩)),
        spC [4] (.int .u32 (u[j]).1),
        spC [] (.pointer (some ⟨b3, 0 + 4, none⟩)),
        spC [6] u2,
        spC [] (.int .i64 j),
        spC [7, 8] (.pointer (some ⟨bb2, oo2 + (j : Int).toNat * 2, none⟩)),
        spC [9] (.pointer (some ⟨bb2, oo2 + (j : Int).toNat * 2 + 0, none⟩)),
        spC [10] (.int .u32 (u[j]).1),
        spC [5, 11] (.bool false),
        spC [12] (.bool false),
        spC [13] (.pointer (some ⟨b2, 0 + 4, none⟩)),
        spC [14, 13] u1,
        spC [13] (.int .i64 j),
        spC [15, 16, 13] (.pointer (some ⟨bb1, oo1 + (j : Int).toNat * 2, none⟩)),
        spC [17, 13] (.pointer (some ⟨bb1, oo1 + (j : Int).toNat * 2 + 1, none⟩)),
        spC [18, 13] xv1,
        spC [13] (.pointer (some ⟨b3, 0 + 4, none⟩)),
        spC [20, 13] u2,
        spC [13] (.int .i64 j),
        spC [21, 22, 13] (.pointer (some ⟨bb2, oo2 + (j : Int).toNat * 2, none⟩)),
        spC [23, 13] (.pointer (some ⟨bb2, oo2 + (j : Int).toNat * 2 + 1, none⟩)),
        spC [24, 13] xv2,
        spC [19, 25, 13] (.bool true),
        spC [26, 13] (.bool false),
        spC [13, 27] (.bool false)] 70 [] hmx he (by simp [shape]) (by simp [spC]) (by simp; omega)
        ⟨lasts_c _ _ _, lasts_c _ _ _, lasts_c _ _ _, lasts_c _ _ _, lasts_c _ _ _, lasts_c _ _ _, lasts_c _ _ _, lasts_c _ _ _, lasts_c _ _ _, lasts_c _ _ _, lasts_c _ _ _, lasts_c _ _ _, lasts_c _ _ _, lasts_c _ _ _, lasts_c _ _ _, lasts_c _ _ _, lasts_c _ _ _, lasts_c _ _ _, lasts_c _ _ _, lasts_c _ _ _, lasts_c _ _ _, lasts_c _ _ _, lasts_c _ _ _, lasts_c _ _ _, lasts_c _ _ _, lasts_c _ _ _, lasts_c _ _ _, lasts_c _ _ _, lasts_c _ _ _, trivial⟩ ?_ ?_
      · refine ⟨op_c fun a' w' hk' hf' hd' K' hK' => ?_,
          op_c fun a' w' hk' hf' hd' K' hK' => ?_,
          op_c fun a' w' hk' hf' hd' K' hK' => ?_,
          op_c fun a' w' hk' hf' hd' K' hK' => ?_,
          op_c fun a' w' hk' hf' hd' K' hK' => ?_,
          op_c fun a' w' hk' hf' hd' K' hK' => ?_,
          op_c fun a' w' hk' hf' hd' K' hK' => ?_,
          op_c fun a' w' hk' hf' hd' K' hK' => ?_,
          op_c fun a' w' hk' hf' hd' K' hK' => ?_,
          op_c fun a' w' hk' hf' hd' K' hK' => ?_,
          op_c fun a' w' hk' hf' hd' K' hK' => ?_,
          op_c fun a' w' hk' hf' hd' K' hK' => ?_,
          op_c fun a' w' hk' hf' hd' K' hK' => ?_,
          op_c fun a' w' hk' hf' hd' K' hK' => ?_,
          op_gy rfl (by omega) (fun _ _ hd' => hd'.c 13 (by simp [spC]) rfl) (op_c fun a' w' hk' hf' hd' K' hK' => ?_),
          op_gy rfl (by omega) (fun _ _ hd' => hd'.c 13 (by simp [spC]) rfl) (op_c fun a' w' hk' hf' hd' K' hK' => ?_),
          op_gy rfl (by omega) (fun _ _ hd' => hd'.c 13 (by simp [spC]) rfl) (op_c fun a' w' hk' hf' hd' K' hK' => ?_),
          op_gy rfl (by omega) (fun _ _ hd' => hd'.c 13 (by simp [spC]) rfl) (op_c fun a' w' hk' hf' hd' K' hK' => ?_),
          op_gy rfl (by omega) (fun _ _ hd' => hd'.c 13 (by simp [spC]) rfl) (op_c fun a' w' hk' hf' hd' K' hK' => ?_),
          op_gy rfl (by omega) (fun _ _ hd' => hd'.c 13 (by simp [spC]) rfl) (op_c fun a' w' hk' hf' hd' K' hK' => ?_),
          op_gy rfl (by omega) (fun _ _ hd' => hd'.c 13 (by simp [spC]) rfl) (op_c fun a' w' hk' hf' hd' K' hK' => ?_),
          op_gy rfl (by omega) (fun _ _ hd' => hd'.c 13 (by simp [spC]) rfl) (op_c fun a' w' hk' hf' hd' K' hK' => ?_),
          op_gy rfl (by omega) (fun _ _ hd' => hd'.c 13 (by simp [spC]) rfl) (op_c fun a' w' hk' hf' hd' K' hK' => ?_),
          op_gy rfl (by omega) (fun _ _ hd' => hd'.c 13 (by simp [spC]) rfl) (op_c fun a' w' hk' hf' hd' K' hK' => ?_),
          op_gy rfl (by omega) (fun _ _ hd' => hd'.c 13 (by simp [spC]) rfl) (op_c fun a' w' hk' hf' hd' K' hK' => ?_),
          op_gy rfl (by omega) (fun _ _ hd' => hd'.c 13 (by simp [spC]) rfl) (op_c fun a' w' hk' hf' hd' K' hK' => ?_),
          op_gy rfl (by omega) (fun _ _ hd' => hd'.c 13 (by simp [spC]) rfl) (op_r fun a' w' hk' hf' hd' K' hK' => ?_),
          op_gy rfl (by omega) (fun _ _ hd' => hd'.c 13 (by simp [spC]) rfl) (op_c fun a' w' hk' hf' hd' K' hK' => ?_),
          op_c fun a' w' hk' hf' hd' K' hK' => ?_, trivial⟩
        · exact wp_fieldAddr (hT.field (by rw [hz]; decide)) (by rw [eval_tmp, hk'.get 2 (by omega), h6.g2]) hK'
        · exact wp_load hT33 (by rw [eval_tmp]; exact hd'.c 0 (by simp [spC]) rfl) ((hf'.range h6.r2 .nil) 4 _ rfl) hK'
        · rw [wp_move, eval_tmp, hk'.get 6 (by omega), g5]; exact hK'
        · exact wp_indexAddr hT33s (by rw [eval_tmp, hd'.c 1 (by simp [spC]) rfl, hv1]) (by rw [eval_tmp]; exact hd'.c 2 (by simp [spC]) rfl) (by omega) (by omega) hK'
        · exact wp_fieldAddr (hT61.field (by rw [hz2]; decide)) (by rw [eval_tmp]; exact hd'.c 3 (by simp [spC]) rfl) hK'
        · exact wp_load hT59 (by rw [eval_tmp]; exact hd'.c 4 (by simp [spC]) rfl) (by have := (hf'.range hr1 .nil) 0 _ rfl; simpa using this) hK'
        · exact wp_fieldAddr (hT.field (by rw [hz]; decide)) (by rw [eval_tmp, hk'.get 3 (by omega), h6.g3]) hK'
        · exact wp_load hT33 (by rw [eval_tmp]; exact hd'.c 6 (by simp [spC]) rfl) ((hf'.range h6.r3 .nil) 4 _ rfl) hK'
        · rw [wp_move, eval_tmp, hk'.get 6 (by omega), g5]; exact hK'
        · exact wp_indexAddr hT33s (by rw [eval_tmp, hd'.c 7 (by simp [spC]) rfl, hv2]) (by rw [eval_tmp]; exact hd'.c 8 (by simp [spC]) rfl) (by omega) (by omega) hK'
        · exact wp_fieldAddr (hT61.field (by rw [hz2]; decide)) (by rw [eval_tmp]; exact hd'.c 9 (by simp [spC]) rfl) hK'
        · exact wp_load hT59 (by rw [eval_tmp]; exact hd'.c 10 (by simp [spC]) rfl) (by have := (hf'.range hr2 .nil) 0 _ rfl; simpa using this) hK'
        · exact wp_neq (k1 := .u32) (by rw [eval_tmp]; exact hd'.c 5 (by simp [spC]) rfl) (by rw [eval_tmp]; exact hd'.c 11 (by simp [spC]) rfl) (by simpa using hK')
        · rw [wp_move, eval_tmp, hd'.c 12 (by simp [spC]) rfl]; exact hK'
        · exact wp_fieldAddr (hT.field (by rw [hz]; decide)) (by rw [eval_tmp, hk'.get 2 (by omega), h6.g2]) hK'
        · exact wp_load hT33 (by rw [eval_tmp]; exact hd'.c 14 (by simp [spC]) rfl) ((hf'.range h6.r2 .nil) 4 _ rfl) hK'
        · rw [wp_move, eval_tmp, hk'.get 6 (by omega), g5]; exact hK'
        · exact wp_indexAddr hT33s (by rw [eval_tmp, hd'.c 15 (by simp [spC]) rfl, hv1]) (by rw [eval_tmp]; exact hd'.c 16 (by simp [spC]) rfl) (by omega) (by omega) hK'
        · exact wp_fieldAddr (hT61.field (by rw [hz2]; decide)) (by rw [eval_tmp]; exact hd'.c 17 (by simp [spC]) rfl) hK'
        · exact wp_load hT22 (by rw [eval_tmp]; exact hd'.c 18 (by simp [spC]) rfl) (by have := (hf'.range hr1 .nil) 1 _ rfl; simpa using this) hK'
        · exact wp_fieldAddr (hT.field (by rw [hz]; decide)) (by rw [eval_tmp, hk'.get 3 (by omega), h6.g3]) hK'
        · exact wp_load hT33 (by rw [eval_tmp]; exact hd'.c 20 (by simp [spC]) rfl) ((hf'.range h6.r3 .nil) 4 _ rfl) hK'
        · rw [wp_move, eval_tmp, hk'.get 6 (by omega), g5]; exact hK'
        · exact wp_indexAddr hT33s (by rw [eval_tmp, hd'.c 21 (by simp [spC]) rfl, hv2]) (by rw [eval_tmp]; exact hd'.c 22 (by simp [spC]) rfl) (by omega) (by omega) hK'
        · exact wp_fieldAddr (hT61.field (by rw [hz2]; decide)) (by rw [eval_tmp]; exact hd'.c 23 (by simp [spC]) rfl) hK'
        · exact wp_load hT22 (by rw [eval_tmp]; exact hd'.c 24 (by simp [spC]) rfl) (by have := (hf'.range hr2 .nil) 1 _ rfl; simpa using this) hK'
        · exact wp_calls hS.enters (vs := #[xv1, xv2]) (by simp [eval_tmp, hd'.c 19 (by simp [spC]) rfl, hd'.c 25 (by simp [spC]) rfl]) (R := fun v w2 => v = .bool true ∧ Fr [] w' w2) ((hS.call w' xv1 xv2 _ A1 A2 (ht1.kept hf' (by simp) (fun _ h => h)) (ht2.kept hf' (by simp) (fun _ h => h))).mono (by rintro e' w2 ⟨rfl, h2⟩; exact ⟨_, rfl, rfl, h2⟩)) (by rintro v w2 ⟨rfl, h2⟩; exact hK' _ _ rfl h2)
        · exact wp_not (b := true) (by rw [eval_tmp]; exact hd'.c 26 (by simp [spC]) rfl) hK'
        · exact wp_pickNo (by rw [eval_tmp]; exact hd'.c 13 (by simp [spC]) rfl) (by rw [eval_tmp]; exact hd'.c 27 (by simp [spC]) rfl) hK'
      · intro a7 w7 k7 f7 hd7
        have g98 : get a7 98 = .bool false := hd7.c (nd' := [13, 27]) 28 (by simp) rfl
        refine hK10 a7 w7 ?_
        refine wp_cond_split (t := false) (by rw [eval_tmp, g98]) (fun h => by cases h) fun _ => wp_skip (hK8 a7 w7 ?_)
        have hz7 := k7.size
        refine wp_reg ?_
        rw [wpl_cons]
        refine wp_add (k1 := .i64) (i := j) (j := 1) (by rw [eval_tmp, k7.get 67 (by omega), g67']) rfl ?_
        rw [wpl_cons, wp_move, eval_tmp, get_put_same (by omega), wpl_nil]
        have hwr : IntKind.i64.wrap ((j : Int) + 1) = ((j + 1 : Nat) : Int) := by
          simp [IntKind.wrap, IntKind.bits, IntKind.signed]; omega
        rw [hwr]
        refine ⟨⟨j + 1, hjl, ?_, ?_, ?_, f4.tr f7⟩, ?_⟩
        · exact (kk6.trans (k7.mono (by omega))).trans ((Kept.put0 (by omega) _).put (by omega) _)
        · rw [get_put_ne (by omega), get_put_ne (by omega), k7.get 66 (by omega), g66']
        · rw [get_put_same (by simp only [size_put]; omega)]
        · rw [get_put_same (by simp only [size_put]; omega), gi]; simp [idxOf]; omega
    · intro hge
      refine wp_exit ?_
      show K a5 w4
      exact hk a5 w4 (k4.trans (k5.mono (by omega))) f4

theorem T.ind {M : T → Prop} (h : ∀ n s nl l u, (∀ y ∈ l, M y) → M (.mk n s nl l u)) : ∀ t, M t
  | .mk n s nl l u => h n s nl l u fun y hy => T.ind h y
termination_by t => SizeOf.sizeOf t
decreasing_by
  have := List.sizeOf_lt_of_mem hy
  simp
  omega

theorem sametree_m {P : Program} {fn : Func} {z z2 : List Value} {et1 et2 bs1 bs2 : TypeId}
    {T2 T3 T4 T22 T32 T33 T35 T59 T61 : TypeId}
    {f10 f21 : FuncId}
    {a0 : Array TypeId}
    {a1 : Array TypeId}
    {a2 : Array TypeId}
    {i0 i1 i2 i3 i4 i5 i6 i7 i8 i9 i10 i11 i12 i13 i14 i15 : Nat}
    {t0 t1 t2 t3 t4 t5 t6 t7 t8 t9 t10 t11 t12 t13 t14 t15 t16 t17 t18 t19 t20 t21 t22 t23 t24 t25 t26 t27 t28 t29 t30 t31 t32 t33 t34 t35 t36 t37 t38 t39 t40 t41 t42 t43 t44 t45 t46 t47 t48 t49 t50 t51 t52 t53 t54 t55 t56 t57 t58 t59 t60 t61 t62 t63 t64 t65 t66 t67 t68 t69 t70 t71 t72 t73 t74 t75 t76 t77 t78 t79 t80 t81 t82 t83 t84 t85 t86 t87 t88 t89 t90 t91 t92 t93 t94 t95 t96 t97 t98 t99 t100 t101 t102 t103 : TypeId} {p0 p1 p2 p3 p4 p5 p6 p7 p8 p9 p10 p11 p12 p13 p14 p15 p16 p17 p18 p19 p20 p21 p22 p23 p24 p25 p26 p27 p28 p29 p30 p31 p32 p33 p34 p35 p36 p37 p38 p39 p40 p41 p42 p43 p44 p45 p46 p47 p48 p49 p50 p51 p52 p53 p54 p55 p56 p57 p58 p59 p60 p61 p62 p63 p64 p65 p66 p67 p68 p69 p70 p71 p72 p73 p74 p75 p76 p77 p78 p79 p80 p81 p82 p83 p84 p85 p86 p87 p88 p89 p90 p91 p92 p93 p94 p95 p96 p97 p98 p99 p100 p101 p102 p103 : String} {e0 e1 e2 e3 e4 e5 e6 e7 e8 e9 e10 e11 e12 e13 e14 e15 e16 e17 e18 e19 e20 e21 e22 e23 e24 e25 e26 e27 e28 e29 e30 e31 e32 e33 e34 e35 e36 e37 e38 e39 e40 e41 e42 e43 e44 e45 e46 e47 e48 e49 e50 e51 e52 e53 e54 e55 e56 e57 e58 e59 e60 e61 e62 e63 e64 e65 e66 e67 e68 e69 e70 e71 e72 e73 e74 e75 e76 e77 e78 e79 e80 e81 e82 e83 e84 e85 e86 e87 e88 e89 e90 e91 e92 e93 e94 e95 e96 e97 e98 e99 e100 e101 e102 e103 : Array Edge}
    (hf : P.funcs[f10]? = some fn) (hname : (fn.name == "runtime.NumGoroutine") = false) (hres : fn.results = #[.tmp 4]) (hN : fn.ntmps = 100) (hbody : fn.body = some (.seq (Code.region i0 ⟨[⟨some 2, .box T35 (.tmp 0), t0, p0, e0, none⟩,
    ⟨some 3, .box T35 (.tmp 1), t1, p1, e1, none⟩,
    ⟨some 4, .assign (.const (.bool false)), t2, p2, e2, none⟩]⟩ false)
  (.seq (.seq (Code.region i1 ⟨[⟨some 7, .fieldAddr T35 (.tmp 2) 0, t3, p3, e3, none⟩,
    ⟨some 8, .load T2 (.tmp 7), t4, p4, e4, none⟩,
    ⟨some 9, .fieldAddr T35 (.tmp 3) 0, t5, p5, e5, none⟩,
    ⟨some 10, .load T2 (.tmp 9), t6, p6, e6, none⟩,
    ⟨some 11, .binOp .neq T2 (.tmp 8) (.tmp 10) T2, t7, p7, e7, none⟩,
    ⟨some 12, .move (.tmp 11), t8, p8, e8, none⟩,
    ⟨some 13, .fieldAddr T35 (.tmp 2) 2, t9, p9, e9, some (5, false)⟩,
    ⟨some 14, .load T4 (.tmp 13), t10, p10, e10, some (5, false)⟩,
    ⟨some 15, .fieldAddr T35 (.tmp 3) 2, t11, p11, e11, some (5, false)⟩,
    ⟨some 16, .load T4 (.tmp 15), t12, p12, e12, some (5, false)⟩,
    ⟨some 17, .binOp .neq T4 (.tmp 14) (.tmp 16) T4, t13, p13, e13, some (5, false)⟩,
    ⟨some 18, .pick (.tmp 12) (.const (.bool true)) (.tmp 17), t14, p14, e14, none⟩,
    ⟨some 19, .move (.tmp 18), t15, p15, e15, none⟩,
    ⟨some 20, .fieldAddr T35 (.tmp 2) 1, t16, p16, e16, some (12, false)⟩,
    ⟨some 21, .load T22 (.tmp 20), t17, p17, e17, some (12, false)⟩,
    ⟨some 22, .fieldAddr T35 (.tmp 3) 1, t18, p18, e18, some (12, false)⟩,
    ⟨some 23, .load T22 (.tmp 22), t19, p19, e19, some (12, false)⟩,
    ⟨some 24, .call ⟨.value (.func f21), #[(.tmp 21), (.tmp 23)], a0⟩, t20, p20, e20, some (12, false)⟩,
    ⟨some 25, .unOp .not T4 (.tmp 24), t21, p21, e21, some (12, false)⟩,
    ⟨some 26, .pick (.tmp 19) (.const (.bool true)) (.tmp 25), t22, p22, e22, none⟩,
    ⟨some 27, .move (.tmp 26), t23, p23, e23, none⟩,
    ⟨some 28, .fieldAddr T35 (.tmp 2) 3, t24, p24, e24, some (20, false)⟩,
    ⟨some 29, .load T32 (.tmp 28), t25, p25, e25, some (20, false)⟩,
    ⟨some 30, .call ⟨.builtin .len, #[(.tmp 29)], #[T32]⟩, t26, p26, e26, some (20, false)⟩,
    ⟨some 31, .fieldAddr T35 (.tmp 3) 3, t27, p27, e27, some (20, false)⟩,
    ⟨some 32, .load T32 (.tmp 31), t28, p28, e28, some (20, false)⟩,
    ⟨some 33, .call ⟨.builtin .len, #[(.tmp 32)], #[T32]⟩, t29, p29, e29, some (20, false)⟩,
    ⟨some 34, .binOp .neq T3 (.tmp 30) (.tmp 33) T3, t30, p30, e30, some (20, false)⟩,
    ⟨some 35, .pick (.tmp 27) (.const (.bool true)) (.tmp 34), t31, p31, e31, none⟩,
    ⟨some 36, .move (.tmp 35), t32, p32, e32, none⟩,
    ⟨some 37, .fieldAddr T35 (.tmp 2) 4, t33, p33, e33, some (29, false)⟩,
    ⟨some 38, .load T33 (.tmp 37), t34, p34, e34, some (29, false)⟩,
    ⟨some 39, .call ⟨.builtin .len, #[(.tmp 38)], #[T33]⟩, t35, p35, e35, some (29, false)⟩,
    ⟨some 40, .fieldAddr T35 (.tmp 3) 4, t36, p36, e36, some (29, false)⟩,
    ⟨some 41, .load T33 (.tmp 40), t37, p37, e37, some (29, false)⟩,
    ⟨some 42, .call ⟨.builtin .len, #[(.tmp 41)], #[T33]⟩, t38, p38, e38, some (29, false)⟩,
    ⟨some 43, .binOp .neq T3 (.tmp 39) (.tmp 42) T3, t39, p39, e39, some (29, false)⟩,
    ⟨some 44, .pick (.tmp 36) (.const (.bool true)) (.tmp 43), t40, p40, e40, none⟩]⟩ false)
  (.cond (.tmp 44) (.seq (Code.region i2 ⟨[⟨some 4, .assign (.const (.bool false)), t41, p41, e41, none⟩]⟩ false)
  .ret)
  .skip))
  (.seq (.seq (Code.region i3 ⟨[⟨some 45, .fieldAddr T35 (.tmp 2) 3, t42, p42, e42, none⟩,
    ⟨some 46, .load T32 (.tmp 45), t43, p43, e43, none⟩,
    ⟨some 47, .call ⟨.builtin .len, #[(.tmp 46)], #[T32]⟩, t44, p44, e44, none⟩,
    ⟨some 48, .move (.const (.int .i64 0)), t45, p45, e45, none⟩]⟩ false)
  (.block 0 (.loop (.seq (Code.region i4 ⟨[⟨some 49, .binOp .lss T3 (.tmp 48) (.tmp 47) T3, t46, p46, e46, none⟩]⟩ false)
  (.seq (.cond (.tmp 49) .skip
  (.exit 0))
  (.seq (.block 1 (.seq (Code.region i5 ⟨[⟨some 50, .move (.tmp 48), t47, p47, e47, none⟩,
    ⟨some 5, .assign (.tmp 50), t48, p48, e48, none⟩]⟩ false)
  (.seq (Code.region i6 ⟨[⟨some 51, .fieldAddr T35 (.tmp 2) 3, t49, p49, e49, none⟩,
    ⟨some 52, .load T32 (.tmp 51), t50, p50, e50, none⟩,
    ⟨some 53, .move (.tmp 5), t51, p51, e51, none⟩,
    ⟨some 54, .indexAddr T32 (.tmp 52) (.tmp 53), t52, p52, e52, none⟩,
    ⟨some 55, .load T35 (.tmp 54), t53, p53, e53, none⟩,
    ⟨some 56, .fieldAddr T35 (.tmp 3) 3, t54, p54, e54, none⟩,
    ⟨some 57, .load T32 (.tmp 56), t55, p55, e55, none⟩,
    ⟨some 58, .move (.tmp 5), t56, p56, e56, none⟩,
    ⟨some 59, .indexAddr T32 (.tmp 57) (.tmp 58), t57, p57, e57, none⟩,
    ⟨some 60, .load T35 (.tmp 59), t58, p58, e58, none⟩,
    ⟨some 61, .call ⟨.value (.func f10), #[(.tmp 55), (.tmp 60)], a1⟩, t59, p59, e59, none⟩,
    ⟨some 62, .unOp .not T4 (.tmp 61), t60, p60, e60, none⟩]⟩ true)
  (.cond (.tmp 62) (.seq (Code.region i7 ⟨[⟨some 4, .assign (.const (.bool false)), t61, p61, e61, none⟩]⟩ false)
  .ret)
  .skip))))
  (Code.region i8 ⟨[⟨some 63, .binOp .add T3 (.tmp 48) (.const (.int .i64 1)) T3, t62, p62, e62, none⟩,
    ⟨some 48, .move (.tmp 63), t63, p63, e63, none⟩]⟩ false)))))))
  (.seq (.seq (Code.region i9 ⟨[⟨some 64, .fieldAddr T35 (.tmp 2) 4, t64, p64, e64, none⟩,
    ⟨some 65, .load T33 (.tmp 64), t65, p65, e65, none⟩,
    ⟨some 66, .call ⟨.builtin .len, #[(.tmp 65)], #[T33]⟩, t66, p66, e66, none⟩,
    ⟨some 67, .move (.const (.int .i64 0)), t67, p67, e67, none⟩]⟩ false)
  (.block 2 (.loop (.seq (Code.region i10 ⟨[⟨some 68, .binOp .lss T3 (.tmp 67) (.tmp 66) T3, t68, p68, e68, none⟩]⟩ false)
  (.seq (.cond (.tmp 68) .skip
  (.exit 2))
  (.seq (.block 3 (.seq (Code.region i11 ⟨[⟨some 69, .move (.tmp 67), t69, p69, e69, none⟩,
    ⟨some 6, .assign (.tmp 69), t70, p70, e70, none⟩]⟩ false)
  (.seq (Code.region i12 ⟨[⟨some 70, .fieldAddr T35 (.tmp 2) 4, t71, p71, e71, none⟩,
    ⟨some 71, .load T33 (.tmp 70), t72, p72, e72, none⟩,
    ⟨some 72, .move (.tmp 6), t73, p73, e73, none⟩,
    ⟨some 73, .indexAddr T33 (.tmp 71) (.tmp 72), t74, p74, e74, none⟩,
    ⟨some 74, .fieldAddr T61 (.tmp 73) 0, t75, p75, e75, none⟩,
    ⟨some 75, .load T59 (.tmp 74), t76, p76, e76, none⟩,
    ⟨some 76, .fieldAddr T35 (.tmp 3) 4, t77, p77, e77, none⟩,
    ⟨some 77, .load T33 (.tmp 76), t78, p78, e78, none⟩,
    ⟨some 78, .move (.tmp 6), t79, p79, e79, none⟩,
    ⟨some 79, .indexAddr T33 (.tmp 77) (.tmp 78), t80, p80, e80, none⟩,
    ⟨some 80, .fieldAddr T61 (.tmp 79) 0, t81, p81, e81, none⟩,
    ⟨some 81, .load T59 (.tmp 80), t82, p82, e82, none⟩,
    ⟨some 82, .binOp .neq T59 (.tmp 75) (.tmp 81) T59, t83, p83, e83, none⟩,
    ⟨some 83, .move (.tmp 82), t84, p84, e84, none⟩,
    ⟨some 84, .fieldAddr T35 (.tmp 2) 4, t85, p85, e85, some (13, false)⟩,
    ⟨some 85, .load T33 (.tmp 84), t86, p86, e86, some (13, false)⟩,
    ⟨some 86, .move (.tmp 6), t87, p87, e87, some (13, false)⟩,
    ⟨some 87, .indexAddr T33 (.tmp 85) (.tmp 86), t88, p88, e88, some (13, false)⟩,
    ⟨some 88, .fieldAddr T61 (.tmp 87) 1, t89, p89, e89, some (13, false)⟩,
    ⟨some 89, .load T22 (.tmp 88), t90, p90, e90, some (13, false)⟩,
    ⟨some 90, .fieldAddr T35 (.tmp 3) 4, t91, p91, e91, some (13, false)⟩,
    ⟨some 91, .load T33 (.tmp 90), t92, p92, e92, some (13, false)⟩,
    ⟨some 92, .move (.tmp 6), t93, p93, e93, some (13, false)⟩,
    ⟨some 93, .indexAddr T33 (.tmp 91) (.tmp 92), t94, p94, e94, some (13, false)⟩,
    ⟨some 94, .fieldAddr T61 (.tmp 93) 1, t95, p95, e95, some (13, false)⟩,
    ⟨some 95, .load T22 (.tmp 94), t96, p96, e96, some (13, false)⟩,
    ⟨some 96, .call ⟨.value (.func f21), #[(.tmp 89), (.tmp 95)], a2⟩, t97, p97, e97, some (13, false)⟩,
    ⟨some 97, .unOp .not T4 (.tmp 96), t98, p98, e98, some (13, false)⟩,
    ⟨some 98, .pick (.tmp 83) (.const (.bool true)) (.tmp 97), t99, p99, e99, none⟩]⟩ true)
  (.cond (.tmp 98) (.seq (Code.region i13 ⟨[⟨some 4, .assign (.const (.bool false)), t100, p100, e100, none⟩]⟩ false)
  .ret)
  .skip))))
  (Code.region i14 ⟨[⟨some 99, .binOp .add T3 (.tmp 67) (.const (.int .i64 1)) T3, t101, p101, e101, none⟩,
    ⟨some 67, .move (.tmp 99), t102, p102, e102, none⟩]⟩ false)))))))
  (.seq (Code.region i15 ⟨[⟨some 4, .assign (.const (.bool true)), t103, p103, e103, none⟩]⟩ false)
  .ret))))))
    (hT : Flat P T35 z) (hz : z.length = 5) (hT61 : Flat P T61 z2) (hz2 : z2.length = 2) (hT2 : scal P T2 = true) (hT4 : scal P T4 = true) (hT4b : boolTy P T4 = true) (hT22 : scal P T22 = true) (hT32 : scal P T32 = true) (hT33 : scal P T33 = true) (hT59 : scal P T59 = true)
    (hT32s : sliceOf P T32 et1 5 bs1 = true) (hT33s : sliceOf P T33 et2 2 bs2 = true) (hmx : P.follows .mixedOrders = true) (hS : SameM P f21)
    (he1 : edgeOk 0 [e49, e50, e51, e52, e53, e54, e55, e56, e57, e58, e59, e60] [[], [0], [], [1, 2], [3], [], [5], [], [6, 7], [8], [4, 9], [10]] = true)
    (he2 : edgeOk 0 [e71, e72, e73, e74, e75, e76, e77, e78, e79, e80, e81, e82, e83, e84, e85, e86, e87, e88, e89, e90, e91, e92, e93, e94, e95, e96, e97, e98, e99] [[], [0], [], [1, 2], [3], [4], [], [6], [], [7, 8], [9], [10], [5, 11], [12], [13], [14, 13], [13], [15, 16, 13], [17, 13], [18, 13], [13], [20, 13], [13], [21, 22, 13], [23, 13], [24, 13], [19, 25, 13], [26, 13], [13, 27]] = true) : ∀ t, SameCall P f10 t := by
  intro t
  induction t using T.ind with
  | h n s nl l u ih =>
  intro w A1 A2 c1 c2 hr1 hr2
  obtain ⟨s1, l1, u1, rfl, hn, ho1, ht1, hv1⟩ := repT_iff.1 hr1
  obtain ⟨s2, l2, u2, rfl, _, ho2, ht2, hv2⟩ := repT_iff.1 hr2
  have henter : Enters P f10 := enters_of hf hname hbody
  refine calls_of_wp hf hbody ?_
  generalize ha0 : ({ tmps := #[Value.agg [.int .i64 n, s1, .bool nl, l1, u1].toArray, Value.agg [.int .i64 n, s2, .bool nl, l2, u2].toArray] ++ Array.replicate (fn.ntmps - #[Value.agg [.int .i64 n, s1, .bool nl, l1, u1].toArray, Value.agg [.int .i64 n, s2, .bool nl, l2, u2].toArray].size) undef, defers := [] } : Act) = a0
  have hsz : a0.tmps.size = 100 := by subst ha0; simp [hN]
  have hd0 : a0.defers = [] := by subst ha0; rfl
  have g0 : get a0 0 = .agg [.int .i64 n, s1, .bool nl, l1, u1].toArray := by subst ha0; exact get_args rfl
  have g1 : get a0 1 = .agg [.int .i64 n, s2, .bool nl, l2, u2].toArray := by subst ha0; exact get_args rfl
  clear ha0
  refine then_id (wp_seq_k fun K1 hK1 => ?_)
  refine wp_reg ?_
  rw [wpl_cons]
  refine wp_box (by rw [eval_tmp, g0]) ?_
  rw [wpl_cons]
  refine wp_box (v := .agg [.int .i64 n, s2, .bool nl, l2, u2].toArray) (by rw [eval_tmp, get_put_ne (by omega), g1]) ?_
  rw [wpl_cons, wp_assign, eval_const, wpl_nil]
  have f1 := Fr.alloc [] w (.cells (Value.agg [.int .i64 n, s1, .bool nl, l1, u1].toArray).cells T35)
  have rg1 := range_new w [.int .i64 n, s1, .bool nl, l1, u1].toArray T35 (0, 0)
  have rg1 : (w.alloc (.cells (Value.agg [.int .i64 n, s1, .bool nl, l1, u1].toArray).cells T35)).rangeAt w.heap.size 0 [.int .i64 n, s1, .bool nl, l1, u1] := rg1
  have sz1 := size_alloc w (.cells (Value.agg [.int .i64 n, s1, .bool nl, l1, u1].toArray).cells T35)
  generalize w.alloc (.cells (Value.agg [.int .i64 n, s1, .bool nl, l1, u1].toArray).cells T35) = w1 at f1 rg1 sz1 ⊢
  have f2 := Fr.alloc [] w1 (.cells (Value.agg [.int .i64 n, s2, .bool nl, l2, u2].toArray).cells T35)
  have rg2 := range_new w1 [.int .i64 n, s2, .bool nl, l2, u2].toArray T35 (0, 0)
  have rg2 : (w1.alloc (.cells (Value.agg [.int .i64 n, s2, .bool nl, l2, u2].toArray).cells T35)).rangeAt w1.heap.size 0 [.int .i64 n, s2, .bool nl, l2, u2] := rg2
  generalize w1.alloc (.cells (Value.agg [.int .i64 n, s2, .bool nl, l2, u2].toArray).cells T35) = w2 at f2 rg2 ⊢
  have f12 := f1.tr f2
  generalize ha1 : ((a0.put (some 2) (.pointer (some ⟨w.heap.size, 0, none⟩))).put (some 3) (.pointer (some ⟨w1.heap.size, 0, none⟩))).put (some 4) (.bool false) = a1
  have k1 : Kept 2 a0 a1 := by subst ha1; exact ((Kept.put0 (by omega) _).put (by omega) _).put (by omega) _
  have g2 : get a1 2 = .pointer (some ⟨w.heap.size, 0, none⟩) := by subst ha1; rw [get_put_ne (by omega), get_put_ne (by omega), get_put_same (by omega)]
  have g3 : get a1 3 = .pointer (some ⟨w1.heap.size, 0, none⟩) := by subst ha1; rw [get_put_ne (by omega), get_put_same (by simp only [size_put]; omega)]
  clear ha1
  have hE : SE a1 w2 w.heap.size w1.heap.size n nl s1 s2 l1 l2 u1 u2 A1 A2 s l u :=
    ⟨k1.size.trans hsz, k1.defers.trans hd0, g2, g3, f2.range rg1 .nil, rg2, ho1.kept f12 (by simp) (fun _ h => h), ho2.kept f12 (by simp) (fun _ h => h), ht1.kept f12 (by simp) (fun _ h => h), ht2.kept f12 (by simp) (fun _ h => h), hv1.kept f12 (by simp) (fun _ h => h), hv2.kept f12 (by simp) (fun _ h => h)⟩
  refine hK1 a1 w2 (then_up ?_)
  refine then_id (wp_seq_k fun K2 hK2 => ?_)
  refine st_head hT hz hT2 hT4 hT4b hT22 hT32 hT33 hT32s hT33s hS hE fun a3 w3 k3 f3 => wp_skip (hK2 a3 w3 (then_up ?_))
  have hE3 := hE.step k3 f3
  refine then_id (wp_seq_k fun K3 hK3 => ?_)
  refine st_loopL hT hz hT32 hT32s hmx henter he1 hE3 ih fun a4 w4 k4 f4 => hK3 a4 w4 (then_up ?_)
  have hE4 := hE3.step k4 f4
  refine then_id (wp_seq_k fun K4 hK4 => ?_)
  refine st_loopU hT hz hT61 hz2 hT33 hT59 hT22 hT33s hmx hS he2 hE4 fun a5 w5 k5 f5 => hK4 a5 w5 (then_up ?_)
  have hE5 := hE4.step k5 f5
  have hz5 := hE5.size
  refine then_id (wp_seq_k fun K5 hK5 => ?_)
  refine r_const (m := 4) (by omega) (by omega) fun a6 k6 g6 => hK5 a6 w5 (then_up ?_)
  refine wp_ret ?_
  exact ⟨(k6.defers.trans hE5.defers), _, results_one hres, by rw [g6], ((f12.tr f3).tr f4).tr f5⟩

end Go.Kq

/- A list that may be null: read. -/
namespace Go.Kq
open Go Go.Proofs

theorem wp_slice00 {P : Program} {T e sz bs : Nat} {a : Act} {w : World} {K : Act → World → Prop} {Q : Exit → Act → World → Prop} {d : Option Tmp} {t : TypeId} {p : String} {af : Array Edge} {g : Option (Nat × Bool)} (hT : sliceOf P T e sz bs = true)
    (k : K (a.put d (.slice (some ⟨w.heap.size, 0, none⟩) 0 0)) (w.alloc (.cells #[] e))) : OW P ⟨d, .buildSlice T 0 #[], t, p, af, g⟩ a w K Q := by
  obtain ⟨hu, i, z0, hi, hs, hby, hzz, hsz0⟩ := under_slice hT
  refine wp_val (v := .slice (some ⟨w.heap.size, 0, none⟩) 0 0) (w' := w.alloc (.cells #[] e)) ?_ k
  simp [execOp, Instr.buildSlice, run_underlying hu, sizeOf, typeInfo, hi, Instr.fill, newRow, newObj, Sem.run]
  congr 2
  exact Array.eq_empty_of_size_eq_zero (by simp)

/-- 'if version < vn || l == 0 { a = []T{} }' -/
def rdArrN (vn : Int) (len : Int → Bool → RSt → V × RSt) (f : Rd) : Rd := fun ver fl st =>
  match len ver fl st with
  | (.n l, s) => if s.bad then none else if 0 < l then (match rdMany f ver fl l.toNat s with
    | none => none
    | some (xs, s) => some (.l xs, s)) else some (if decide (ver < vn) || (l == 0) then .l [] else .nil, s)
  | _ => none

theorem fld_arrN {P : Program} {ge : Nat} {cx : Cx} {fo fc : FuncId} {m m' sv sa sl si nl nc nk nr ns ng na n n' nb nt o k S Tl T it e0 bs : Nat} {i1 i2 i3 i5 i6 i7 i8 i9 i10 i11 i12 i13 i14 id id1 : Nat} {cl c : Code} {zs : List Value} {et : Ty} {len : Int → Bool → RSt → V × RSt} {f : Rd}
    {t1 t2 t3 t4 t5 t6 t7 t8 t9 t10 t11 t12 t13 t14 t15 t16 t17 t18 t19 t20 t21 t22 t23 t25 t26 t27 t28 t29 t30 t31 t32 t33 t34 t35 t36 t37 t38 t39 t40 t41 t42 t43 : TypeId}
    {p1 p2 p3 p4 p5 p6 p7 p8 p9 p11 p12 p13 p14 p15 p16 p18 p21 p22 p23 p24 p25 p26 p27 p28 p31 p32 p35 p36 p37 p38 p39 p40 p41 p42 p43 : String}
    {e1 e2 e3 e4 e5 e6 e7 e8 e9 e11 e12 e13 e14 e15 e16 e18 e21 e22 e23 e24 e25 e26 e27 e28 e31 e32 e35 e36 e37 e38 e39 e40 e41 e42 e43 : Array Edge} {x0 : Value} {a1 a2 : Array TypeId} {nu nw i4 i15 : Nat} {vn : Int} {u1 u2 u3 u4 u5 u6 u7 u8 u9 u10 u11 u12 : TypeId} {v1 v4 v5 v6 v9 v10 v11 v12 : String} {y1 y4 y5 y6 y9 y10 y11 y12 : Array Edge}
    (ho : OkM P fo) (hc : CompleteM P ge fc) (hlen : Asg P ge cx sl cl sl (.int .i32) len) (h : Elt P ge cx m' c sa si zs et f)
    (hT : sliceOf P T e0 et.size bs = true) (hbs : bs ≤ 65536) (hTl : scal P Tl = true) (hF : fieldOf P S k o = true) (hit : intOf P it .i32 = true) (hz : zeroIs P e0 zs) (hzl : zs.length = et.size) (htt : t17 = T)
    (hb : (decide (m ≤ sv) && decide (sv < sa) && decide (sa < sl) && decide (sl < si) && decide (si < m') && decide (m' ≤ nl) && decide (nl + 3 < cx.N) && decide (m' ≤ nc) && decide (nc < cx.N) && decide (m' ≤ nk) && decide (nk + 1 < cx.N) && decide (m' ≤ nr) && decide (nr < cx.N) &&
      decide (m' ≤ ns) && decide (ns + 1 < cx.N) && decide (m' ≤ ng) && decide (ng + 1 < cx.N) && decide (m' ≤ na) && decide (na + 2 < cx.N) && decide (m' ≤ n) && decide (n + 2 < cx.N) && decide (m' ≤ n') && decide (n' + 1 < cx.N) && decide (m' ≤ nb) && decide (nb < cx.N) && decide (m' ≤ nt) && decide (nt + 3 < cx.N) && cx.below m && decide (m' ≤ cx.N)) = true)
    (hb2 : (decide (m' ≤ nu) && decide (nu + 5 < cx.N) && decide (m' ≤ nw) && decide (nw < cx.N)) = true) :
    Fld P ge cx m
      (.seq (Code.region i1 ⟨[⟨some nl, .move (.tmp cx.ts), t1, p1, e1, none⟩, ⟨some (nl + 1), .nilCheck (.tmp nl), t2, p2, e2, none⟩, ⟨some (nl + 2), .fieldAddr S (.tmp (nl + 1)) k, t3, p3, e3, none⟩, ⟨some (nl + 3), .load Tl (.tmp (nl + 2)), t4, p4, e4, none⟩, ⟨some sv, .assign (.tmp (nl + 3)), t5, p5, e5, none⟩]⟩ false)
      (.seq (Code.region i2 ⟨[⟨some nc, .move (.tmp sv), t6, p6, e6, none⟩, ⟨some sa, .assign (.tmp nc), t7, p7, e7, none⟩]⟩ false)
      (.seq (Code.region i3 ⟨[⟨some sl, .assign (.const x0), t8, p8, e8, none⟩]⟩ false)
      (.seq cl
      (.seq (.seq (Code.region i4 ⟨[⟨some nu, .move (.tmp cx.tv), u1, v1, y1, none⟩, ⟨some (nu + 1), .binOp .lss u2 (.tmp nu) (.const (.int .i16 vn)) u3, u4, v4, y4, none⟩, ⟨some (nu + 2), .move (.tmp (nu + 1)), u5, v5, y5, none⟩,
          ⟨some (nu + 3), .move (.tmp sl), u6, v6, y6, some (2, false)⟩, ⟨some (nu + 4), .binOp .eql u7 (.tmp (nu + 3)) (.const (.int .i32 0)) u8, u9, v9, y9, some (2, false)⟩, ⟨some (nu + 5), .pick (.tmp (nu + 2)) (.const (.bool true)) (.tmp (nu + 4)), u10, v10, y10, none⟩]⟩ false)
        (.cond (.tmp (nu + 5)) (Code.region i15 ⟨[⟨some nw, .buildSlice T 0 #[], u11, v11, y11, none⟩, ⟨some sa, .assign (.tmp nw), u12, v12, y12, none⟩]⟩ false) .skip))
      (.seq (.seq (Code.region i5 ⟨[⟨some nk, .call ⟨.value (.func fo), #[.tmp cx.tb], a1⟩, t9, p9, e9, none⟩, ⟨some (nk + 1), .unOp .not t10 (.tmp nk), t11, p11, e11, none⟩]⟩ false)
        (.cond (.tmp (nk + 1)) (.seq (Code.region i6 ⟨[⟨some nr, .call ⟨.value (.func fc), #[.tmp cx.tb], a2⟩, t12, p12, e12, none⟩, ⟨some cx.tr, .assign (.tmp nr), t13, p13, e13, none⟩]⟩ false) .ret) .skip))
      (.seq (Code.region i7 ⟨[⟨some ns, .move (.tmp sa), t14, p14, e14, none⟩, ⟨some (ns + 1), .slice T (.tmp ns) none (some (.const (.int .i64 0))) none, t15, p15, e15, none⟩, ⟨some sa, .assign (.tmp (ns + 1)), t16, p16, e16, none⟩]⟩ false)
      (.seq (.seq (Code.region i8 ⟨[⟨some ng, .move (.tmp sl), t18, p18, e18, none⟩, ⟨some (ng + 1), .binOp .gtr t19 (.tmp ng) (.const (.int .i32 0)) t20, t21, p21, e21, none⟩]⟩ false)
        (.cond (.tmp (ng + 1)) (Code.region i9 ⟨[⟨some na, .move (.tmp sa), t22, p22, e22, none⟩, ⟨some (na + 1), .move (.tmp sl), t23, p23, e23, none⟩, ⟨some (na + 2), .call ⟨.builtin .append, #[.tmp na, .tmp (na + 1)], #[T, it]⟩, t17, p24, e24, none⟩, ⟨some sa, .assign (.tmp (na + 2)), t25, p25, e25, none⟩]⟩ false) .skip))
      (.seq (Code.seq (Code.region i10 ⟨[⟨some si, .assign (.const (.int .i32 0)), t26, p26, e26, none⟩]⟩ false)
        (.block id (.loop (.seq (.seq (Code.region i11 ⟨[⟨some n, .move (.tmp si), t27, p27, e27, none⟩, ⟨some (n + 1), .move (.tmp sl), t28, p28, e28, none⟩, ⟨some (n + 2), .binOp .lss t29 (.tmp n) (.tmp (n + 1)) t30, t31, p31, e31, none⟩]⟩ false)
          (.cond (.tmp (n + 2)) .skip (.exit id)))
          (.seq (.block id1 c) (Code.region i12 ⟨[⟨some n', .move (.tmp si), t32, p32, e32, none⟩, ⟨some (n' + 1), .binOp .add t33 (.tmp n') (.const (.int .i32 1)) t34, t35, p35, e35, none⟩, ⟨some si, .assign (.tmp (n' + 1)), t36, p36, e36, none⟩]⟩ false))))))
      (.seq (Code.region i13 ⟨[⟨some nb, .move (.tmp sa), t37, p37, e37, none⟩, ⟨some sv, .assign (.tmp nb), t38, p38, e38, none⟩]⟩ false)
        (Code.region i14 ⟨[⟨some nt, .move (.tmp cx.ts), t39, p39, e39, none⟩, ⟨some (nt + 1), .move (.tmp sv), t40, p40, e40, none⟩, ⟨some (nt + 2), .nilCheck (.tmp nt), t41, p41, e41, none⟩, ⟨some (nt + 3), .fieldAddr S (.tmp (nt + 2)) k, t42, p42, e42, none⟩, ⟨none, .store Tl (.tmp (nt + 3)) (.tmp (nt + 1)), t43, p43, e43, none⟩]⟩ false)))))))))))
      o (.arr et) .nil (rdArrN vn len f) := by
  subst htt
  intro e pb po K Q a w st hs hm ht hzr hk hq
  have hb0 := hb
  simp only [Bool.and_eq_true, decide_eq_true_eq] at hb
  obtain ⟨⟨⟨⟨⟨⟨⟨⟨⟨⟨⟨⟨⟨⟨⟨⟨⟨⟨⟨⟨⟨⟨⟨⟨⟨⟨⟨⟨b1, b2⟩, b3⟩, b4⟩, b5⟩, b6⟩, b7⟩, b8⟩, b9⟩, b10⟩, b11⟩, b12⟩, b13⟩, b14⟩, b15⟩, b16⟩, b17⟩, b18⟩, b19⟩, b20⟩, b21⟩, b22⟩, b23⟩, b24⟩, b25⟩, b26⟩, b27⟩, b28⟩, b29⟩ := hb
  have hN := hs.size
  have hbl := Cx.below_spec b28
  have hlow : ∀ x, m ≤ x → x ≤ m' → cx.below x = true := by
    intro x h1 h2
    obtain ⟨g1, g2, g3, g4, g5, g6, g7⟩ := hbl
    simp only [Cx.below, Bool.and_eq_true, decide_eq_true_eq]
    refine ⟨⟨⟨⟨⟨⟨by omega, by omega⟩, by omega⟩, ?_⟩, by omega⟩, by omega⟩, by omega⟩
    cases hf : cx.tf with
    | none => rfl
    | some u => have := g4 u hf; simp; omega
  have hsz1 : (Ty.arr et).size = 1 := rfl
  simp only [hsz1] at ht hk hq
  have hpb : pb < w.heap.size := there_lt ht (by omega)
  obtain ⟨z, hz1, hz2⟩ := hzr
  have hcell : w.cell? ⟨pb, po + o, none⟩ = some (.slice none 0 0) := by
    rcases hz2 with ⟨rfl, _⟩ | ⟨_, _, _, _, _, _, _, h4, _⟩
    · exact range_one.1 hz1
    · exact absurd h4 (by simp)
  -- v := s.F
  refine wp_seq_k fun K1 hK1 => ?_
  refine r_load (m := sv) hs.s hTl hF hcell (by omega) (by omega) (by omega) (by omega) (Nat.le_refl _) fun a1 k1 g1 => hK1 a1 w ?_
  have s1 := hs.kept (hlow sv (by omega) (by omega)) k1
  have hN1 := s1.size
  -- a := v
  refine wp_seq_k fun K2 hK2 => ?_
  refine r_copy (m := sa) (by omega) (by omega) (by omega) (Nat.le_refl _) fun a2 k2 g2 => hK2 a2 w ?_
  rw [g1] at g2
  have s2 := s1.kept (hlow sa (by omega) (by omega)) k2
  have hN2 := s2.size
  -- var l
  refine wp_seq_k fun K3 hK3 => ?_
  refine r_const (m := sl) (by omega) (Nat.le_refl _) fun a3 k3 _ => hK3 a3 w ?_
  have s3 := s2.kept (hlow sl (by omega) (by omega)) k3
  -- l = ..
  refine wp_seq_k fun K4 hK4 => ?_
  refine hlen e pb po K4 _ a3 w st s3 hm ?_
  intro a4 w4 xl k4 g4 hr4 rw4 f4
  refine hK4 a4 w4 ?_
  obtain ⟨l, hx, hv4, hl1, hl2⟩ := hr4
  simp at hx
  subst hx
  have s4 := s3.kept (hlow sl (by omega) (by omega)) k4
  have hN4 := s4.size
  have m4 : Mem e pb po ge w4 (len e.ver e.flex st).2 := hm.kept f4 (by simp) rw4
  have ga4 : get a4 sa = .slice none 0 0 := by rw [k4.get sa b3, k3.get sa b3, g2]
  generalize hln : len e.ver e.flex st = ln at *
  obtain ⟨lv, s⟩ := ln
  simp only at hv4 rw4 m4
  subst hv4
  have hkk4 : Kept m a a4 := (((k1.mono (by omega)).trans (k2.mono (by omega))).trans (k3.mono (by omega))).trans (k4.mono (by omega))
  have f4' : Fr [⟨e.rb, 0, 2⟩, ⟨pb, po + o, po + o + 1⟩] w w4 := f4.mono (by intro r hr; simp at hr; subst hr; exact .inr ⟨_, by simp, rfl, by simp, by simp⟩)
  -- if version < c || l == 0 { a = []T{} }
  simp only [Bool.and_eq_true, decide_eq_true_eq] at hb2
  obtain ⟨⟨⟨c1, c2⟩, c3⟩, c4⟩ := hb2
  have hln' := hln
  refine wp_seq_k fun K5 hK5 => ?_
  refine wp_seq_k fun K6 hK6 => ?_
  have gv4 : get a4 cx.tv = .int .i16 e.ver := s4.v
  have hsep : ∀ a' w', Kept m' a4 a' → Fr [] w4 w' → get a' (nu + 5) = .bool (decide (e.ver < vn) || (l == 0)) → K6 a' w' := by
    intro a5 w5 k5 f5 g5'
    have s5 := s4.kept (hlow m' (by omega) (by omega)) k5
    have hN5 := s5.size
    have m5 : Mem e pb po ge w5 s := m4.kept f5 (by simp) (m4.rw.kept f5 (by simp))
    have ga5 := (k5.get sa (by omega)).trans ga4
    have gl5 := (k5.get sl (by omega)).trans g4
    have f45 : Fr [⟨e.rb, 0, 2⟩] w w5 := f4.tr f5.nil
    have hkk5 := hkk4.trans (k5.mono (show m ≤ m' by omega))
    refine hK6 a5 w5 ?_
    refine wp_cond_split (t := decide (e.ver < vn) || (l == 0)) (by rw [eval_tmp, g5']) (fun hc' => ?_) fun hc' => ?_
    · refine wp_reg ?_
      rw [wpl_cons]
      refine wp_slice00 hT ?_
      rw [wpl_cons, wp_assign, eval_tmp, get_put_same (by omega), wpl_nil]
      have f6 := Fr.alloc [] w5 (.cells #[] e0)
      have sz6 := size_alloc w5 (.cells #[] e0)
      generalize w5.alloc (.cells #[] e0) = w6 at f6 sz6 ⊢
      have k6 : Kept sa a5 ((a5.put (some nw) (.slice (some ⟨w5.heap.size, 0, none⟩) 0 0)).put (some sa) (.slice (some ⟨w5.heap.size, 0, none⟩) 0 0)) := (Kept.put0 (by omega) _).put (Nat.le_refl _) _
      have g6a : get ((a5.put (some nw) (.slice (some ⟨w5.heap.size, 0, none⟩) 0 0)).put (some sa) (.slice (some ⟨w5.heap.size, 0, none⟩) 0 0)) sa = .slice (some ⟨w5.heap.size, 0, none⟩) 0 0 := get_put_same (by simp only [size_put]; omega)
      have g6l : get ((a5.put (some nw) (.slice (some ⟨w5.heap.size, 0, none⟩) 0 0)).put (some sa) (.slice (some ⟨w5.heap.size, 0, none⟩) 0 0)) sl = .int .i32 l := by rw [get_put_ne (by omega), get_put_ne (by omega), gl5]
      generalize ((a5.put (some nw) (.slice (some ⟨w5.heap.size, 0, none⟩) 0 0)).put (some sa) (.slice (some ⟨w5.heap.size, 0, none⟩) 0 0)) = a6 at k6 g6a g6l ⊢
      refine hK5 a6 w6 ?_
      refine arr_tail (q := some ⟨w5.heap.size, 0, none⟩) (st0 := st) (a := a) (w := w) ho hc h hT hbs hTl hF hit hz hzl rfl hb0 hm ht (hkk5.trans (k6.mono (by omega))) (s5.kept (hlow sa (by omega) (by omega)) k6) (m5.kept f6 (by simp) (m5.rw.kept f6 (by simp))) g6a g6l hl1 hl2 (f45.tr f6.nil)
        (fun y hy => ⟨w5.heap.size, (Option.some.inj hy).symm, f45.size, by omega⟩) ?_ ?_
      · rintro a' w' x st' ⟨hb1, h1 | ⟨h1, rfl, rfl⟩⟩ k1 k2 k3 k4
        · obtain ⟨h1, xs, h2, rfl⟩ := h1
          exact hk a' w' _ st' (by simp [rdArrN, hln', hb1, h1, h2]) k1 k2 k3 k4
        · exact hk a' w' _ _ (by simp only [rdArrN, hln', hb1, h1, hc']; rfl) k1 k2 k3 k4
      · rintro (h1 | ⟨h1, h2, h3⟩) a' w' k1 k2 k3 k4
        · exact hq (by simp [rdArrN, hln', h1]) a' w' k1 k2 k3 k4
        · exact hq (by simp [rdArrN, hln', h1, h2, h3]) a' w' k1 k2 k3 k4
    · refine wp_skip (hK5 a5 w5 ?_)
      refine arr_tail (q := none) (st0 := st) (a := a) (w := w) ho hc h hT hbs hTl hF hit hz hzl rfl hb0 hm ht hkk5 s5 m5 ga5 gl5 hl1 hl2 f45 (fun y hy => by cases hy) ?_ ?_
      · rintro a' w' x st' ⟨hb1, h1 | ⟨h1, rfl, rfl⟩⟩ k1 k2 k3 k4
        · obtain ⟨h1, xs, h2, rfl⟩ := h1
          exact hk a' w' _ st' (by simp [rdArrN, hln', hb1, h1, h2]) k1 k2 k3 k4
        · exact hk a' w' _ _ (by simp only [rdArrN, hln', hb1, h1, hc']; rfl) k1 k2 k3 k4
      · rintro (h1 | ⟨h1, h2, h3⟩) a' w' k1 k2 k3 k4
        · exact hq (by simp [rdArrN, hln', h1]) a' w' k1 k2 k3 k4
        · exact hq (by simp [rdArrN, hln', h1, h2, h3]) a' w' k1 k2 k3 k4
  by_cases hv : e.ver < vn
  · refine wp_seqG (os := [⟨some nu, .move (.tmp cx.tv), u1, v1, y1, none⟩, ⟨some (nu + 1), .binOp .lss u2 (.tmp nu) (.const (.int .i16 vn)) u3, u4, v4, y4, none⟩, ⟨some (nu + 2), .move (.tmp (nu + 1)), u5, v5, y5, none⟩,
          ⟨some (nu + 3), .move (.tmp sl), u6, v6, y6, some (2, false)⟩, ⟨some (nu + 4), .binOp .eql u7 (.tmp (nu + 3)) (.const (.int .i32 0)) u8, u9, v9, y9, some (2, false)⟩, ⟨some (nu + 5), .pick (.tmp (nu + 2)) (.const (.bool true)) (.tmp (nu + 4)), u10, v10, y10, none⟩]) [spC [] (.int .i16 e.ver), spC [0] (.bool true), spC [1] (.bool true), spC [2] undef, spC [2, 3] undef, spC [2] (.bool true)] nu [] rfl rfl (by simp [shape]) (by simp [spC]) (by have := s4.size; simp; omega) ⟨lasts_c _ _ _, lasts_c _ _ _, lasts_c _ _ _, lasts_c _ _ _, lasts_c _ _ _, lasts_c _ _ _, trivial⟩
      ⟨op_c fun a' w' hk' hf' hd' K' hK' => ?_, op_c fun a' w' hk' hf' hd' K' hK' => ?_, op_c fun a' w' hk' hf' hd' K' hK' => ?_, op_gn rfl (by omega) (fun _ _ hd' => hd'.c 2 (by simp) rfl), op_gn rfl (by omega) (fun _ _ hd' => hd'.c 2 (by simp) rfl), op_c fun a' w' hk' hf' hd' K' hK' => ?_, trivial⟩ ?_
    · rw [wp_move, eval_tmp, hk'.get cx.tv (by omega), gv4]; exact hK'
    · refine wp_lss (k1 := .i16) (i := e.ver) (j := vn) (by rw [eval_tmp]; exact hd'.c 0 (by simp) rfl) rfl ?_
      rw [decide_eq_true hv]; exact hK'
    · rw [wp_move, eval_tmp, hd'.c (nd' := [0]) 1 (by simp) rfl]; exact hK'
    · exact wp_pickYes (by rw [eval_tmp]; exact hd'.c (nd' := [1]) 2 (by simp) rfl) rfl hK'
    · intro a' w' hk' hf' hd'
      exact hsep a' w' (hk'.mono (by omega)) hf' (by rw [decide_eq_true hv, Bool.true_or]; exact hd'.c (nd' := [2]) 5 (by simp) rfl)
  · refine wp_seqG (os := [⟨some nu, .move (.tmp cx.tv), u1, v1, y1, none⟩, ⟨some (nu + 1), .binOp .lss u2 (.tmp nu) (.const (.int .i16 vn)) u3, u4, v4, y4, none⟩, ⟨some (nu + 2), .move (.tmp (nu + 1)), u5, v5, y5, none⟩,
          ⟨some (nu + 3), .move (.tmp sl), u6, v6, y6, some (2, false)⟩, ⟨some (nu + 4), .binOp .eql u7 (.tmp (nu + 3)) (.const (.int .i32 0)) u8, u9, v9, y9, some (2, false)⟩, ⟨some (nu + 5), .pick (.tmp (nu + 2)) (.const (.bool true)) (.tmp (nu + 4)), u10, v10, y10, none⟩]) [spC [] (.int .i16 e.ver), spC [0] (.bool false), spC [1] (.bool false), spC [2] (.int .i32 l), spC [2, 3] (.bool (l == 0)), spC [2, 4] (.bool (l == 0))] nu [] rfl rfl (by simp [shape]) (by simp [spC]) (by have := s4.size; simp; omega) ⟨lasts_c _ _ _, lasts_c _ _ _, lasts_c _ _ _, lasts_c _ _ _, lasts_c _ _ _, lasts_c _ _ _, trivial⟩
      ⟨op_c fun a' w' hk' hf' hd' K' hK' => ?_, op_c fun a' w' hk' hf' hd' K' hK' => ?_, op_c fun a' w' hk' hf' hd' K' hK' => ?_, op_gy rfl (by omega) (fun _ _ hd' => hd'.c 2 (by simp [spC]) rfl) (op_c fun a' w' hk' hf' hd' K' hK' => ?_), op_gy rfl (by omega) (fun _ _ hd' => hd'.c 2 (by simp [spC]) rfl) (op_c fun a' w' hk' hf' hd' K' hK' => ?_), op_c fun a' w' hk' hf' hd' K' hK' => ?_, trivial⟩ ?_
    · rw [wp_move, eval_tmp, hk'.get cx.tv (by omega), gv4]; exact hK'
    · refine wp_lss (k1 := .i16) (i := e.ver) (j := vn) (by rw [eval_tmp]; exact hd'.c 0 (by simp) rfl) rfl ?_
      rw [decide_eq_false hv]; exact hK'
    · rw [wp_move, eval_tmp, hd'.c (nd' := [0]) 1 (by simp) rfl]; exact hK'
    · rw [wp_move, eval_tmp, hk'.get sl (by omega), g4]; exact hK'
    · exact wp_eql (k1 := .i32) (i := l) (j := 0) (by rw [eval_tmp]; exact hd'.c (nd' := [2]) 3 (by simp) rfl) rfl hK'
    · exact wp_pickNo (by rw [eval_tmp]; exact hd'.c (nd' := [1]) 2 (by simp) rfl) (by rw [eval_tmp]; exact hd'.c (nd' := [2, 3]) 4 (by simp) rfl) hK'
    · intro a' w' hk' hf' hd'
      exact hsep a' w' (hk'.mono (by omega)) hf' (by rw [decide_eq_false hv, Bool.false_or]; exact hd'.c (nd' := [2, 4]) 5 (by simp) rfl)

end Go.Kq

/- A field that stands at versions from one to another. -/
namespace Go.Kq
open Go Go.Proofs

/-- 'if version >= c1 && version <= c2 { .. }' -/
theorem fld_if2 {P : Program} {ge : Nat} {cx : Cx} {m id n o : Nat} {u1 u2 u3 u4 u5 u6 u7 u8 u9 u10 : TypeId} {v1 v4 v5 v6 v9 v10 : String} {y1 y4 y5 y6 y9 y10 : Array Edge} {c1 c2 : Int} {c : Code} {ty : Ty} {dv : V} {f : Rd}
    (h : Fld P ge cx m c o ty dv f) (hb : (decide (n + 5 < cx.N) && decide (m ≤ n) && cx.below m) = true) :
    Fld P ge cx m (Code.seq (Code.region id ⟨[⟨some n, .move (.tmp cx.tv), u1, v1, y1, none⟩, ⟨some (n + 1), .binOp .geq u2 (.tmp n) (.const (.int .i16 c1)) u3, u4, v4, y4, none⟩, ⟨some (n + 2), .move (.tmp (n + 1)), u5, v5, y5, none⟩,
      ⟨some (n + 3), .move (.tmp cx.tv), u6, v6, y6, some (2, true)⟩, ⟨some (n + 4), .binOp .leq u7 (.tmp (n + 3)) (.const (.int .i16 c2)) u8, u9, v9, y9, some (2, true)⟩, ⟨some (n + 5), .pick (.tmp (n + 2)) (.tmp (n + 4)) (.const (.bool false)), u10, v10, y10, none⟩]⟩ false)
      (.cond (.tmp (n + 5)) c .skip)) o ty dv (rdIf (fun v => decide (v ≥ c1) && decide (v ≤ c2)) dv f) := by
  intro e pb po K Q a w st hs hm ht hz hk hq
  simp only [Bool.and_eq_true, decide_eq_true_eq] at hb
  obtain ⟨⟨b1, b2⟩, b3⟩ := hb
  have hsz := hs.size
  have hbl := Cx.below_spec b3
  refine wp_seq_k fun K1 hK1 => ?_
  have hsep : ∀ a' w', Kept m a a' → Fr [] w w' → get a' (n + 5) = .bool (decide (e.ver ≥ c1) && decide (e.ver ≤ c2)) → K1 a' w' := by
    intro a1 w1 k1 f1 g1
    have s1 := hs.kept b3 k1
    have hz1 := s1.size
    have m1 : Mem e pb po ge w1 st := hm.kept f1 (by simp) (hm.rw.kept f1 (by simp))
    have ht1 := f1.there ht
    have hzr1 : ∃ z, w1.rangeAt pb (po + o) z ∧ Rep w1 NoFoot ty z dv := by
      obtain ⟨z, h1, h2⟩ := hz
      exact ⟨z, f1.range h1 .nil, h2.kept f1 (by simp) (fun _ h => h)⟩
    refine hK1 a1 w1 ?_
    refine wp_cond_split (t := decide (e.ver ≥ c1) && decide (e.ver ≤ c2)) (by rw [eval_tmp, g1]) (fun hc => ?_) fun hc => ?_
    · refine h e pb po K Q a1 w1 st s1 m1 ht1 hzr1 ?_ ?_
      · intro a2 w2 x st' hx k2 hr f2 hrep
        refine hk a2 w2 x st' (by simp only [rdIf, hc]; exact hx) (k1.trans k2) hr (f1.nil.tr f2) ?_
        obtain ⟨z, h1, h2⟩ := hrep
        exact ⟨z, h1, h2.kept (Fr.refl [] w2) (by simp) (fun b hb => hb.mono f1.size (Nat.le_refl _))⟩
      · intro hx a2 w2 h1 h2 h3 h4
        exact hq (by simp only [rdIf, hc]; exact hx) a2 w2 h1 h2 h3 (f1.nil.tr h4)
    · refine wp_skip ?_
      obtain ⟨z, h1, h2⟩ := hzr1
      exact hk a1 w1 dv st (by simp [rdIf, hc]) k1 m1.rw f1.nil ⟨z, h1, h2.kept (Fr.refl [] w1) (by simp) (fun _ h => h.elim)⟩
  by_cases hv : e.ver ≥ c1
  · refine wp_seqG (os := [⟨some n, .move (.tmp cx.tv), u1, v1, y1, none⟩, ⟨some (n + 1), .binOp .geq u2 (.tmp n) (.const (.int .i16 c1)) u3, u4, v4, y4, none⟩, ⟨some (n + 2), .move (.tmp (n + 1)), u5, v5, y5, none⟩,
      ⟨some (n + 3), .move (.tmp cx.tv), u6, v6, y6, some (2, true)⟩, ⟨some (n + 4), .binOp .leq u7 (.tmp (n + 3)) (.const (.int .i16 c2)) u8, u9, v9, y9, some (2, true)⟩, ⟨some (n + 5), .pick (.tmp (n + 2)) (.tmp (n + 4)) (.const (.bool false)), u10, v10, y10, none⟩])
      [spC [] (.int .i16 e.ver), spC [0] (.bool true), spC [1] (.bool true), spC [2] (.int .i16 e.ver), spC [2, 3] (.bool (decide (e.ver ≤ c2))), spC [2, 4] (.bool (decide (e.ver ≤ c2)))] n [] rfl rfl (by simp [shape]) (by simp [spC]) (by simp; omega) ⟨lasts_c _ _ _, lasts_c _ _ _, lasts_c _ _ _, lasts_c _ _ _, lasts_c _ _ _, lasts_c _ _ _, trivial⟩
      ⟨op_c fun a' w' hk' hf' hd' K' hK' => ?_, op_c fun a' w' hk' hf' hd' K' hK' => ?_, op_c fun a' w' hk' hf' hd' K' hK' => ?_, op_gy rfl (by omega) (fun _ _ hd' => hd'.c 2 (by simp [spC]) rfl) (op_c fun a' w' hk' hf' hd' K' hK' => ?_), op_gy rfl (by omega) (fun _ _ hd' => hd'.c 2 (by simp [spC]) rfl) (op_c fun a' w' hk' hf' hd' K' hK' => ?_), op_c fun a' w' hk' hf' hd' K' hK' => ?_, trivial⟩ ?_
    · rw [wp_move, eval_tmp, hk'.get cx.tv (by omega), hs.v]; exact hK'
    · refine wp_geq (k1 := .i16) (i := e.ver) (j := c1) (by rw [eval_tmp]; exact hd'.c 0 (by simp) rfl) rfl ?_
      rw [decide_eq_true hv]; exact hK'
    · rw [wp_move, eval_tmp, hd'.c (nd' := [0]) 1 (by simp) rfl]; exact hK'
    · rw [wp_move, eval_tmp, hk'.get cx.tv (by omega), hs.v]; exact hK'
    · exact wp_leq (k1 := .i16) (i := e.ver) (j := c2) (by rw [eval_tmp]; exact hd'.c (nd' := [2]) 3 (by simp) rfl) rfl hK'
    · exact wp_pickYes (by rw [eval_tmp]; exact hd'.c (nd' := [1]) 2 (by simp) rfl) (by rw [eval_tmp]; exact hd'.c (nd' := [2, 3]) 4 (by simp) rfl) hK'
    · intro a' w' hk' hf' hd'
      exact hsep a' w' (hk'.mono b2) hf' (by rw [decide_eq_true hv, Bool.true_and]; exact hd'.c (nd' := [2, 4]) 5 (by simp) rfl)
  · refine wp_seqG (os := [⟨some n, .move (.tmp cx.tv), u1, v1, y1, none⟩, ⟨some (n + 1), .binOp .geq u2 (.tmp n) (.const (.int .i16 c1)) u3, u4, v4, y4, none⟩, ⟨some (n + 2), .move (.tmp (n + 1)), u5, v5, y5, none⟩,
      ⟨some (n + 3), .move (.tmp cx.tv), u6, v6, y6, some (2, true)⟩, ⟨some (n + 4), .binOp .leq u7 (.tmp (n + 3)) (.const (.int .i16 c2)) u8, u9, v9, y9, some (2, true)⟩, ⟨some (n + 5), .pick (.tmp (n + 2)) (.tmp (n + 4)) (.const (.bool false)), u10, v10, y10, none⟩])
      [spC [] (.int .i16 e.ver), spC [0] (.bool false), spC [1] (.bool false), spC [2] undef, spC [2, 3] undef, spC [2] (.bool false)] n [] rfl rfl (by simp [shape]) (by simp [spC]) (by simp; omega) ⟨lasts_c _ _ _, lasts_c _ _ _, lasts_c _ _ _, lasts_c _ _ _, lasts_c _ _ _, lasts_c _ _ _, trivial⟩
      ⟨op_c fun a' w' hk' hf' hd' K' hK' => ?_, op_c fun a' w' hk' hf' hd' K' hK' => ?_, op_c fun a' w' hk' hf' hd' K' hK' => ?_, op_gn rfl (by omega) (fun _ _ hd' => hd'.c 2 (by simp) rfl), op_gn rfl (by omega) (fun _ _ hd' => hd'.c 2 (by simp) rfl), op_c fun a' w' hk' hf' hd' K' hK' => ?_, trivial⟩ ?_
    · rw [wp_move, eval_tmp, hk'.get cx.tv (by omega), hs.v]; exact hK'
    · refine wp_geq (k1 := .i16) (i := e.ver) (j := c1) (by rw [eval_tmp]; exact hd'.c 0 (by simp) rfl) rfl ?_
      rw [decide_eq_false hv]; exact hK'
    · rw [wp_move, eval_tmp, hd'.c (nd' := [0]) 1 (by simp) rfl]; exact hK'
    · exact wp_pickNo (by rw [eval_tmp]; exact hd'.c (nd' := [1]) 2 (by simp) rfl) rfl hK'
    · intro a' w' hk' hf' hd'
      exact hsep a' w' (hk'.mono b2) hf' (by rw [decide_eq_false hv, Bool.false_and]; exact hd'.c (nd' := [2]) 5 (by simp) rfl)
end Go.Kq
