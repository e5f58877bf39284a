/- Octets compared, one by one. -/
import Derived.Test.YtjeplgghcebfjaaDoorKqTlR
namespace Go.Kq
open Go Go.Proofs

/-- A function that finds the same octets the same. -/
structure SameM (P : Program) (f : FuncId) : Prop where
  enters : Enters P f
  call : ∀ w v1 v2 s A1 A2, OctE w A1 v1 s → OctE w A2 v2 s → Calls P f #[v1, v2] w fun e w' => e = .returned (.bool true) ∧ Fr [] w w'

theorem OctE.slice {w : World} {A : Nat → Prop} {v : Value} {s : List UInt8} (h : OctE w A v s) : ∃ q cap, v = .slice q s.length cap ∧ (0 < s.length → ∃ b o, q = some ⟨b, o, none⟩ ∧ w.rangeAt b o (octets s)) := by
  obtain ⟨x, h, rfl⟩ := h
  rcases h with ⟨rfl, rfl⟩ | ⟨b, o, cap, l, _, rfl, _, hr, rfl⟩
  · exact ⟨none, 0, rfl, fun h => by simp at h⟩
  · exact ⟨_, cap, rfl, fun _ => ⟨b, o, rfl, hr⟩⟩
theorem OctE.big {w : World} {A : Nat → Prop} {v : Value} {s : List UInt8} (h : OctE w A v s) : s.length ≤ 4294967296 := by
  obtain ⟨x, h, rfl⟩ := h
  rcases h with ⟨_, rfl⟩ | ⟨_, _, _, l, _, _, h, _, rfl⟩
  · simp
  · exact h.2
theorem octets_at {w : World} {b o : Nat} {s : List UInt8} (h : w.rangeAt b o (octets s)) {j : Nat} (hj : j < s.length) : w.cell? ⟨b, o + j, none⟩ = some (.int .u8 (s[j]).toNat) :=
  h j _ (by simp [octets, hj])

theorem same_m {P : Program} {f : FuncId} {fn : Func} {TS TE et bs : TypeId} {T1 T2 T3 T4 T5 T6 T7 T8 : TypeId} {i0 i1 i2 i3 i4 i5 i6 i7 i8 i9 : Nat}
    {t0 t1 t2 t3 t4 t5 t6 t7 t8 t9 t10 t11 t12 t13 t14 t15 t16 t17 t18 t19 t20 t21 t22 t23 t24 t25 : TypeId}
    {p0 p1 p2 p3 p4 p5 p6 p7 p8 p9 p10 p11 p12 p13 p14 p15 p16 p17 p18 p19 p20 p21 p22 p23 p24 p25 : String}
    {e0 e1 e2 e3 e4 e5 e6 e7 e8 e9 e10 e11 e12 e13 e14 e15 e16 e17 e18 e19 e20 e21 e22 e23 e24 e25 : Array Edge}
    (hmx : P.follows .mixedOrders = true) (hf : P.funcs[f]? = some fn) (hname : (fn.name == "runtime.NumGoroutine") = false) (hres : fn.results = #[.tmp 4]) (hN : fn.ntmps = 26)
    (hbody : fn.body = some (.seq (Code.region i0 ⟨[⟨some 4, .assign (.const (.bool false)), t0, p0, e0, none⟩]⟩ false)
      (.seq (.seq (Code.region i1 ⟨[⟨some 6, .move (.tmp 0), t1, p1, e1, none⟩, ⟨some 7, .call ⟨.builtin .len, #[.tmp 6], #[TS]⟩, t2, p2, e2, none⟩, ⟨some 8, .move (.tmp 1), t3, p3, e3, none⟩, ⟨some 9, .call ⟨.builtin .len, #[.tmp 8], #[TS]⟩, t4, p4, e4, none⟩, ⟨some 10, .binOp .neq T1 (.tmp 7) (.tmp 9) T2, t5, p5, e5, none⟩]⟩ false)
          (.cond (.tmp 10) (.seq (Code.region i2 ⟨[⟨some 4, .assign (.const (.bool false)), t6, p6, e6, none⟩]⟩ false) .ret) .skip))
        (.seq (.seq (Code.region i3 ⟨[⟨some 11, .move (.tmp 0), t7, p7, e7, none⟩, ⟨some 12, .call ⟨.builtin .len, #[.tmp 11], #[TS]⟩, t8, p8, e8, none⟩, ⟨some 13, .move (.const (.int .i64 0)), t9, p9, e9, none⟩]⟩ false)
            (.block 0 (.loop (.seq (Code.region i4 ⟨[⟨some 14, .binOp .lss T3 (.tmp 13) (.tmp 12) T4, t10, p10, e10, none⟩]⟩ false)
              (.seq (.cond (.tmp 14) .skip (.exit 0))
                (.seq (.block 1 (.seq (Code.region i5 ⟨[⟨some 15, .move (.tmp 13), t11, p11, e11, none⟩, ⟨some 5, .assign (.tmp 15), t12, p12, e12, none⟩]⟩ false)
                    (.seq (Code.region i6 ⟨[⟨some 16, .move (.tmp 0), t13, p13, e13, none⟩, ⟨some 17, .move (.tmp 5), t14, p14, e14, none⟩, ⟨some 18, .indexAddr TS (.tmp 16) (.tmp 17), t15, p15, e15, none⟩, ⟨some 19, .load TE (.tmp 18), t16, p16, e16, none⟩,
                        ⟨some 20, .move (.tmp 1), t17, p17, e17, none⟩, ⟨some 21, .move (.tmp 5), t18, p18, e18, none⟩, ⟨some 22, .indexAddr TS (.tmp 20) (.tmp 21), t19, p19, e19, none⟩, ⟨some 23, .load TE (.tmp 22), t20, p20, e20, none⟩, ⟨some 24, .binOp .neq T5 (.tmp 19) (.tmp 23) T6, t21, p21, e21, none⟩]⟩ true)
                      (.cond (.tmp 24) (.seq (Code.region i7 ⟨[⟨some 4, .assign (.const (.bool false)), t22, p22, e22, none⟩]⟩ false) .ret) .skip))))
                  (Code.region i8 ⟨[⟨some 25, .binOp .add T7 (.tmp 13) (.const (.int .i64 1)) T8, t23, p23, e23, none⟩, ⟨some 13, .move (.tmp 25), t24, p24, e24, none⟩]⟩ false)))))))
          (.seq (Code.region i9 ⟨[⟨some 4, .assign (.const (.bool true)), t25, p25, e25, none⟩]⟩ false) .ret)))))
    (hTS : sliceOf P TS et 1 bs = true) (hTE : scal P TE = true)
    (he : edgeOk 0 [e13, e14, e15, e16, e17, e18, e19, e20, e21] [[], [], [0, 1], [2], [], [], [4, 5], [6], [3, 7]] = true) : SameM P f := by
  refine ⟨enters_of hf hname hbody, ?_⟩
  intro w v1 v2 s A1 A2 h1 h2
  have hlen := h1.big
  obtain ⟨q1, c1, rfl, hq1⟩ := h1.slice
  obtain ⟨q2, c2, rfl, hq2⟩ := h2.slice
  refine calls_of_wp hf hbody ?_
  generalize ha0 : ({ tmps := #[Value.slice q1 s.length c1, Value.slice q2 s.length c2] ++ Array.replicate (fn.ntmps - #[Value.slice q1 s.length c1, Value.slice q2 s.length c2].size) undef, defers := [] } : Act) = a0
  have hsz : a0.tmps.size = 26 := by subst ha0; simp [hN]
  have hd0 : a0.defers = [] := by subst ha0; rfl
  have g0 : get a0 0 = .slice q1 s.length c1 := by subst ha0; exact get_args rfl
  have g1 : get a0 1 = .slice q2 s.length c2 := by subst ha0; exact get_args rfl
  clear ha0
  refine then_id (wp_seq_k fun K1 hK1 => ?_)
  refine r_const (m := 4) (by omega) (by omega) fun a1 k1 _ => hK1 a1 w (then_up ?_)
  have hz1 := k1.size
  refine then_id (wp_seq_k fun K2 hK2 => ?_)
  refine wp_seq_k fun K3 hK3 => ?_
  refine wp_reg ?_
  rw [wpl_cons, wp_move, eval_tmp, k1.get 0 (by omega), g0, wpl_cons]
  refine wp_len hTS (by rw [eval_tmp, get_put_same (by omega)]) ?_
  rw [wpl_cons, wp_move, eval_tmp, get_put_ne (by omega), get_put_ne (by omega), k1.get 1 (by omega), g1, wpl_cons]
  refine wp_len hTS (by rw [eval_tmp, get_put_same (by simp only [size_put]; omega)]) ?_
  rw [wpl_cons]
  refine wp_neq (k1 := .i64) (i := s.length) (j := s.length) (by rw [eval_tmp, get_put_ne (by omega), get_put_ne (by omega), get_put_same (by simp only [size_put]; omega)]) (by rw [eval_tmp, get_put_same (by simp only [size_put]; omega)]) ?_
  rw [wpl_nil]
  generalize ha2 : (((((a1.put (some 6) (.slice q1 s.length c1)).put (some 7) (.int .i64 s.length)).put (some 8) (.slice q2 s.length c2)).put (some 9) (.int .i64 s.length)).put (some 10) (.bool ((s.length : Int) != s.length))) = a2
  have k2 : Kept 6 a1 a2 := by subst ha2; exact (((((Kept.put0 (by omega) _).put (by omega) _).put (by omega) _).put (by omega) _).put (by omega) _)
  have g10 : get a2 10 = .bool false := by subst ha2; rw [get_put_same (by simp only [size_put]; omega)]; simp
  clear ha2
  have hz2 := k2.size
  refine hK3 a2 w ?_
  refine wp_cond_split (t := false) (by rw [eval_tmp, g10]) (fun h => by cases h) fun _ => wp_skip (hK2 a2 w (then_up ?_))
  have kk2 : Kept 4 a0 a2 := k1.trans (k2.mono (by omega))
  refine then_id (wp_seq_k fun K4 hK4 => ?_)
  refine wp_seq_k fun K5 hK5 => ?_
  refine wp_reg ?_
  rw [wpl_cons, wp_move, eval_tmp, kk2.get 0 (by omega), g0, wpl_cons]
  refine wp_len hTS (by rw [eval_tmp, get_put_same (by omega)]) ?_
  rw [wpl_cons, wp_move, eval_const, wpl_nil]
  generalize ha3 : ((a2.put (some 11) (.slice q1 s.length c1)).put (some 12) (.int .i64 s.length)).put (some 13) (.int .i64 0) = a3
  have k3 : Kept 6 a2 a3 := by subst ha3; exact ((Kept.put0 (by omega) _).put (by omega) _).put (by omega) _
  have g12 : get a3 12 = .int .i64 s.length := by subst ha3; rw [get_put_ne (by omega), get_put_same (by simp only [size_put]; omega)]
  have g13 : get a3 13 = .int .i64 0 := by subst ha3; rw [get_put_same (by simp only [size_put]; omega)]
  clear ha3
  have hz3 := k3.size
  refine hK5 a3 w ?_
  refine wp_block (wp_loop (fun a' w' => ∃ j : Nat, j ≤ s.length ∧ Kept 4 a0 a' ∧ get a' 12 = .int .i64 s.length ∧ get a' 13 = .int .i64 j ∧ Fr [] w w') (fun a' _ => s.length - idxOf (get a' 13)) ?_ ?_)
  · exact ⟨0, Nat.zero_le _, kk2.trans (k3.mono (by omega)), g12, g13, Fr.refl _ _⟩
  · rintro a4 w4 ⟨j, hj, k4, gl, gi, f4⟩
    have hz4 := k4.size
    refine wp_seq_k fun K6 hK6 => ?_
    refine wp_reg ?_
    rw [wpl_cons]
    refine wp_lss (k1 := .i64) (i := j) (j := s.length) (by rw [eval_tmp, gi]) (by rw [eval_tmp, gl]) ?_
    rw [wpl_nil]
    generalize ha5 : a4.put (some 14) (.bool (decide ((j : Int) < s.length))) = a5
    have k5 : Kept 14 a4 a5 := by subst ha5; exact Kept.put0 (Nat.le_refl _) _
    have g14 : get a5 14 = .bool (decide ((j : Int) < s.length)) := by subst ha5; exact get_put_same (by omega)
    clear ha5
    have hz5 := k5.size
    refine hK6 a5 w4 ?_
    refine wp_seq_k fun K7 hK7 => ?_
    refine wp_cond_split (t := decide ((j : Int) < s.length)) (by rw [eval_tmp, g14]) ?_ ?_
    · intro hlt
      have hjl : j < s.length := by simpa using hlt
      refine wp_skip (hK7 a5 w4 ?_)
      refine wp_seq_k fun K8 hK8 => ?_
      obtain ⟨b1, o1, rfl, hr1⟩ := hq1 (by omega)
      obtain ⟨b2, o2, rfl, hr2⟩ := hq2 (by omega)
      refine wp_block (wp_mono (show Code.wp P _ (Exit.then K8 (Exit.inBlock 1 (Exit.then K8 _))) a5 w4 from ?_) (fun _ _ _ => inBlock_then))
      refine wp_seq_k fun K9 hK9 => ?_
      refine wp_reg ?_
      rw [wpl_cons, wp_move, eval_tmp, k5.get 13 (by omega), gi, wpl_cons, wp_assign, eval_tmp, get_put_same (by omega), wpl_nil]
      generalize ha6 : (a5.put (some 15) (.int .i64 j)).put (some 5) (.int .i64 j) = a6
      have k6 : Kept 4 a4 a6 := by subst ha6; exact (k5.mono (by omega)).trans ((Kept.put0 (by omega) _).put (by omega) _)
      have g5 : get a6 5 = .int .i64 j := by subst ha6; exact get_put_same (by simp only [size_put]; omega)
      have g12' : get a6 12 = .int .i64 s.length := by subst ha6; rw [get_put_ne (by omega), get_put_ne (by omega), k5.get 12 (by omega), gl]
      have g13' : get a6 13 = .int .i64 j := by subst ha6; rw [get_put_ne (by omega), get_put_ne (by omega), k5.get 13 (by omega), gi]
      clear ha6
      have hz6 := k6.size
      have kk6 := k4.trans k6
      refine hK9 a6 w4 ?_
      refine wp_seq_k fun K10 hK10 => ?_
      refine wp_drawE0 [spC [] (.slice (some ⟨b1, o1, none⟩) s.length c1), spC [] (.int .i64 j), spC [0, 1] (.pointer (some ⟨b1, o1 + (j : Int).toNat * 1, none⟩)), spC [2] (.int .u8 (s[j]).toNat),
        spC [] (.slice (some ⟨b2, o2, none⟩) s.length c2), spC [] (.int .i64 j), spC [4, 5] (.pointer (some ⟨b2, o2 + (j : Int).toNat * 1, none⟩)), spC [6] (.int .u8 (s[j]).toNat), spC [3, 7] (.bool false)] 16 [] hmx he (by simp [shape]) (by simp [spC]) (by simp; omega)
        ⟨lasts_c _ _ _, lasts_c _ _ _, lasts_c _ _ _, lasts_c _ _ _, lasts_c _ _ _, lasts_c _ _ _, lasts_c _ _ _, lasts_c _ _ _, lasts_c _ _ _, trivial⟩ ?_ ?_
      · refine ⟨op_c fun a' w' hk' hf' hd' K' hK' => ?_, op_c fun a' w' hk' hf' hd' K' hK' => ?_, op_c fun a' w' hk' hf' hd' K' hK' => ?_, op_c fun a' w' hk' hf' hd' K' hK' => ?_, op_c fun a' w' hk' hf' hd' K' hK' => ?_,
          op_c fun a' w' hk' hf' hd' K' hK' => ?_, op_c fun a' w' hk' hf' hd' K' hK' => ?_, op_c fun a' w' hk' hf' hd' K' hK' => ?_, op_c fun a' w' hk' hf' hd' K' hK' => ?_, trivial⟩
        · rw [wp_move, eval_tmp, hk'.get 0 (by omega), kk6.get 0 (by omega), g0]; exact hK'
        · rw [wp_move, eval_tmp, hk'.get 5 (by omega), g5]; exact hK'
        · exact wp_indexAddr hTS (by rw [eval_tmp]; exact hd'.c 0 (by simp) rfl) (by rw [eval_tmp]; exact hd'.c 1 (by simp) rfl) (by omega) (by omega) hK'
        · refine wp_load hTE (by rw [eval_tmp]; exact hd'.c 2 (by simp) rfl) ?_ hK'
          have := octets_at ((f4.tr hf').range hr1 .nil) hjl
          simpa using this
        · rw [wp_move, eval_tmp, hk'.get 1 (by omega), kk6.get 1 (by omega), g1]; exact hK'
        · rw [wp_move, eval_tmp, hk'.get 5 (by omega), g5]; exact hK'
        · exact wp_indexAddr hTS (by rw [eval_tmp]; exact hd'.c 4 (by simp) rfl) (by rw [eval_tmp]; exact hd'.c 5 (by simp) rfl) (by omega) (by omega) hK'
        · refine wp_load hTE (by rw [eval_tmp]; exact hd'.c 6 (by simp) rfl) ?_ hK'
          have := octets_at ((f4.tr hf').range hr2 .nil) hjl
          simpa using this
        · refine wp_neq (k1 := .u8) (by rw [eval_tmp]; exact hd'.c 3 (by simp) rfl) (by rw [eval_tmp]; exact hd'.c 7 (by simp) rfl) ?_
          simpa using hK'
      · intro a7 w7 k7 f7 hd7
        have g24 : get a7 24 = .bool false := hd7.c (nd' := [3, 7]) 8 (by simp) rfl
        refine hK10 a7 w7 ?_
        refine wp_cond_split (t := false) (by rw [eval_tmp, g24]) (fun h => by cases h) fun _ => wp_skip (hK8 a7 w7 ?_)
        have hz7 := k7.size
        refine wp_reg ?_
        rw [wpl_cons]
        refine wp_add (k1 := .i64) (i := j) (j := 1) (by rw [eval_tmp, k7.get 13 (by omega), g13']) rfl ?_
        rw [wpl_cons, wp_move, eval_tmp, get_put_same (by omega), wpl_nil]
        have hwr : IntKind.i64.wrap ((j : Int) + 1) = ((j + 1 : Nat) : Int) := by
          simp [IntKind.wrap, IntKind.bits, IntKind.signed]; omega
        rw [hwr]
        refine ⟨⟨j + 1, hjl, ?_, ?_, ?_, f4.tr f7⟩, ?_⟩
        · exact (kk6.trans (k7.mono (by omega))).trans ((Kept.put0 (by omega) _).put (by omega) _)
        · rw [get_put_ne (by omega), get_put_ne (by omega), k7.get 12 (by omega), g12']
        · rw [get_put_same (by simp only [size_put]; omega)]
        · rw [get_put_same (by simp only [size_put]; omega), gi]; simp [idxOf]; omega
    · intro hge
      refine wp_exit ?_
      show K4 a5 w4
      refine hK4 a5 w4 (then_up ?_)
      refine then_id (wp_seq_k fun K11 hK11 => ?_)
      have hz5 := k5.size
      refine r_const (m := 4) (by omega) (by omega) fun a8 k8 g8 => hK11 a8 w4 (then_up ?_)
      refine wp_ret ?_
      refine ⟨by rw [k8.defers, k5.defers, k4.defers, hd0], _, results_one hres, ?_, f4⟩
      rw [g8]

end Go.Kq
