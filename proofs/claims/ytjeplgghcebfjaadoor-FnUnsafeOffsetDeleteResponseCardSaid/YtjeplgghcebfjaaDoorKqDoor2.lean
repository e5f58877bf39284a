/- The version that a law takes, and how many there are. -/
import Derived.Test.YtjeplgghcebfjaaDoorKqDoor
namespace Go.Kq
open Go Go.Proofs

theorem wp_rem {P : Program} {a : Act} {w : World} {K : Act → World → Prop} {Q : Exit → Act → World → Prop} {d : Option Tmp} {t : TypeId} {p : String} {af : Array Edge} {g : Option (Nat × Bool)} {s u : TypeId} {x y : Operand} {k1 : IntKind} {i j : Int} (hj : j ≠ 0) (hx : a.eval x = .int k1 i) (hy : a.eval y = .int k1 j) (k : K (a.put d (.int k1 (i.tmod j))) w) :
    OW P ⟨d, .binOp .rem s x y u, t, p, af, g⟩ a w K Q := wp_val (by simp [execOp, hx, hy, eqGuard, binOp, Op.intDiv, hj]) k

/-- laws.version: a number of 0 to most. -/
theorem version_m {P : Program} {f : FuncId} {fn : Func} {T1 T2 T3 T4 T5 T6 i0 i1 : Nat} {x0 : Value} {t0 t1 t2 t3 t4 t5 t6 : TypeId} {p0 p1 p2 p3 p4 p5 p6 : String} {e0 e1 e2 e3 e4 e5 e6 : Array Edge}
    (hf : P.funcs[f]? = some fn) (hname : (fn.name == "runtime.NumGoroutine") = false) (hres : fn.results = #[.tmp 4]) (hN : fn.ntmps = 10)
    (hbody : fn.body = some (.seq (Code.region i0 ⟨[⟨some 4, .assign (.const x0), t0, p0, e0, none⟩]⟩ false)
      (.seq (Code.region i1 ⟨[⟨some 5, .move (.tmp 0), t1, p1, e1, none⟩, ⟨some 6, .convert T1 T2 (.tmp 5), t2, p2, e2, none⟩, ⟨some 7, .move (.tmp 1), t3, p3, e3, none⟩, ⟨some 8, .binOp .add T3 (.tmp 7) (.const (.int .i64 1)) T4, t4, p4, e4, none⟩,
        ⟨some 9, .binOp .rem T5 (.tmp 6) (.tmp 8) T6, t5, p5, e5, none⟩, ⟨some 4, .assign (.tmp 9), t6, p6, e6, none⟩]⟩ false) .ret)))
    (h1 : intOf P T1 .u8 = true) (h2 : intOf P T2 .i64 = true) : Enters P f ∧ ∀ (w : World) (n : Nat) (most : Nat), n < 256 → most < 32768 → Calls P f #[.int .u8 n, .int .i64 most] w fun e w' => e = .returned (.int .i64 ((n % (most + 1) : Nat) : Int)) ∧ w' = w := by
  refine ⟨enters_of hf hname hbody, fun w n most hn hm => ?_⟩
  refine calls_of_wp hf hbody ?_
  generalize ha0 : ({ tmps := #[Value.int .u8 (n : Int), Value.int .i64 (most : Int)] ++ Array.replicate (fn.ntmps - #[Value.int .u8 (n : Int), Value.int .i64 (most : Int)].size) undef, defers := [] } : Act) = a0
  have hsz : a0.tmps.size = 10 := by subst ha0; simp [hN]
  have hd0 : a0.defers = [] := by subst ha0; rfl
  have g0 : get a0 0 = .int .u8 n := by subst ha0; exact get_args rfl
  have g1 : get a0 1 = .int .i64 most := by subst ha0; exact get_args rfl
  clear ha0
  refine then_id (wp_seq_k fun K1 hK1 => ?_)
  refine r_const (m := 4) (by omega) (by omega) fun a1 k1 _ => hK1 a1 w (then_up ?_)
  have hz1 := k1.size
  refine then_id (wp_seq_k fun K2 hK2 => ?_)
  refine wp_reg ?_
  rw [wpl_cons, wp_move, eval_tmp, k1.get 0 (by omega), g0, wpl_cons]
  refine wp_convert (k1 := .u8) (i := n) h1 h2 (by rw [eval_tmp, get_put_same (by omega)]) ?_
  rw [wrap64 (by omega)]
  rw [wpl_cons, wp_move, eval_tmp, get_put_ne (by omega), get_put_ne (by omega), k1.get 1 (by omega), g1, wpl_cons]
  refine wp_add (k1 := .i64) (i := most) (j := 1) (by rw [eval_tmp, get_put_same (by simp only [size_put]; omega)]) rfl ?_
  rw [wrap64 (by omega), wpl_cons]
  refine wp_rem (k1 := .i64) (i := n) (j := (most : Int) + 1) (by omega) (by rw [eval_tmp, get_put_ne (by omega), get_put_ne (by omega), get_put_same (by simp only [size_put]; omega)]) (by rw [eval_tmp, get_put_same (by simp only [size_put]; omega)]) ?_
  rw [wpl_cons, wp_assign, eval_tmp, get_put_same (by simp only [size_put]; omega), wpl_nil]
  refine hK2 _ w (wp_ret ?_)
  refine ⟨by simp only [defers_put]; rw [k1.defers, hd0], _, results_one hres, ?_, rfl⟩
  rw [get_put_same (by simp only [size_put]; omega)]
  congr 2

/-- MaxVersion: a number that stands in the text. -/
theorem maxv_m {P : Program} {f : FuncId} {fn : Func} {i0 i1 : Nat} {x0 : Value} {mx : Int} {t0 t1 : TypeId} {p0 p1 : String} {e0 e1 : Array Edge}
    (hf : P.funcs[f]? = some fn) (hname : (fn.name == "runtime.NumGoroutine") = false) (hres : fn.results = #[.tmp 2]) (hN : fn.ntmps = 3)
    (hbody : fn.body = some (.seq (Code.region i0 ⟨[⟨some 2, .assign (.const x0), t0, p0, e0, none⟩]⟩ false) (.seq (Code.region i1 ⟨[⟨some 2, .assign (.const (.int .i16 mx)), t1, p1, e1, none⟩]⟩ false) .ret))) :
    Enters P f ∧ ∀ (w : World) (v : Value), Calls P f #[v] w fun e w' => e = .returned (.int .i16 mx) ∧ w' = w := by
  refine ⟨enters_of hf hname hbody, fun w v => ?_⟩
  refine calls_of_wp hf hbody ?_
  generalize ha0 : ({ tmps := #[v] ++ Array.replicate (fn.ntmps - #[v].size) undef, defers := [] } : Act) = a0
  have hsz : a0.tmps.size = 3 := by subst ha0; simp [hN]
  have hd0 : a0.defers = [] := by subst ha0; rfl
  clear ha0
  refine then_id (wp_seq_k fun K1 hK1 => ?_)
  refine r_const (m := 2) (by omega) (by omega) fun a1 k1 _ => hK1 a1 w (then_up ?_)
  have hz1 := k1.size
  refine then_id (wp_seq_k fun K2 hK2 => ?_)
  refine r_const (m := 2) (by omega) (by omega) fun a2 k2 g2 => hK2 a2 w (then_up ?_)
  refine wp_ret ?_
  exact ⟨by rw [k2.defers, k1.defers, hd0], _, results_one hres, by rw [g2], rfl⟩

/-- impl.MaxX -/
theorem maxd_m {P : Program} {f fnw fmx : FuncId} {fn : Func} {T1 T2 i0 i1 : Nat} {tys : List Ty} {ds : List V} {ats1 ats2 : Array TypeId} {mx : Int} {t0 t1 t2 t3 t4 : TypeId} {p0 p1 p2 p3 p4 : String} {e0 e1 e2 e3 e4 : Array Edge} {x0 : Value}
    (hf : P.funcs[f]? = some fn) (hname : (fn.name == "runtime.NumGoroutine") = false) (hres : fn.results = #[.tmp 0]) (hN : fn.ntmps = 4)
    (hbody : fn.body = some (.seq (Code.region i0 ⟨[⟨some 0, .assign (.const x0), t0, p0, e0, none⟩]⟩ false)
      (.seq (Code.region i1 ⟨[⟨some 1, .call ⟨.value (.func fnw), #[], ats1⟩, t1, p1, e1, none⟩, ⟨some 2, .call ⟨.value (.func fmx), #[.tmp 1], ats2⟩, t2, p2, e2, none⟩, ⟨some 3, .convert T1 T2 (.tmp 2), t3, p3, e3, none⟩, ⟨some 0, .assign (.tmp 3), t4, p4, e4, none⟩]⟩ false) .ret)))
    (hn : NewM P fnw tys ds) (hm : Enters P fmx ∧ ∀ (w : World) (v : Value), Calls P fmx #[v] w fun e w' => e = .returned (.int .i16 mx) ∧ w' = w) (hmx : -32768 ≤ mx ∧ mx ≤ 32767) (h1 : intOf P T1 .i16 = true) (h2 : intOf P T2 .i64 = true) :
    Enters P f ∧ ∀ (w : World), Calls P f #[] w fun e w' => e = .returned (.int .i64 mx) ∧ Fr [] w w' := by
  refine ⟨enters_of hf hname hbody, fun w => ?_⟩
  refine calls_of_wp hf hbody ?_
  generalize ha0 : ({ tmps := #[] ++ Array.replicate (fn.ntmps - #[].size) undef, defers := [] } : Act) = a0
  have hsz : a0.tmps.size = 4 := by subst ha0; simp [hN]
  have hd0 : a0.defers = [] := by subst ha0; rfl
  clear ha0
  refine then_id (wp_seq_k fun K1 hK1 => ?_)
  refine r_const (m := 0) (by omega) (by omega) fun a1 k1 _ => hK1 a1 w (then_up ?_)
  have hz1 := k1.size
  refine then_id (wp_seq_k fun K2 hK2 => ?_)
  refine wp_reg ?_
  rw [wpl_cons]
  refine wp_calls (R := fun _ w' => Fr [] w w') hn.enters (vs := #[]) (by simp) ((hn.call w).mono (by rintro e' w' ⟨pb, z, rfl, _, _, h, _⟩; exact ⟨_, rfl, h⟩)) ?_
  intro v w1 f1
  rw [wpl_cons]
  refine wp_calls (R := fun x w' => x = .int .i16 mx ∧ w' = w1) hm.1 (vs := #[v]) (by simp [eval_tmp, get_put_same (a := a1) (d := 1) (v := v) (by omega)]) ((hm.2 w1 v).mono (by rintro e' w' ⟨rfl, rfl⟩; exact ⟨_, rfl, rfl, rfl⟩)) ?_
  rintro x w2 ⟨rfl, rfl⟩
  rw [wpl_cons]
  refine wp_convert (k1 := .i16) (i := mx) h1 h2 (by rw [eval_tmp, get_put_same (by simp only [size_put]; omega)]) ?_
  rw [wrap64 (by omega), wpl_cons, wp_assign, eval_tmp, get_put_same (by simp only [size_put]; omega), wpl_nil]
  refine hK2 _ w2 (wp_ret ?_)
  exact ⟨by simp only [defers_put]; rw [k1.defers, hd0], _, results_one hres, by rw [get_put_same (by simp only [size_put]; omega)], f1⟩

end Go.Kq
