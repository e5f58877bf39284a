/- Types at nought. -/
import Derived.Test.YtekhigcoccepjaaDoorKqP02
import Derived.Test.YtekhigcoccepjaaDoorKqP06
import Derived.Deep.Upon
set_option linter.unusedVariables false
set_option linter.unusedSimpArgs false
namespace Go.Kq
open Go

mutual
/-- The cells of a type at nought. -/
def Ty.zc : Ty → List Value
  | .int k => [.int k 0]
  | .bool => [.bool false]
  | .f64 => [.float .f64 0]
  | .str => [.string ⟨#[]⟩]
  | .pstr => [.pointer none]
  | .bytes => [.slice none 0 0]
  | .uuid => octets (List.replicate 16 0)
  | .tags => [.map none]
  | .arr _ => [.slice none 0 0]
  | .st fs => Ty.zcs fs
  | .ptr _ => [.pointer none]
def Ty.zcs : List Ty → List Value
  | [] => []
  | t :: ts => t.zc ++ Ty.zcs ts
end
mutual
/-- What it says. -/
def Ty.zv : Ty → V
  | .int _ => .n 0
  | .bool => .n 0
  | .f64 => .n 0
  | .str => .s []
  | .pstr => .nil
  | .bytes => .nil
  | .uuid => .s (List.replicate 16 0)
  | .tags => .nil
  | .arr _ => .nil
  | .st fs => .l (Ty.zvs fs)
  | .ptr _ => .nil
def Ty.zvs : List Ty → List V
  | [] => []
  | t :: ts => t.zv :: Ty.zvs ts
end
mutual
theorem rep_zero {w : World} {A : Nat → Prop} : ∀ (t : Ty), Rep w A t t.zc t.zv
  | .int k => ⟨0, rfl, rfl, by cases k <;> simp [IntKind.min, IntKind.signed, IntKind.bits], by cases k <;> simp [IntKind.max, IntKind.signed, IntKind.bits]⟩
  | .bool => ⟨false, rfl, rfl⟩
  | .f64 => ⟨0, rfl, rfl, by omega⟩
  | .str => ⟨⟨#[]⟩, rfl, rfl, by simp⟩
  | .pstr => .inl ⟨rfl, rfl⟩
  | .bytes => ⟨.slice none 0 0, none, rfl, .inl ⟨rfl, rfl⟩, rfl⟩
  | .uuid => ⟨List.replicate 16 0, by simp, rfl, rfl⟩
  | .tags => .inl ⟨rfl, rfl⟩
  | .arr _ => .inl ⟨rfl, rfl⟩
  | .st fs => ⟨Ty.zvs fs, rfl, reps_zero fs⟩
  | .ptr _ => .inl ⟨rfl, rfl⟩
theorem reps_zero {w : World} {A : Nat → Prop} : ∀ (ts : List Ty), Reps w A ts (Ty.zcs ts) (Ty.zvs ts)
  | [] => ⟨rfl, rfl⟩
  | t :: ts => ⟨t.zc, Ty.zcs ts, t.zv, Ty.zvs ts, rfl, rfl, rep_zero t, reps_zero ts⟩
end
end Go.Kq

/- A message's small functions: new, set version, read, and the doors of the thin package. -/
namespace Go.Kq
open Go Go.Proofs

structure NewM (P : Program) (f : FuncId) (tys : List Ty) (ds : List V) : Prop where
  enters : Enters P f
  call : ∀ w, Calls P f #[] w fun e w' => ∃ pb z, e = .returned (.pointer (some ⟨pb, 0, none⟩)) ∧ w.heap.size ≤ pb ∧ pb < w'.heap.size ∧ Fr [] w w' ∧ w'.rangeAt pb 0 z ∧ Reps w' NoFoot tys z ds ∧ w'.there pb 0 (Ty.sizes tys)

theorem new_m {P : Program} {f fd : FuncId} {fn : Func} {TM : TypeId} {tys : List Ty} {d : List V → List V} {i0 i1 i2 i3 : Nat} {ats : Array TypeId} {x0 : Value}
    {t0 t1 t2 t3 : TypeId} {p0 p1 p2 p3 : String} {e0 e1 e2 e3 : Array Edge} (hf : P.funcs[f]? = some fn) (hname : (fn.name == "runtime.NumGoroutine") = false) (hres : fn.results = #[.tmp 0]) (hN : fn.ntmps = 3)
    (hbody : fn.body = some (.seq (Code.region i0 ⟨[⟨some 0, .assign (.const x0), t0, p0, e0, none⟩]⟩ false)
      (.seq (Code.region i1 ⟨[⟨some 1, .alloc TM, t1, p1, e1, none⟩]⟩ false)
      (.seq (Code.region i2 ⟨[⟨some 2, .call ⟨.value (.func fd), #[.tmp 1], ats⟩, t2, p2, e2, none⟩]⟩ false)
      (.seq (Code.region i3 ⟨[⟨some 0, .assign (.tmp 1), t3, p3, e3, none⟩]⟩ false) .ret)))))
    (hz : zeroIs P TM (Ty.zcs tys)) (hd : DefM P fd tys d) (hn : 0 < Ty.sizes tys) : NewM P f tys (d (Ty.zvs tys)) := by
  refine ⟨enters_of hf hname hbody, fun w => ?_⟩
  obtain ⟨i, v, hi, hzv, hcs⟩ := hz
  refine calls_of_wp hf hbody ?_
  generalize ha0 : ({ tmps := #[] ++ Array.replicate (fn.ntmps - #[].size) undef, defers := [] } : Act) = a0
  have hsz : a0.tmps.size = 3 := by subst ha0; simp [hN]
  have hd0 : a0.defers = [] := by subst ha0; rfl
  clear ha0
  refine then_id (wp_seq_k fun K1 hK1 => ?_)
  refine r_const (m := 0) (by omega) (by omega) fun a1 k1 _ => hK1 a1 w (then_up ?_)
  have hz1 := k1.size
  refine then_id (wp_seq_k fun K2 hK2 => ?_)
  refine wp_reg ?_
  rw [wpl_cons]
  refine wp_alloc ⟨i, hi, hzv⟩ ?_
  rw [wpl_nil]
  have f1 := Fr.alloc [] w (.cells v.cells TM)
  have rg1 := range_new w v.cells TM (0, 0)
  have th1 := there_new w v.cells TM
  have sz1 := size_alloc w (.cells v.cells TM)
  rw [hcs] at rg1
  have hlen : (Ty.zcs tys).length = Ty.sizes tys := (reps_zero (w := w) (A := NoFoot) tys).length
  have hcl : v.cells.size = Ty.sizes tys := by rw [← hlen, ← hcs, Array.length_toList]
  rw [hcl] at th1
  generalize w.alloc (.cells v.cells TM) = w1 at f1 rg1 th1 sz1 ⊢
  have g1 : get (a1.put (some 1) (.pointer (some ⟨w.heap.size, 0, none⟩))) 1 = .pointer (some ⟨w.heap.size, 0, none⟩) := get_put_same (by omega)
  have k2 : Kept 0 a1 (a1.put (some 1) (.pointer (some ⟨w.heap.size, 0, none⟩))) := Kept.put0 (by omega) _
  generalize a1.put (some 1) (.pointer (some ⟨w.heap.size, 0, none⟩)) = a2 at g1 k2 ⊢
  have hz2 := k2.size
  refine hK2 a2 w1 (then_up ?_)
  refine then_id (wp_seq_k fun K3 hK3 => ?_)
  refine wp_reg ?_
  rw [wpl_cons]
  refine wp_calls (R := fun _ w' => (∃ z', w'.rangeAt w.heap.size 0 z' ∧ Reps w' NoFoot tys z' (d (Ty.zvs tys))) ∧ Fr [⟨w.heap.size, 0, 0 + (Ty.zcs tys).length⟩] w1 w') hd.enters (vs := #[.pointer (some ⟨w.heap.size, 0, none⟩)]) (by simp [eval_tmp, g1])
    ((hd.call w1 w.heap.size 0 _ _ rg1 (by rw [hlen]; exact th1) (reps_zero tys)).mono (by rintro e' w' ⟨x, h1, h2, h3⟩; exact ⟨x, h1, h2, h3⟩)) ?_
  rintro x w2 ⟨⟨z', hz', hr'⟩, f2⟩
  rw [wpl_nil]
  have hz3 := f2.size
  refine hK3 _ w2 (then_up ?_)
  refine then_id (wp_seq_k fun K4 hK4 => ?_)
  refine wp_reg ?_
  rw [wpl_cons, wp_assign, eval_tmp, get_put_ne (by omega), g1, wpl_nil]
  refine hK4 _ w2 (wp_ret ?_)
  refine ⟨by rw [defers_put, defers_put, k2.defers, k1.defers, hd0], _, results_one hres, w.heap.size, z', by rw [get_put_same (by simp only [size_put]; omega)], Nat.le_refl _, by omega, ?_, hz', hr', f2.there th1⟩
  refine f1.trans f2 ?_
  intro r hr; simp at hr; subst hr; exact .inl (Nat.le_refl _)

/-- 'func (v *T) SetVersion(version int16) { v.Version = version }' -/
structure SetM (P : Program) (f : FuncId) : Prop where
  enters : Enters P f
  call : ∀ w pb ver, w.there pb 0 1 → Calls P f #[.pointer (some ⟨pb, 0, none⟩), .int .i16 ver] w fun e w' => (∃ x, e = .returned x) ∧ w' = w.setCell ⟨pb, 0, none⟩ (.int .i16 ver)
theorem set_m {P : Program} {f : FuncId} {fn : Func} {S Tv kv : Nat} {i0 : Nat} {t0 t1 t2 t3 t4 : TypeId} {p0 p1 p2 p3 p4 : String} {e0 e1 e2 e3 e4 : Array Edge}
    (hf : P.funcs[f]? = some fn) (hname : (fn.name == "runtime.NumGoroutine") = false) (hres : fn.results = #[]) (hN : fn.ntmps = 8)
    (hbody : fn.body = some (Code.region i0 ⟨[⟨some 4, .move (.tmp 0), t0, p0, e0, none⟩, ⟨some 5, .move (.tmp 1), t1, p1, e1, none⟩, ⟨some 6, .nilCheck (.tmp 4), t2, p2, e2, none⟩, ⟨some 7, .fieldAddr S (.tmp 6) kv, t3, p3, e3, none⟩, ⟨none, .store Tv (.tmp 7) (.tmp 5), t4, p4, e4, none⟩]⟩ false))
    (hS : fieldOf P S kv 0 = true) (hTv : scal P Tv = true) : SetM P f := by
  refine ⟨enters_of hf hname hbody, fun w pb ver ht => ?_⟩
  refine calls_of_wp hf hbody ?_
  generalize ha0 : ({ tmps := #[Value.pointer (some ⟨pb, 0, none⟩), Value.int .i16 ver] ++ Array.replicate (fn.ntmps - #[Value.pointer (some ⟨pb, 0, none⟩), Value.int .i16 ver].size) undef, defers := [] } : Act) = a0
  have hsz : a0.tmps.size = 8 := by subst ha0; simp [hN]
  have hd0 : a0.defers = [] := by subst ha0; rfl
  have g0 : get a0 0 = .pointer (some ⟨pb, 0, none⟩) := by subst ha0; exact get_args rfl
  have g1 : get a0 1 = .int .i16 ver := by subst ha0; exact get_args rfl
  clear ha0
  refine wp_reg ?_
  rw [wpl_cons, wp_move, eval_tmp, g0, wpl_cons, wp_move, eval_tmp, get_put_ne (by omega), g1, wpl_cons]
  refine wp_nilCheck (q := ⟨pb, 0, none⟩) (by rw [eval_tmp, get_put_ne (by omega), get_put_same (by omega)]) ?_
  rw [wpl_cons]
  refine wp_fieldAddr (b := pb) (i := 0) hS (by rw [eval_tmp, get_put_same (by simp only [size_put]; omega)]) ?_
  rw [wpl_cons]
  refine wp_store hTv (b := pb) (o := 0) (v := .int .i16 ver) (by rw [eval_tmp, get_put_same (by simp only [size_put]; omega)]) (by rw [eval_tmp, get_put_ne (by omega), get_put_ne (by omega), get_put_same (by simp only [size_put]; omega)]) rfl ht ?_
  rw [wpl_nil]
  exact ⟨by simp only [defers_put]; exact hd0, .tuple #[], by simp [results, hres], ⟨_, rfl⟩, rfl⟩

/-- 'func (v *T) ReadFrom(src []byte) error { return v.readFrom(src, false) }' -/
theorem read_m {P : Program} {f fr : FuncId} {fn : Func} {uns : Bool} {i0 i1 : Nat} {ats : Array TypeId} {t0 t1 t2 t3 t4 : TypeId} {p0 p1 p2 p3 p4 : String} {e0 e1 e2 e3 e4 : Array Edge}
    (hf : P.funcs[f]? = some fn) (hname : (fn.name == "runtime.NumGoroutine") = false) (hres : fn.results = #[.tmp 4]) (hN : fn.ntmps = 8)
    (hbody : fn.body = some (.seq (Code.region i0 ⟨[⟨some 4, .assign (.const .nilIface), t0, p0, e0, none⟩]⟩ false)
      (.seq (Code.region i1 ⟨[⟨some 5, .move (.tmp 0), t1, p1, e1, none⟩, ⟨some 6, .move (.tmp 1), t2, p2, e2, none⟩, ⟨some 7, .call ⟨.value (.func fr), #[.tmp 5, .tmp 6, .const (.bool uns)], ats⟩, t3, p3, e3, none⟩, ⟨some 4, .assign (.tmp 7), t4, p4, e4, none⟩]⟩ false) .ret)))
    (hr : Enters P fr) {w : World} {v s : Value} {R : Value → World → Prop} (h : Calls P fr #[v, s, .bool uns] w fun e w' => ∃ x, e = .returned x ∧ R x w') : Calls P f #[v, s] w fun e w' => ∃ x, e = .returned x ∧ R x w' := by
  refine calls_of_wp hf hbody ?_
  generalize ha0 : ({ tmps := #[v, s] ++ Array.replicate (fn.ntmps - #[v, s].size) undef, defers := [] } : Act) = a0
  have hsz : a0.tmps.size = 8 := by subst ha0; simp [hN]
  have hd0 : a0.defers = [] := by subst ha0; rfl
  have g0 : get a0 0 = v := by subst ha0; exact get_args rfl
  have g1 : get a0 1 = s := by subst ha0; exact get_args rfl
  clear ha0
  refine then_id (wp_seq_k fun K1 hK1 => ?_)
  refine r_const (m := 4) (by omega) (by omega) fun a1 k1 _ => hK1 a1 w (then_up ?_)
  have hz1 := k1.size
  refine then_id (wp_seq_k fun K2 hK2 => ?_)
  refine wp_reg ?_
  rw [wpl_cons, wp_move, eval_tmp, k1.get 0 (by omega), g0, wpl_cons, wp_move, eval_tmp, get_put_ne (by omega), k1.get 1 (by omega), g1, wpl_cons]
  refine wp_calls hr (vs := #[v, s, .bool uns]) (by simp [eval_tmp, eval_const, get_put_ne (show (6 : Nat) ≠ 5 by omega), get_put_same (a := a1) (d := 5) (show 5 < a1.tmps.size by omega), get_put_same (a := a1.put (some 5) v) (d := 6) (show 6 < (a1.put (some 5) v).tmps.size by simp only [size_put]; omega)]) h ?_
  intro x w2 hR
  rw [wpl_cons, wp_assign, eval_tmp, get_put_same (by simp only [size_put]; omega), wpl_nil]
  refine hK2 _ w2 (wp_ret ?_)
  refine ⟨by simp only [defers_put]; rw [k1.defers, hd0], _, results_one hres, x, by rw [get_put_same (by simp only [size_put]; omega)], hR⟩

end Go.Kq

/- The version that a law takes, and how many there are. -/
namespace Go.Kq
open Go Go.Proofs

theorem wp_rem {P : Program} {a : Act} {w : World} {K : Act → World → Prop} {Q : Exit → Act → World → Prop} {d : Option Tmp} {t : TypeId} {p : String} {af : Array Edge} {g : Option (Nat × Bool)} {s u : TypeId} {x y : Operand} {k1 : IntKind} {i j : Int} (hj : j ≠ 0) (hx : a.eval x = .int k1 i) (hy : a.eval y = .int k1 j) (k : K (a.put d (.int k1 (i.tmod j))) w) :
    OW P ⟨d, .binOp .rem s x y u, t, p, af, g⟩ a w K Q := wp_val (by simp [execOp, hx, hy, eqGuard, binOp, Op.intDiv, hj]) k

/-- laws.version: a number of 0 to most. -/
theorem version_m {P : Program} {f : FuncId} {fn : Func} {T1 T2 T3 T4 T5 T6 i0 i1 : Nat} {x0 : Value} {t0 t1 t2 t3 t4 t5 t6 : TypeId} {p0 p1 p2 p3 p4 p5 p6 : String} {e0 e1 e2 e3 e4 e5 e6 : Array Edge}
    (hf : P.funcs[f]? = some fn) (hname : (fn.name == "runtime.NumGoroutine") = false) (hres : fn.results = #[.tmp 4]) (hN : fn.ntmps = 10)
    (hbody : fn.body = some (.seq (Code.region i0 ⟨[⟨some 4, .assign (.const x0), t0, p0, e0, none⟩]⟩ false)
      (.seq (Code.region i1 ⟨[⟨some 5, .move (.tmp 0), t1, p1, e1, none⟩, ⟨some 6, .convert T1 T2 (.tmp 5), t2, p2, e2, none⟩, ⟨some 7, .move (.tmp 1), t3, p3, e3, none⟩, ⟨some 8, .binOp .add T3 (.tmp 7) (.const (.int .i64 1)) T4, t4, p4, e4, none⟩,
        ⟨some 9, .binOp .rem T5 (.tmp 6) (.tmp 8) T6, t5, p5, e5, none⟩, ⟨some 4, .assign (.tmp 9), t6, p6, e6, none⟩]⟩ false) .ret)))
    (h1 : intOf P T1 .u8 = true) (h2 : intOf P T2 .i64 = true) : Enters P f ∧ ∀ (w : World) (n : Nat) (most : Nat), n < 256 → most < 32768 → Calls P f #[.int .u8 n, .int .i64 most] w fun e w' => e = .returned (.int .i64 ((n % (most + 1) : Nat) : Int)) ∧ w' = w := by
  refine ⟨enters_of hf hname hbody, fun w n most hn hm => ?_⟩
  refine calls_of_wp hf hbody ?_
  generalize ha0 : ({ tmps := #[Value.int .u8 (n : Int), Value.int .i64 (most : Int)] ++ Array.replicate (fn.ntmps - #[Value.int .u8 (n : Int), Value.int .i64 (most : Int)].size) undef, defers := [] } : Act) = a0
  have hsz : a0.tmps.size = 10 := by subst ha0; simp [hN]
  have hd0 : a0.defers = [] := by subst ha0; rfl
  have g0 : get a0 0 = .int .u8 n := by subst ha0; exact get_args rfl
  have g1 : get a0 1 = .int .i64 most := by subst ha0; exact get_args rfl
  clear ha0
  refine then_id (wp_seq_k fun K1 hK1 => ?_)
  refine r_const (m := 4) (by omega) (by omega) fun a1 k1 _ => hK1 a1 w (then_up ?_)
  have hz1 := k1.size
  refine then_id (wp_seq_k fun K2 hK2 => ?_)
  refine wp_reg ?_
  rw [wpl_cons, wp_move, eval_tmp, k1.get 0 (by omega), g0, wpl_cons]
  refine wp_convert (k1 := .u8) (i := n) h1 h2 (by rw [eval_tmp, get_put_same (by omega)]) ?_
  rw [wrap64 (by omega)]
  rw [wpl_cons, wp_move, eval_tmp, get_put_ne (by omega), get_put_ne (by omega), k1.get 1 (by omega), g1, wpl_cons]
  refine wp_add (k1 := .i64) (i := most) (j := 1) (by rw [eval_tmp, get_put_same (by simp only [size_put]; omega)]) rfl ?_
  rw [wrap64 (by omega), wpl_cons]
  refine wp_rem (k1 := .i64) (i := n) (j := (most : Int) + 1) (by omega) (by rw [eval_tmp, get_put_ne (by omega), get_put_ne (by omega), get_put_same (by simp only [size_put]; omega)]) (by rw [eval_tmp, get_put_same (by simp only [size_put]; omega)]) ?_
  rw [wpl_cons, wp_assign, eval_tmp, get_put_same (by simp only [size_put]; omega), wpl_nil]
  refine hK2 _ w (wp_ret ?_)
  refine ⟨by simp only [defers_put]; rw [k1.defers, hd0], _, results_one hres, ?_, rfl⟩
  rw [get_put_same (by simp only [size_put]; omega)]
  congr 2

/-- MaxVersion: a number that stands in the text. -/
theorem maxv_m {P : Program} {f : FuncId} {fn : Func} {i0 i1 : Nat} {x0 : Value} {mx : Int} {t0 t1 : TypeId} {p0 p1 : String} {e0 e1 : Array Edge}
    (hf : P.funcs[f]? = some fn) (hname : (fn.name == "runtime.NumGoroutine") = false) (hres : fn.results = #[.tmp 2]) (hN : fn.ntmps = 3)
    (hbody : fn.body = some (.seq (Code.region i0 ⟨[⟨some 2, .assign (.const x0), t0, p0, e0, none⟩]⟩ false) (.seq (Code.region i1 ⟨[⟨some 2, .assign (.const (.int .i16 mx)), t1, p1, e1, none⟩]⟩ false) .ret))) :
    Enters P f ∧ ∀ (w : World) (v : Value), Calls P f #[v] w fun e w' => e = .returned (.int .i16 mx) ∧ w' = w := by
  refine ⟨enters_of hf hname hbody, fun w v => ?_⟩
  refine calls_of_wp hf hbody ?_
  generalize ha0 : ({ tmps := #[v] ++ Array.replicate (fn.ntmps - #[v].size) undef, defers := [] } : Act) = a0
  have hsz : a0.tmps.size = 3 := by subst ha0; simp [hN]
  have hd0 : a0.defers = [] := by subst ha0; rfl
  clear ha0
  refine then_id (wp_seq_k fun K1 hK1 => ?_)
  refine r_const (m := 2) (by omega) (by omega) fun a1 k1 _ => hK1 a1 w (then_up ?_)
  have hz1 := k1.size
  refine then_id (wp_seq_k fun K2 hK2 => ?_)
  refine r_const (m := 2) (by omega) (by omega) fun a2 k2 g2 => hK2 a2 w (then_up ?_)
  refine wp_ret ?_
  exact ⟨by rw [k2.defers, k1.defers, hd0], _, results_one hres, by rw [g2], rfl⟩

/-- impl.MaxX -/
theorem maxd_m {P : Program} {f fnw fmx : FuncId} {fn : Func} {T1 T2 i0 i1 : Nat} {tys : List Ty} {ds : List V} {ats1 ats2 : Array TypeId} {mx : Int} {t0 t1 t2 t3 t4 : TypeId} {p0 p1 p2 p3 p4 : String} {e0 e1 e2 e3 e4 : Array Edge} {x0 : Value}
    (hf : P.funcs[f]? = some fn) (hname : (fn.name == "runtime.NumGoroutine") = false) (hres : fn.results = #[.tmp 0]) (hN : fn.ntmps = 4)
    (hbody : fn.body = some (.seq (Code.region i0 ⟨[⟨some 0, .assign (.const x0), t0, p0, e0, none⟩]⟩ false)
      (.seq (Code.region i1 ⟨[⟨some 1, .call ⟨.value (.func fnw), #[], ats1⟩, t1, p1, e1, none⟩, ⟨some 2, .call ⟨.value (.func fmx), #[.tmp 1], ats2⟩, t2, p2, e2, none⟩, ⟨some 3, .convert T1 T2 (.tmp 2), t3, p3, e3, none⟩, ⟨some 0, .assign (.tmp 3), t4, p4, e4, none⟩]⟩ false) .ret)))
    (hn : NewM P fnw tys ds) (hm : Enters P fmx ∧ ∀ (w : World) (v : Value), Calls P fmx #[v] w fun e w' => e = .returned (.int .i16 mx) ∧ w' = w) (hmx : -32768 ≤ mx ∧ mx ≤ 32767) (h1 : intOf P T1 .i16 = true) (h2 : intOf P T2 .i64 = true) :
    Enters P f ∧ ∀ (w : World), Calls P f #[] w fun e w' => e = .returned (.int .i64 mx) ∧ Fr [] w w' := by
  refine ⟨enters_of hf hname hbody, fun w => ?_⟩
  refine calls_of_wp hf hbody ?_
  generalize ha0 : ({ tmps := #[] ++ Array.replicate (fn.ntmps - #[].size) undef, defers := [] } : Act) = a0
  have hsz : a0.tmps.size = 4 := by subst ha0; simp [hN]
  have hd0 : a0.defers = [] := by subst ha0; rfl
  clear ha0
  refine then_id (wp_seq_k fun K1 hK1 => ?_)
  refine r_const (m := 0) (by omega) (by omega) fun a1 k1 _ => hK1 a1 w (then_up ?_)
  have hz1 := k1.size
  refine then_id (wp_seq_k fun K2 hK2 => ?_)
  refine wp_reg ?_
  rw [wpl_cons]
  refine wp_calls (R := fun _ w' => Fr [] w w') hn.enters (vs := #[]) (by simp) ((hn.call w).mono (by rintro e' w' ⟨pb, z, rfl, _, _, h, _⟩; exact ⟨_, rfl, h⟩)) ?_
  intro v w1 f1
  rw [wpl_cons]
  refine wp_calls (R := fun x w' => x = .int .i16 mx ∧ w' = w1) hm.1 (vs := #[v]) (by simp [eval_tmp, get_put_same (a := a1) (d := 1) (v := v) (by omega)]) ((hm.2 w1 v).mono (by rintro e' w' ⟨rfl, rfl⟩; exact ⟨_, rfl, rfl, rfl⟩)) ?_
  rintro x w2 ⟨rfl, rfl⟩
  rw [wpl_cons]
  refine wp_convert (k1 := .i16) (i := mx) h1 h2 (by rw [eval_tmp, get_put_same (by simp only [size_put]; omega)]) ?_
  rw [wrap64 (by omega), wpl_cons, wp_assign, eval_tmp, get_put_same (by simp only [size_put]; omega), wpl_nil]
  refine hK2 _ w2 (wp_ret ?_)
  exact ⟨by simp only [defers_put]; rw [k1.defers, hd0], _, results_one hres, by rw [get_put_same (by simp only [size_put]; omega)], f1⟩

end Go.Kq

/- The octets that a door reads: a copy. -/
namespace Go.Kq
open Go Go.Proofs

/-- 'append([]byte(nil), src...)' -/
theorem wp_copySrc {P : Program} {a : Act} {w : World} {K : Act → World → Prop} {Q : Exit → Act → World → Prop} {d : Option Tmp} {t : TypeId} {p : String} {af : Array Edge} {gd : Option (Nat × Bool)} {T e : TypeId} {A : Nat → Prop} {v : Value} {xs : List UInt8} {y : Operand}
    (hT : sliceOf P T e 1 1 = true) (hz : zeroIs P e [.int .u8 0]) (hy : a.eval y = v) (hs : OctE w A v xs) (hl : xs.length ≤ 4294967296)
    (k : ∀ v' w' sb, Fr [] w w' → w.heap.size ≤ sb → (xs ≠ [] → sb < w'.heap.size) → Src w' sb v' xs xs.isEmpty → K (a.put d v') w') :
    OW P ⟨d, .call ⟨.builtin .append, #[.const (.slice none 0 0), y], #[T, T]⟩, t, p, af, gd⟩ a w K Q := by
  obtain ⟨q, cap, rfl, hq⟩ := hs.slice
  by_cases h0 : xs = []
  · subst h0
    obtain ⟨hu, i, z0, hi, hs', hby, hzz, hsz⟩ := under_slice hT
    have hr : (Builtin.append_ #[T, T] t #[.slice none 0 0, .slice q 0 cap]).run P w = .ok (.slice none 0 0) w := by
      cases q <;> simp [Builtin.append_, run_underlying hu, sizeOf, typeInfo, hi, Builtin.lenOf, Builtin.firstCells, loadCells, loadCellsFrom]
    refine wp_val (v := .slice none 0 0) (w' := w) ?_ (k _ _ w.heap.size (Fr.refl _ _) (Nat.le_refl _) (by simp) (.inl ⟨rfl, rfl, rfl⟩))
    simp only [List.length_nil] at hy
    simp [execOp, resolve, invoke, builtin, hy, eval_const, hr]
  · have hpos : 0 < xs.length := List.length_pos_iff.2 h0
    obtain ⟨b, o, rfl, hr⟩ := hq hpos
    refine wp_append (A := fun _ => False) (z := [.int .u8 0]) (v := .slice none 0 0) (n := 0) (xs := []) (m := xs.length) (news := octets xs) hT hz rfl rfl hy Own.nil hpos (by rw [length_octets, Nat.mul_one]) hr (by intro u hu; simp [octets] at hu; obtain ⟨c, _, rfl⟩ := hu; rfl) (by omega) (by simp only [maxLen]; omega) ?_
    intro v' w' hf ho _
    obtain ⟨_, hb | ⟨g, o', cap', hg, hv, hc, _, hrr, _⟩⟩ := ho
    · omega
    · rcases hg with hg | hg
      · exact hg.elim
      · rw [Nat.zero_add] at hv hc
        rw [List.nil_append] at hrr
        refine k v' w' g (by simpa [spare] using hf) hg.1 (fun _ => hg.2) (.inr ⟨by simpa using h0, o', cap', hv, ⟨hc, by omega⟩, hrr⟩)

end Go.Kq

/- The doors that read: impl.TellX and impl.UnsafeX. -/
namespace Go.Kq
open Go Go.Proofs

section
variable {P : Program} {a : Act} {w : World} {K : Act → World → Prop} {Q : Exit → Act → World → Prop} {d : Option Tmp} {t : TypeId} {p : String} {af : Array Edge} {g : Option (Nat × Bool)}
def ifaceTy (P : Program) (t : TypeId) : Bool := match P.underlying t with | some (.interface _) => true | _ => false
/-- Whether an error is told. -/
inductive ErrIs : Value → Bool → Prop where
  | no : ErrIs .nilIface false
  | yes (ty : TypeId) (u : Value) : ErrIs (.iface ty u) true
theorem run_eqNil {s : TypeId} {v : Value} {b : Bool} (hs : ifaceTy P s = true) (hv : ErrIs v b) (n : Nat) : (Op.equalIn (n + 1) s v .nilIface).run P w = .ok (!b) w := by
  unfold ifaceTy at hs
  cases hu : P.underlying s with
  | none => simp [hu] at hs
  | some d =>
    cases d <;> simp only [hu] at hs <;> first | (simp at hs; done) | skip
    cases hv <;> simp [Op.equalIn, run_underlying hu]
theorem run_equalNil {s : TypeId} {v : Value} {b : Bool} (hs : ifaceTy P s = true) (hv : ErrIs v b) : (Op.equal s v .nilIface).run P w = .ok (!b) w := run_eqNil hs hv 9999
theorem wp_neqNil {s u : TypeId} {x : Operand} {v : Value} {b : Bool} (hs : ifaceTy P s = true) (hx : a.eval x = v) (hv : ErrIs v b) (k : K (a.put d (.bool b)) w) :
    OW P ⟨d, .binOp .neq s x (.const .nilIface) u, t, p, af, g⟩ a w K Q := by
  refine wp_val (v := .bool b) (w' := w) ?_ k
  have hg : (eqGuard .neq s x (.const .nilIface) v .nilIface).run P w = .ok () w := by cases hv <;> simp [eqGuard]
  have hr : (binOp .neq s v .nilIface).run P w = .ok (.bool b) w := by
    have := run_equalNil (w := w) hs hv
    cases hv <;> simp only [binOp, Sem.run_bind, this, Result.andThen_ok, Sem.run_pure] <;> rfl
  have hc : a.eval (.const .nilIface) = .nilIface := rfl
  simp only [execOp, hx, hc, Sem.run_bind, hg, hr, Result.andThen_ok, Sem.run_pure]
theorem wp_build0 {s : TypeId} {z : List Value} (h : Flat P s z) (k : K (a.put d (.agg z.toArray)) w) :
    OW P ⟨d, .build s #[], t, p, af, g⟩ a w K Q := by
  refine wp_val (v := .agg z.toArray) (w' := w) ?_ k
  have := run_build (P := P) (t := s) (z := z) (w := w) (ps := []) h (by simp)
  have h2 : (Instr.build s #[]).run P w = .ok (.agg z.toArray) w := by simpa [laid] using this
  simp [execOp, h2]
end

/-- A reading method. -/
structure ReadD (P : Program) (ge : Nat) (f : FuncId) (tys : List Ty) (ds : List V) (fl : Int → Bool) (g : Rd) : Prop where
  enters : Enters P f
  call : ∀ w pb sb ver srcv xs nl er, w.there pb 0 (1 + Ty.sizes tys) → -32768 ≤ ver → ver ≤ 32767 → w.cell? ⟨pb, 0, none⟩ = some (.int .i16 ver) → (∃ z, w.rangeAt pb 1 z ∧ Reps w NoFoot tys z ds) → Src w sb srcv xs nl →
    w.cell? ⟨ge, 0, none⟩ = some er → ge ≠ pb → pb ≠ sb → sb < w.heap.size →
    Calls P f #[.pointer (some ⟨pb, 0, none⟩), srcv] w fun e w' => ∃ v, e = .returned v ∧ Fr [⟨pb, 0, 1 + Ty.sizes tys⟩] w w' ∧
      match g ver (fl ver) ⟨xs, nl, false⟩ with
      | none => v = er
      | some (x, st') => if st'.bad then v = er else v = .nilIface ∧ w'.cell? ⟨pb, 0, none⟩ = some (.int .i16 ver) ∧ ∃ ys z, x = .l ys ∧ w'.rangeAt pb 1 z ∧ Reps w' (Foot sb w.heap.size w'.heap.size) tys z ys

theorem read_d {P : Program} {ge : Nat} {f fr : FuncId} {fn : Func} {uns : Bool} {tys : List Ty} {ds : List V} {fl : Int → Bool} {g : Rd} {i0 i1 : Nat} {ats : Array TypeId} {t0 t1 t2 t3 t4 : TypeId} {p0 p1 p2 p3 p4 : String} {e0 e1 e2 e3 e4 : Array Edge}
    (hr : ReadM P ge fr tys ds fl g) (hf : P.funcs[f]? = some fn) (hname : (fn.name == "runtime.NumGoroutine") = false) (hres : fn.results = #[.tmp 4]) (hN : fn.ntmps = 8)
    (hbody : fn.body = some (.seq (Code.region i0 ⟨[⟨some 4, .assign (.const .nilIface), t0, p0, e0, none⟩]⟩ false)
      (.seq (Code.region i1 ⟨[⟨some 5, .move (.tmp 0), t1, p1, e1, none⟩, ⟨some 6, .move (.tmp 1), t2, p2, e2, none⟩, ⟨some 7, .call ⟨.value (.func fr), #[.tmp 5, .tmp 6, .const (.bool uns)], ats⟩, t3, p3, e3, none⟩, ⟨some 4, .assign (.tmp 7), t4, p4, e4, none⟩]⟩ false) .ret))) : ReadD P ge f tys ds fl g := by
  refine ⟨enters_of hf hname hbody, ?_⟩
  intro w pb sb ver srcv xs nl er h1 h2 h3 h4 h5 h6 h7 h8 h9 h10
  have hc := hr.call w pb sb ver uns srcv xs nl er h1 h2 h3 h4 h5 h6 h7 h8 h9 h10
  refine read_m hf hname hres hN hbody hr.enters (hc.mono ?_)
  rintro e w' ⟨hF, hm⟩
  cases hg : g ver (fl ver) ⟨xs, nl, false⟩ with
  | none => rw [hg] at hm; exact ⟨er, hm, hF, by simp⟩
  | some y =>
    obtain ⟨x, st'⟩ := y
    rw [hg] at hm
    simp only at hm
    by_cases hb : st'.bad
    · rw [if_pos hb] at hm; exact ⟨er, hm, hF, by simp [hb]⟩
    · rw [if_neg hb] at hm
      obtain ⟨rfl, h11, h12⟩ := hm
      exact ⟨.nilIface, rfl, hF, by simp only [hb]; exact ⟨trivial, h11, h12⟩⟩

/-- What a door tells. -/
def doorRes (g : Rd) (fl : Int → Bool) (tell : V → T) (ver : Int) (xs : List UInt8) : T × Bool :=
  match g ver (fl ver) ⟨xs, xs.isEmpty, false⟩ with
  | none => (.zero, false)
  | some (x, st) => if st.bad then (.zero, false) else (tell (consV (.n ver) x), true)

structure DoorM (P : Program) (ge : Nat) (f : FuncId) (res : Int → List UInt8 → T × Bool) : Prop where
  enters : Enters P f
  call : ∀ w A ver v xs er ty u, 0 ≤ ver → ver ≤ 32767 → OctE w A v xs → xs.length ≤ 1048576 → w.cell? ⟨ge, 0, none⟩ = some er → er = .iface ty u →
    Calls P f #[.int .i64 ver, v] w fun e w' => ∃ cs : List Value, e = .returned (.tuple #[.agg cs.toArray, .bool (res ver xs).2]) ∧ Fr [] w w' ∧ RepT w' (From w.heap.size w') cs (res ver xs).1

theorem results_cell2 {P : Program} {fn : Func} {t t2 : Nat} {T : TypeId} {z : List Value} {a : Act} {w : World} {b o : Nat} {cs : List Value} {v : Value} (h : fn.results = #[.cell t T, .tmp t2]) (hT : Flat P T z) (hl : cs.length = z.length) (ha : get a t = .pointer (some ⟨b, o, none⟩)) (hc : w.rangeAt b o cs) (hv : get a t2 = v) :
    (results fn a.tmps).run P w = .ok (.tuple #[.agg cs.toArray, v]) w := by
  obtain ⟨_, hs, fs, hu, _⟩ := hT
  have hr := run_loadVar_mid (P := P) w b o T cs _ hc hu rfl (by rw [hs, hl])
  have ha' : a.tmps[t]?.getD undef = .pointer (some ⟨b, o, none⟩) := by rw [← Array.getD_eq_getD_getElem?]; exact ha
  have hv' : a.tmps[t2]?.getD undef = v := by rw [← Array.getD_eq_getD_getElem?]; exact hv
  simp only [results, h]
  simp [ha', hv', asAddr, hr]

theorem wrap16 {i : Int} (h : -32768 ≤ i ∧ i ≤ 32767) : IntKind.i16.wrap i = i := by
  simp only [IntKind.wrap, IntKind.bits, IntKind.signed]
  simp
  split <;> omega

theorem door_m {P : Program} {ge fd : Nat} {fn : Func} {tys : List Ty} {ds : List V} {fl : Int → Bool} {g : Rd} {tell : V → T}
    {T3 T22 T27 T50 T56 te : TypeId} {f22 f24 f25 f26 : FuncId} {b0 b1 b2 b3 : Array TypeId} {i0 i1 i2 i3 i4 i5 : Nat}
    {t0 t1 t2 t3 t4 t5 t6 t7 t8 t9 t10 t11 t12 t13 t14 t15 t16 t17 t18 t19 : TypeId} {p0 p1 p2 p3 p4 p5 p6 p7 p8 p9 p10 p11 p12 p13 p14 p15 p16 p17 p18 p19 : String} {e0 e1 e2 e3 e4 e5 e6 e7 e8 e9 e10 e11 e12 e13 e14 e15 e16 e17 e18 e19 : Array Edge}
    (hf : P.funcs[fd]? = some fn) (hname : (fn.name == "runtime.NumGoroutine") = false) (hres : fn.results = #[.cell 4 T27, .tmp 5]) (hN : fn.ntmps = 20)
    (hbody : fn.body = some (.seq (Code.region i0 ⟨[⟨some 4, .alloc T27, t0, p0, e0, none⟩,
    ⟨some 5, .assign (.const (.bool false)), t1, p1, e1, none⟩]⟩ false)
  (.seq (Code.region i1 ⟨[⟨some 7, .call ⟨.value (.func f22), #[], b0⟩, t2, p2, e2, none⟩,
    ⟨some 6, .assign (.tmp 7), t3, p3, e3, none⟩]⟩ false)
  (.seq (Code.region i2 ⟨[⟨some 8, .move (.tmp 6), t4, p4, e4, none⟩,
    ⟨some 9, .move (.tmp 0), t5, p5, e5, none⟩,
    ⟨some 10, .convert T3 T50 (.tmp 9), t6, p6, e6, none⟩,
    ⟨some 11, .call ⟨.value (.func f24), #[(.tmp 8), (.tmp 10)], b1⟩, t7, p7, e7, none⟩]⟩ false)
  (.seq (.seq (Code.region i3 ⟨[⟨some 12, .move (.tmp 6), t8, p8, e8, none⟩,
    ⟨some 13, .move (.tmp 1), t9, p9, e9, none⟩,
    ⟨some 14, .call ⟨.builtin .append, #[(.const (.slice none 0 0)), (.tmp 13)], #[T22, T22]⟩, t10, p10, e10, none⟩,
    ⟨some 15, .call ⟨.value (.func f25), #[(.tmp 12), (.tmp 14)], b2⟩, t11, p11, e11, none⟩,
    ⟨some 16, .binOp .neq T56 (.tmp 15) (.const .nilIface) T56, t12, p12, e12, none⟩]⟩ false)
  (.cond (.tmp 16) (.seq (Code.region i4 ⟨[⟨some 17, .build T27 #[], t13, p13, e13, none⟩,
    ⟨none, .store T27 (.tmp 4) (.tmp 17), t14, p14, e14, none⟩,
    ⟨some 5, .assign (.const (.bool false)), t15, p15, e15, none⟩]⟩ false)
  .ret)
  .skip))
  (.seq (Code.region i5 ⟨[⟨some 18, .move (.tmp 6), t16, p16, e16, none⟩,
    ⟨some 19, .call ⟨.value (.func f26), #[(.tmp 18)], b3⟩, t17, p17, e17, none⟩,
    ⟨none, .store T27 (.tmp 4) (.tmp 19), t18, p18, e18, none⟩,
    ⟨some 5, .assign (.const (.bool true)), t19, p19, e19, none⟩]⟩ false)
  .ret))))))
    (hT : Flat P T27 zT) (hs : sliceOf P T22 te 1 1 = true) (hz : zeroIs P te [.int .u8 0]) (h3 : intOf P T3 .i64 = true) (h50 : intOf P T50 .i16 = true) (h56 : ifaceTy P T56 = true)
    (hnew : NewM P f22 (.int .i16 :: tys) (.n 0 :: ds)) (hset : SetM P f24) (hread : ReadD P ge f25 tys ds fl g) (htell : TellM P f26 (.st (.int .i16 :: tys)) tell) :
    DoorM P ge fd (doorRes g fl tell) := by
  refine ⟨enters_of hf hname hbody, ?_⟩
  intro w A ver v xs er ty u hv0 hv1 hv hxl her hiface
  have hge := lt_of_cell her
  refine calls_of_wp hf hbody ?_
  generalize ha0 : ({ tmps := #[Value.int .i64 ver, v] ++ Array.replicate (fn.ntmps - #[Value.int .i64 ver, v].size) undef, defers := [] } : Act) = a0
  have hsz : a0.tmps.size = 20 := by subst ha0; simp [hN]
  have hd0 : a0.defers = [] := by subst ha0; rfl
  have g0 : get a0 0 = .int .i64 ver := by subst ha0; exact get_args rfl
  have g1 : get a0 1 = v := by subst ha0; exact get_args rfl
  clear ha0
  refine then_id (wp_seq_k fun K1 hK1 => ?_)
  refine wp_reg ?_
  rw [wpl_cons]
  refine wp_alloc hT.zero ?_
  rw [wpl_cons, wp_assign, eval_const, wpl_nil]
  have f1 := Fr.alloc [] w (.cells (Value.agg zT.toArray).cells T27)
  have th1 : (w.alloc (.cells (Value.agg zT.toArray).cells T27)).there w.heap.size 0 5 := there_new w zT.toArray T27
  have sz1 := size_alloc w (.cells (Value.agg zT.toArray).cells T27)
  generalize w.alloc (.cells (Value.agg zT.toArray).cells T27) = w1 at f1 th1 sz1 ⊢
  generalize ha1 : (a0.put (some 4) (.pointer (some ⟨w.heap.size, 0, none⟩))).put (some 5) (.bool false) = a1
  have k1 : Kept 4 a0 a1 := by subst ha1; exact (Kept.put0 (by omega) _).put (by omega) _
  have q4 : get a1 4 = .pointer (some ⟨w.heap.size, 0, none⟩) := by subst ha1; rw [get_put_ne (by omega), get_put_same (by omega)]
  clear ha1
  have hz1 := k1.size
  refine hK1 a1 w1 (then_up ?_)
  refine then_id (wp_seq_k fun K2 hK2 => ?_)
  refine wp_reg ?_
  rw [wpl_cons]
  refine wp_calls (R := fun x w' => ∃ pb z, x = .pointer (some ⟨pb, 0, none⟩) ∧ w1.heap.size ≤ pb ∧ pb < w'.heap.size ∧ Fr [] w1 w' ∧ w'.rangeAt pb 0 z ∧ Reps w' NoFoot (.int .i16 :: tys) z (.n 0 :: ds) ∧ w'.there pb 0 (Ty.sizes (.int .i16 :: tys))) hnew.enters (vs := #[]) (by simp)
    ((hnew.call w1).mono (by rintro e' w' ⟨pb, z, rfl, h⟩; exact ⟨_, rfl, pb, z, rfl, h⟩)) ?_
  rintro x w2 ⟨pb, z, rfl, hpb1, hpb2, f2, hzr, hzs, hth⟩
  rw [wpl_cons, wp_assign, eval_tmp, get_put_same (by omega), wpl_nil]
  generalize ha2 : (a1.put (some 7) (.pointer (some ⟨pb, 0, none⟩))).put (some 6) (.pointer (some ⟨pb, 0, none⟩)) = a2
  have k2 : Kept 6 a1 a2 := by subst ha2; exact (Kept.put0 (by omega) _).put (by omega) _
  have q6 : get a2 6 = .pointer (some ⟨pb, 0, none⟩) := by subst ha2; exact get_put_same (by simp only [size_put]; omega)
  clear ha2
  have hz2 := k2.size
  refine hK2 a2 w2 (then_up ?_)
  refine then_id (wp_seq_k fun K3 hK3 => ?_)
  refine wp_reg ?_
  rw [wpl_cons, wp_move, eval_tmp, q6, wpl_cons, wp_move, eval_tmp, get_put_ne (by omega), k2.get 0 (by omega), k1.get 0 (by omega), g0, wpl_cons]
  refine wp_convert (k1 := .i64) (i := ver) h3 h50 (by rw [eval_tmp, get_put_same (by simp only [size_put]; omega)]) ?_
  rw [wrap16 (by omega), wpl_cons]
  refine wp_calls (R := fun x w' => w' = w2.setCell ⟨pb, 0, none⟩ (.int .i16 ver)) hset.enters (vs := #[.pointer (some ⟨pb, 0, none⟩), .int .i16 ver])
    (by
      simp only [List.map_toArray, List.map_cons, List.map_nil, eval_tmp]
      rw [get_put_ne (by omega), get_put_ne (by omega), get_put_same (by omega), get_put_same (by simp only [size_put]; omega)])
    ((hset.call w2 pb ver (there_part hth (by omega) (by simp [Ty.sizes, Ty.size]))).mono (by rintro e' w' ⟨⟨x, rfl⟩, rfl⟩; exact ⟨x, rfl, rfl⟩)) ?_
  rintro x w3 hw3
  rw [wpl_nil]
  generalize ha3 : (((a2.put (some 8) (.pointer (some ⟨pb, 0, none⟩))).put (some 9) (.int .i64 ver)).put (some 10) (.int .i16 ver)).put (some 11) x = a3
  have k3 : Kept 8 a2 a3 := by subst ha3; exact (((Kept.put0 (by omega) _).put (by omega) _).put (by omega) _).put (by omega) _
  clear ha3
  have hz3 := k3.size
  have f3 : Fr [⟨pb, 0, 0 + 1⟩] w2 w3 := by rw [hw3]; exact Fr.set w2 pb 0 _
  have c3 : w3.cell? ⟨pb, 0, none⟩ = some (.int .i16 ver) := by rw [hw3]; exact range_set (there_part hth (by omega) (by simp [Ty.sizes, Ty.size]))
  clear hw3
  obtain ⟨c1, c2, x1, r1, rfl, hx1, hr1, hr2⟩ := hzs
  obtain ⟨rfl, rfl⟩ := List.cons.inj hx1
  obtain ⟨i, rfl, _⟩ := hr1
  have hz4 : w3.rangeAt pb 1 c2 ∧ Reps w3 NoFoot tys c2 ds := by
    refine ⟨f3.range (range_append.1 hzr).2 (.cons (.inr (.inr (by simp))) .nil), Reps.kept f3 (fun _ _ h => h) (fun _ h => h) hr2⟩
  have hth3 : w3.there pb 0 (1 + Ty.sizes tys) := f3.there hth
  have f03 : Fr [] w w3 := by
    refine f1.trans (Fr.trans (l' := [⟨pb, 0, 0 + 1⟩]) (f2.nil (l := [])) f3 ?_) ?_
    · intro r hr; simp at hr; subst hr; exact .inl (by simp only; omega)
    · simp
  have th3 : w3.there w.heap.size 0 5 := f3.there (f2.there th1)
  have sz2 := f2.size
  have sz3 := f3.size
  refine hK3 a3 w3 (then_up ?_)
  refine then_id (wp_seq_k fun K4 hK4 => ?_)
  refine wp_seq_k fun K5 hK5 => ?_
  refine wp_reg ?_
  rw [wpl_cons, wp_move, eval_tmp, k3.get 6 (by omega), q6, wpl_cons, wp_move, eval_tmp, get_put_ne (by omega), k3.get 1 (by omega), k2.get 1 (by omega), k1.get 1 (by omega), g1, wpl_cons]
  refine wp_copySrc (xs := xs) (A := A) (v := v) hs hz (by rw [eval_tmp, get_put_same (by simp only [size_put]; omega)]) (hv.kept f03 (by simp) (fun _ h => h)) (by omega) ?_
  intro v' w4 sb' f4 hsb1 hsb2 hsrc'
  rw [wpl_cons]
  have sz4 := f4.size
  obtain ⟨sb, hsbp, hsbl, hsrc, hsbo⟩ : ∃ sb, pb ≠ sb ∧ sb < w4.heap.size ∧ Src w4 sb v' xs xs.isEmpty ∧ w.heap.size ≤ sb := by
    by_cases hx : xs = []
    · subst hx
      refine ⟨w.heap.size, by omega, by omega, ?_, Nat.le_refl _⟩
      rcases hsrc' with h | ⟨h, _⟩
      · exact .inl h
      · simp at h
    · exact ⟨sb', by omega, hsb2 hx, hsrc', by omega⟩
  have c4 := f4.cell c3 .nil
  have her4 : w4.cell? ⟨ge, 0, none⟩ = some er := f4.cell (f03.cell her .nil) .nil
  refine wp_calls hread.enters (vs := #[.pointer (some ⟨pb, 0, none⟩), v'])
    (by
      simp only [List.map_toArray, List.map_cons, List.map_nil, eval_tmp]
      rw [get_put_ne (by omega), get_put_ne (by omega), get_put_same (by omega), get_put_same (by simp only [size_put]; omega)])
    (hread.call w4 pb sb ver v' xs xs.isEmpty er (f4.there hth3) (by omega) hv1 c4 ⟨c2, f4.range hz4.1 .nil, Reps.kept f4 (by simp) (fun _ h => h) hz4.2⟩ hsrc her4 (by omega) hsbp hsbl) ?_
  rintro rv w5 ⟨f5, hm⟩
  rw [wpl_cons]
  have f05 : Fr [] w w5 := by
    refine f03.trans (Fr.trans (l' := [⟨pb, 0, 1 + Ty.sizes tys⟩]) (l := [⟨pb, 0, 1 + Ty.sizes tys⟩]) (f4.nil (l := _)) f5 (fun _ h => Rng.in_self h)) ?_
    intro r hr; simp at hr; subst hr; exact .inl (by simp only; omega)
  have th5 : w5.there w.heap.size 0 5 := f5.there (f4.there th3)
  have sz5 := f5.size
  have hpb5 : pb < w5.heap.size := by omega
  obtain ⟨b, hbv, hbt, hbf⟩ : ∃ b, ErrIs rv b ∧ (b = true → doorRes g fl tell ver xs = (.zero, false)) ∧
      (b = false → w5.cell? ⟨pb, 0, none⟩ = some (.int .i16 ver) ∧ ∃ ys z, doorRes g fl tell ver xs = (tell (.l (.n ver :: ys)), true) ∧ w5.rangeAt pb 1 z ∧ Reps w5 (Foot sb w4.heap.size w5.heap.size) tys z ys) := by
    subst hiface
    unfold doorRes
    cases hg : g ver (fl ver) ⟨xs, xs.isEmpty, false⟩ with
    | none => rw [hg] at hm; simp only at hm; subst hm; exact ⟨true, .yes _ _, by simp, by simp⟩
    | some y =>
      obtain ⟨x, st'⟩ := y
      rw [hg] at hm
      simp only at hm
      by_cases hb : st'.bad
      · rw [if_pos hb] at hm; subst hm; exact ⟨true, .yes _ _, by simp [hb], by simp⟩
      · rw [if_neg hb] at hm
        obtain ⟨rfl, h11, ys, z, rfl, h12⟩ := hm
        exact ⟨false, .no, by simp, fun _ => ⟨h11, ys, z, by simp [hb, consV], h12⟩⟩
  clear hm
  refine wp_neqNil (b := b) h56 (by rw [eval_tmp, get_put_same (by simp only [size_put]; omega)]) hbv ?_
  rw [wpl_nil]
  generalize ha5 : (((((a3.put (some 12) (.pointer (some ⟨pb, 0, none⟩))).put (some 13) v).put (some 14) v').put (some 15) rv).put (some 16) (.bool b)) = a5
  have k5 : Kept 12 a3 a5 := by subst ha5; exact ((((Kept.put0 (by omega) _).put (by omega) _).put (by omega) _).put (by omega) _).put (by omega) _
  have q16 : get a5 16 = .bool b := by subst ha5; exact get_put_same (by simp only [size_put]; omega)
  clear ha5
  have hz5 := k5.size
  have q4' : get a5 4 = .pointer (some ⟨w.heap.size, 0, none⟩) := by rw [k5.get 4 (by omega), k3.get 4 (by omega), k2.get 4 (by omega), q4]
  have q6' : get a5 6 = .pointer (some ⟨pb, 0, none⟩) := by rw [k5.get 6 (by omega), k3.get 6 (by omega), q6]
  have hd5 : a5.defers = [] := by rw [k5.defers, k3.defers, k2.defers, k1.defers, hd0]
  refine hK5 a5 w5 ?_
  refine wp_cond_split (t := b) (by rw [eval_tmp, q16]) (fun hb => ?_) fun hb => wp_skip (hK4 a5 w5 (then_up ?_))
  · refine wp_seq_k fun K6 hK6 => ?_
    refine wp_reg ?_
    rw [wpl_cons]
    refine wp_build0 hT ?_
    rw [wpl_cons]
    refine wp_storeFlat hT (cs := zT) (b := w.heap.size) (o := 0) rfl (by rw [eval_tmp, get_put_ne (by omega), q4']) (by rw [eval_tmp, get_put_same (by omega)]) (by simp [zT, Value.oneCell']) th5 ?_
    rw [put_none, wpl_cons, wp_assign, eval_const, wpl_nil]
    have f6 := Fr.sets w.heap.size zT w5 0
    have r6 := World.rangeAt_setCells_same (w := w5) w.heap.size 0 zT th5
    refine hK6 _ _ (wp_ret ?_)
    refine ⟨by simp only [defers_put]; exact hd5, _, results_cell2 hres hT (cs := zT) rfl (by rw [get_put_ne (by omega), get_put_ne (by omega), q4']) r6 (get_put_same (by simp only [size_put]; omega)), zT, by rw [hbt hb], ?_, by rw [hbt hb]; exact repT_zero⟩
    refine f05.trans f6 ?_
    intro r hr; simp at hr; subst hr; exact .inl (Nat.le_refl _)
  · obtain ⟨c5, ys, z, hres2, hrz, hrs⟩ := hbf hb
    refine then_id (wp_seq_k fun K6 hK6 => ?_)
    refine wp_reg ?_
    rw [wpl_cons, wp_move, eval_tmp, q6', wpl_cons]
    refine wp_calls (R := fun x w' => ∃ cs : List Value, x = .agg cs.toArray ∧ Fr [] w5 w' ∧ RepT w' (From w5.heap.size w') cs (tell (.l (.n ver :: ys)))) htell.enters (vs := #[.pointer (some ⟨pb, 0, none⟩)]) (by simp [eval_tmp, get_put_same (a := a5) (d := 18) (v := .pointer (some ⟨pb, 0, none⟩)) (by omega)])
      ((htell.call w5 pb 0 (.int .i16 ver :: z) (.l (.n ver :: ys)) (Foot sb w4.heap.size w5.heap.size) (range_cons.2 ⟨c5, hrz⟩)
        ⟨_, rfl, [.int .i16 ver], z, .n ver, ys, rfl, rfl, ⟨ver, rfl, rfl, by simp [IntKind.min, IntKind.signed, IntKind.bits]; omega, by simp [IntKind.max, IntKind.signed, IntKind.bits]; omega⟩, hrs⟩
        (by rintro b' (rfl | h) <;> omega) hpb5).mono (by rintro e' w' ⟨cs, rfl, h⟩; exact ⟨_, rfl, cs, rfl, h⟩)) ?_
    rintro x w6 ⟨cs, rfl, f6, hrt⟩
    have hcl := hrt.length
    have th6 : w6.there w.heap.size 0 cs.length := by rw [hcl]; exact f6.there th5
    rw [wpl_cons]
    refine wp_storeFlat hT (cs := cs) (b := w.heap.size) (o := 0) hcl (by rw [eval_tmp, get_put_ne (by omega), get_put_ne (by omega), q4']) (by rw [eval_tmp, get_put_same (by simp only [size_put]; omega)]) hrt.ones th6 ?_
    rw [put_none, wpl_cons, wp_assign, eval_const, wpl_nil]
    have f7 := Fr.sets w.heap.size cs w6 0
    have r7 := World.rangeAt_setCells_same (w := w6) w.heap.size 0 cs th6
    have sz6 := f6.size
    have sz7 := f7.size
    refine hK6 _ _ (wp_ret ?_)
    refine ⟨by simp only [defers_put]; exact hd5, _, results_cell2 hres hT (cs := cs) hcl (by rw [get_put_ne (by omega), get_put_ne (by omega), get_put_ne (by omega), q4']) r7 (get_put_same (by simp only [size_put]; omega)), cs, by rw [hres2], ?_, ?_⟩
    · refine f05.trans (Fr.trans (l' := [⟨w.heap.size, 0, 0 + cs.length⟩]) (f6.nil (l := [⟨w.heap.size, 0, 0 + cs.length⟩])) f7 (fun _ h => Rng.in_self h)) ?_
      intro r hr; simp at hr; subst hr; exact .inl (Nat.le_refl _)
    · rw [hres2]
      refine hrt.kept f7 ?_ ?_
      · intro r hr; simp at hr; subst hr; intro hb'; have := hb'.1; simp only at this; omega
      · rintro b' ⟨h1, h2⟩; exact ⟨by omega, by omega⟩

end Go.Kq
