/- A message's small functions: new, set version, read, and the doors of the thin package. -/
import Derived.Test.YtjeplgghcebfjaaDoorKqGot4
import Derived.Test.YtjeplgghcebfjaaDoorKqZero
namespace Go.Kq
open Go Go.Proofs

structure NewM (P : Program) (f : FuncId) (tys : List Ty) (ds : List V) : Prop where
  enters : Enters P f
  call : ∀ w, Calls P f #[] w fun e w' => ∃ pb z, e = .returned (.pointer (some ⟨pb, 0, none⟩)) ∧ w.heap.size ≤ pb ∧ pb < w'.heap.size ∧ Fr [] w w' ∧ w'.rangeAt pb 0 z ∧ Reps w' NoFoot tys z ds ∧ w'.there pb 0 (Ty.sizes tys)

theorem new_m {P : Program} {f fd : FuncId} {fn : Func} {TM : TypeId} {tys : List Ty} {d : List V → List V} {i0 i1 i2 i3 : Nat} {ats : Array TypeId} {x0 : Value}
    {t0 t1 t2 t3 : TypeId} {p0 p1 p2 p3 : String} {e0 e1 e2 e3 : Array Edge} (hf : P.funcs[f]? = some fn) (hname : (fn.name == "runtime.NumGoroutine") = false) (hres : fn.results = #[.tmp 0]) (hN : fn.ntmps = 3)
    (hbody : fn.body = some (.seq (Code.region i0 ⟨[⟨some 0, .assign (.const x0), t0, p0, e0, none⟩]⟩ false)
      (.seq (Code.region i1 ⟨[⟨some 1, .alloc TM, t1, p1, e1, none⟩]⟩ false)
      (.seq (Code.region i2 ⟨[⟨some 2, .call ⟨.value (.func fd), #[.tmp 1], ats⟩, t2, p2, e2, none⟩]⟩ false)
      (.seq (Code.region i3 ⟨[⟨some 0, .assign (.tmp 1), t3, p3, e3, none⟩]⟩ false) .ret)))))
    (hz : zeroIs P TM (Ty.zcs tys)) (hd : DefM P fd tys d) (hn : 0 < Ty.sizes tys) : NewM P f tys (d (Ty.zvs tys)) := by
  refine ⟨enters_of hf hname hbody, fun w => ?_⟩
  obtain ⟨i, v, hi, hzv, hcs⟩ := hz
  refine calls_of_wp hf hbody ?_
  generalize ha0 : ({ tmps := #[] ++ Array.replicate (fn.ntmps - #[].size) undef, defers := [] } : Act) = a0
  have hsz : a0.tmps.size = 3 := by subst ha0; simp [hN]
  have hd0 : a0.defers = [] := by subst ha0; rfl
  clear ha0
  refine then_id (wp_seq_k fun K1 hK1 => ?_)
  refine r_const (m := 0) (by omega) (by omega) fun a1 k1 _ => hK1 a1 w (then_up ?_)
  have hz1 := k1.size
  refine then_id (wp_seq_k fun K2 hK2 => ?_)
  refine wp_reg ?_
  rw [wpl_cons]
  refine wp_alloc ⟨i, hi, hzv⟩ ?_
  rw [wpl_nil]
  have f1 := Fr.alloc [] w (.cells v.cells TM)
  have rg1 := range_new w v.cells TM (0, 0)
  have th1 := there_new w v.cells TM
  have sz1 := size_alloc w (.cells v.cells TM)
  rw [hcs] at rg1
  have hlen : (Ty.zcs tys).length = Ty.sizes tys := (reps_zero (w := w) (A := NoFoot) tys).length
  have hcl : v.cells.size = Ty.sizes tys := by rw [← hlen, ← hcs, Array.length_toList]
  rw [hcl] at th1
  generalize w.alloc (.cells v.cells TM) = w1 at f1 rg1 th1 sz1 ⊢
  have g1 : get (a1.put (some 1) (.pointer (some ⟨w.heap.size, 0, none⟩))) 1 = .pointer (some ⟨w.heap.size, 0, none⟩) := get_put_same (by omega)
  have k2 : Kept 0 a1 (a1.put (some 1) (.pointer (some ⟨w.heap.size, 0, none⟩))) := Kept.put0 (by omega) _
  generalize a1.put (some 1) (.pointer (some ⟨w.heap.size, 0, none⟩)) = a2 at g1 k2 ⊢
  have hz2 := k2.size
  refine hK2 a2 w1 (then_up ?_)
  refine then_id (wp_seq_k fun K3 hK3 => ?_)
  refine wp_reg ?_
  rw [wpl_cons]
  refine wp_calls (R := fun _ w' => (∃ z', w'.rangeAt w.heap.size 0 z' ∧ Reps w' NoFoot tys z' (d (Ty.zvs tys))) ∧ Fr [⟨w.heap.size, 0, 0 + (Ty.zcs tys).length⟩] w1 w') hd.enters (vs := #[.pointer (some ⟨w.heap.size, 0, none⟩)]) (by simp [eval_tmp, g1])
    ((hd.call w1 w.heap.size 0 _ _ NoFoot rg1 (by rw [hlen]; exact th1) (reps_zero tys)).mono (by rintro e' w' ⟨x, h1, h2, h3⟩; exact ⟨x, h1, h2, h3⟩)) ?_
  rintro x w2 ⟨⟨z', hz', hr'⟩, f2⟩
  rw [wpl_nil]
  have hz3 := f2.size
  refine hK3 _ w2 (then_up ?_)
  refine then_id (wp_seq_k fun K4 hK4 => ?_)
  refine wp_reg ?_
  rw [wpl_cons, wp_assign, eval_tmp, get_put_ne (by omega), g1, wpl_nil]
  refine hK4 _ w2 (wp_ret ?_)
  refine ⟨by rw [defers_put, defers_put, k2.defers, k1.defers, hd0], _, results_one hres, w.heap.size, z', by rw [get_put_same (by simp only [size_put]; omega)], Nat.le_refl _, by omega, ?_, hz', hr', f2.there th1⟩
  refine f1.trans f2 ?_
  intro r hr; simp at hr; subst hr; exact .inl (Nat.le_refl _)

/-- 'func (v *T) SetVersion(version int16) { v.Version = version }' -/
structure SetM (P : Program) (f : FuncId) : Prop where
  enters : Enters P f
  call : ∀ w pb ver, w.there pb 0 1 → Calls P f #[.pointer (some ⟨pb, 0, none⟩), .int .i16 ver] w fun e w' => (∃ x, e = .returned x) ∧ w' = w.setCell ⟨pb, 0, none⟩ (.int .i16 ver)
theorem set_m {P : Program} {f : FuncId} {fn : Func} {S Tv kv : Nat} {i0 : Nat} {t0 t1 t2 t3 t4 : TypeId} {p0 p1 p2 p3 p4 : String} {e0 e1 e2 e3 e4 : Array Edge}
    (hf : P.funcs[f]? = some fn) (hname : (fn.name == "runtime.NumGoroutine") = false) (hres : fn.results = #[]) (hN : fn.ntmps = 8)
    (hbody : fn.body = some (Code.region i0 ⟨[⟨some 4, .move (.tmp 0), t0, p0, e0, none⟩, ⟨some 5, .move (.tmp 1), t1, p1, e1, none⟩, ⟨some 6, .nilCheck (.tmp 4), t2, p2, e2, none⟩, ⟨some 7, .fieldAddr S (.tmp 6) kv, t3, p3, e3, none⟩, ⟨none, .store Tv (.tmp 7) (.tmp 5), t4, p4, e4, none⟩]⟩ false))
    (hS : fieldOf P S kv 0 = true) (hTv : scal P Tv = true) : SetM P f := by
  refine ⟨enters_of hf hname hbody, fun w pb ver ht => ?_⟩
  refine calls_of_wp hf hbody ?_
  generalize ha0 : ({ tmps := #[Value.pointer (some ⟨pb, 0, none⟩), Value.int .i16 ver] ++ Array.replicate (fn.ntmps - #[Value.pointer (some ⟨pb, 0, none⟩), Value.int .i16 ver].size) undef, defers := [] } : Act) = a0
  have hsz : a0.tmps.size = 8 := by subst ha0; simp [hN]
  have hd0 : a0.defers = [] := by subst ha0; rfl
  have g0 : get a0 0 = .pointer (some ⟨pb, 0, none⟩) := by subst ha0; exact get_args rfl
  have g1 : get a0 1 = .int .i16 ver := by subst ha0; exact get_args rfl
  clear ha0
  refine wp_reg ?_
  rw [wpl_cons, wp_move, eval_tmp, g0, wpl_cons, wp_move, eval_tmp, get_put_ne (by omega), g1, wpl_cons]
  refine wp_nilCheck (q := ⟨pb, 0, none⟩) (by rw [eval_tmp, get_put_ne (by omega), get_put_same (by omega)]) ?_
  rw [wpl_cons]
  refine wp_fieldAddr (b := pb) (i := 0) hS (by rw [eval_tmp, get_put_same (by simp only [size_put]; omega)]) ?_
  rw [wpl_cons]
  refine wp_store hTv (b := pb) (o := 0) (v := .int .i16 ver) (by rw [eval_tmp, get_put_same (by simp only [size_put]; omega)]) (by rw [eval_tmp, get_put_ne (by omega), get_put_ne (by omega), get_put_same (by simp only [size_put]; omega)]) rfl ht ?_
  rw [wpl_nil]
  exact ⟨by simp only [defers_put]; exact hd0, .tuple #[], by simp [results, hres], ⟨_, rfl⟩, rfl⟩

/-- 'func (v *T) ReadFrom(src []byte) error { return v.readFrom(src, false) }' -/
theorem read_m {P : Program} {f fr : FuncId} {fn : Func} {uns : Bool} {i0 i1 : Nat} {ats : Array TypeId} {t0 t1 t2 t3 t4 : TypeId} {p0 p1 p2 p3 p4 : String} {e0 e1 e2 e3 e4 : Array Edge}
    (hf : P.funcs[f]? = some fn) (hname : (fn.name == "runtime.NumGoroutine") = false) (hres : fn.results = #[.tmp 4]) (hN : fn.ntmps = 8)
    (hbody : fn.body = some (.seq (Code.region i0 ⟨[⟨some 4, .assign (.const .nilIface), t0, p0, e0, none⟩]⟩ false)
      (.seq (Code.region i1 ⟨[⟨some 5, .move (.tmp 0), t1, p1, e1, none⟩, ⟨some 6, .move (.tmp 1), t2, p2, e2, none⟩, ⟨some 7, .call ⟨.value (.func fr), #[.tmp 5, .tmp 6, .const (.bool uns)], ats⟩, t3, p3, e3, none⟩, ⟨some 4, .assign (.tmp 7), t4, p4, e4, none⟩]⟩ false) .ret)))
    (hr : Enters P fr) {w : World} {v s : Value} {R : Value → World → Prop} (h : Calls P fr #[v, s, .bool uns] w fun e w' => ∃ x, e = .returned x ∧ R x w') : Calls P f #[v, s] w fun e w' => ∃ x, e = .returned x ∧ R x w' := by
  refine calls_of_wp hf hbody ?_
  generalize ha0 : ({ tmps := #[v, s] ++ Array.replicate (fn.ntmps - #[v, s].size) undef, defers := [] } : Act) = a0
  have hsz : a0.tmps.size = 8 := by subst ha0; simp [hN]
  have hd0 : a0.defers = [] := by subst ha0; rfl
  have g0 : get a0 0 = v := by subst ha0; exact get_args rfl
  have g1 : get a0 1 = s := by subst ha0; exact get_args rfl
  clear ha0
  refine then_id (wp_seq_k fun K1 hK1 => ?_)
  refine r_const (m := 4) (by omega) (by omega) fun a1 k1 _ => hK1 a1 w (then_up ?_)
  have hz1 := k1.size
  refine then_id (wp_seq_k fun K2 hK2 => ?_)
  refine wp_reg ?_
  rw [wpl_cons, wp_move, eval_tmp, k1.get 0 (by omega), g0, wpl_cons, wp_move, eval_tmp, get_put_ne (by omega), k1.get 1 (by omega), g1, wpl_cons]
  refine wp_calls hr (vs := #[v, s, .bool uns]) (by simp [eval_tmp, eval_const, get_put_ne (show (6 : Nat) ≠ 5 by omega), get_put_same (a := a1) (d := 5) (show 5 < a1.tmps.size by omega), get_put_same (a := a1.put (some 5) v) (d := 6) (show 6 < (a1.put (some 5) v).tmps.size by simp only [size_put]; omega)]) h ?_
  intro x w2 hR
  rw [wpl_cons, wp_assign, eval_tmp, get_put_same (by simp only [size_put]; omega), wpl_nil]
  refine hK2 _ w2 (wp_ret ?_)
  refine ⟨by simp only [defers_put]; rw [k1.defers, hd0], _, results_one hres, x, by rw [get_put_same (by simp only [size_put]; omega)], hR⟩

end Go.Kq
