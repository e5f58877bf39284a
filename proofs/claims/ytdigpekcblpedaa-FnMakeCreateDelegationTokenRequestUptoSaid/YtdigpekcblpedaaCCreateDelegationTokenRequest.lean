/- What the reference lays of CreateDelegationTokenRequest's fields. Printed by gen_sch.py. -/
import Derived.Test.YtdigpekcblpedaaKqSwK
import Derived.Test.YtdigpekcblpedaaKqP01
set_option linter.unusedVariables false
set_option linter.unusedSimpArgs false
namespace Go.Proofs.Ytdigpekcblpedaa.CreateDelegationTokenRequest
open Go.Kq
def fssQRenewer : List Kq.Fd := [.mk 8 0 (-1) (-1) (-1) 0 0 [], .mk 8 0 (-1) (-1) (-1) 0 0 []]
theorem fssQRenewer_m {P : Program} {f : FuncId} {fn : Func} {T29 T50 : TypeId} {i0 i1 : Nat} {t0 t1 t2 t3 t4 : TypeId} {p0 p1 p2 p3 p4 : String} {e0 e1 e2 e3 e4 : Array Edge} {te8 : TypeId} {tb : Nat}
    (hf : P.funcs[f]? = some fn) (hname : (fn.name == "runtime.NumGoroutine") = false) (hres' : fn.results = #[.tmp 0]) (hN : fn.ntmps = 4)
    (hbody : fn.body = some (.seq (Code.region i0 ⟨[⟨some 0, .assign (.const (.slice none 0 0)), t0, p0, e0, none⟩]⟩ false)
  (.seq (Code.region i1 ⟨[⟨some 1, .build T50 #[(0, .const (.int .i64 8)), (2, .const (.int .i64 (-1))), (3, .const (.int .i64 (-1))), (4, .const (.int .i64 (-1)))], t1, p1, e1, none⟩,
    ⟨some 2, .build T50 #[(0, .const (.int .i64 8)), (2, .const (.int .i64 (-1))), (3, .const (.int .i64 (-1))), (4, .const (.int .i64 (-1)))], t2, p2, e2, none⟩,
    ⟨some 3, .buildSlice T29 2 #[(0, .tmp 1), (1, .tmp 2)], t3, p3, e3, none⟩,
    ⟨some 0, .assign (.tmp 3), t4, p4, e4, none⟩]⟩ false)
  .ret)))
    (hFlT50 : Flat P T50 zF) (hs_T29 : sliceOf P T29 te8 8 tb = true)  : SubM P f fssQRenewer := by
  refine ⟨enters_of hf hname hbody, ?_⟩
  intro w
  refine calls_of_wp hf hbody ?_
  generalize ha0 : ({ tmps := #[] ++ Array.replicate (fn.ntmps - (#[] : Array Value).size) undef, defers := [] } : Act) = a0
  have hz0 : a0.tmps.size = 4 := by subst ha0; simp [hN]
  have hd0 : a0.defers = [] := by subst ha0; rfl
  refine wT fun K1 hK1 => ?_
  refine wC (wAs (v := .slice none 0 0) rfl ?_)
  refine wEn fun a2 ha2 => ?_
  have hz2 := kS ha2 hz0
  have hd2 := kD ha2 hd0
  refine hK1 a2 w (tUp ?_)
  refine wT fun K3 hK3 => ?_
  refine wC (wp_buildC (z := zF) (ps := [(0, .const (.int .i64 8)), (2, .const (.int .i64 (-1))), (3, .const (.int .i64 (-1))), (4, .const (.int .i64 (-1)))]) (vs := [(0, Value.int .i64 8), (2, Value.int .i64 (-1)), (3, Value.int .i64 (-1)), (4, Value.int .i64 (-1))]) (cs := [.int .i64 8, .int .i64 0, .int .i64 (-1), .int .i64 (-1), .int .i64 (-1), .int .i64 0, .int .i64 0, (.slice none 0 0)]) hFlT50 rfl (by decide) rfl ?_)
  refine wC (wp_buildC (z := zF) (ps := [(0, .const (.int .i64 8)), (2, .const (.int .i64 (-1))), (3, .const (.int .i64 (-1))), (4, .const (.int .i64 (-1)))]) (vs := [(0, Value.int .i64 8), (2, Value.int .i64 (-1)), (3, Value.int .i64 (-1)), (4, Value.int .i64 (-1))]) (cs := [.int .i64 8, .int .i64 0, .int .i64 (-1), .int .i64 (-1), .int .i64 (-1), .int .i64 0, .int .i64 0, (.slice none 0 0)]) hFlT50 rfl (by decide) rfl ?_)
  refine wC (wp_fields (s0 := w.heap.size) (A := From w.heap.size w) (xs := [.tmp 1, .tmp 2]) (css := [[.int .i64 8, .int .i64 0, .int .i64 (-1), .int .i64 (-1), .int .i64 (-1), .int .i64 0, .int .i64 0, (.slice none 0 0)], [.int .i64 8, .int .i64 0, .int .i64 (-1), .int .i64 (-1), .int .i64 (-1), .int .i64 0, .int .i64 0, (.slice none 0 0)]]) (fs := [.mk 8 0 (-1) (-1) (-1) 0 0 [], .mk 8 0 (-1) (-1) (-1) 0 0 []]) hs_T29 (lX2 (eS hz2) (eS hz2)) (RepFL.cons (repF_iff.2 ⟨_, rfl, .inl ⟨rfl, rfl⟩⟩) (RepFL.cons (repF_iff.2 ⟨_, rfl, .inl ⟨rfl, rfl⟩⟩) RepFL.nil)) rfl (by decide) (by decide) (fun b hb => hb) (Fr.refl [] w).size ?_)
  intro w4 v4 fr4 hv4
  have hF5 : Fr [] w w4 := fr4
  refine wC (wAs (v := v4) (eS hz2) ?_)
  refine wEn fun a6 ha6 => ?_
  have hz6 := kS ha6 hz2
  have hd6 := kD ha6 hd2
  have g6_0 : get a6 0 = v4 := kG ha6 hz2
  refine hK3 a6 w4 (tUp ?_)
  refine wp_ret ?_
  exact ⟨hd6, _, rIs hres' g6_0, _, rfl, hF5, hv4⟩
theorem ifssQRenewer : SubM Try.prog 54 fssQRenewer := fssQRenewer_m (te8 := 50) (tb := 80) Try.func54 (by kernel_rfl) rfl rfl rfl (fBi (by kernel_rfl)) (by kernel_rfl)
def fsQ : List Kq.Fd := [.mk 8 3 (-1) 3 (-1) 0 0 [], .mk 8 3 (-1) 3 (-1) 0 0 [], .mk 11 0 (-1) (-1) (-1) 0 10 fssQRenewer, .mk 4 0 (-1) (-1) (-1) 0 0 []]
theorem fsQ_m {P : Program} {f : FuncId} {fn : Func} {T29 T31 T50 : TypeId} {f54 : FuncId} {ct0 : Array TypeId} {i0 i1 : Nat} {t0 t1 t2 t3 t4 t5 t6 t7 t8 : TypeId} {p0 p1 p2 p3 p4 p5 p6 p7 p8 : String} {e0 e1 e2 e3 e4 e5 e6 e7 e8 : Array Edge} {te8 : TypeId} {tb : Nat}
    (hf : P.funcs[f]? = some fn) (hname : (fn.name == "runtime.NumGoroutine") = false) (hres' : fn.results = #[.cell 0 T31]) (hN : fn.ntmps = 8)
    (hbody : fn.body = some (.seq (Code.region i0 ⟨[⟨some 0, .alloc T31, t0, p0, e0, none⟩]⟩ false)
  (.seq (Code.region i1 ⟨[⟨some 1, .build T50 #[(0, .const (.int .i64 8)), (1, .const (.int .i64 3)), (2, .const (.int .i64 (-1))), (3, .const (.int .i64 3)), (4, .const (.int .i64 (-1)))], t1, p1, e1, none⟩,
    ⟨some 2, .build T50 #[(0, .const (.int .i64 8)), (1, .const (.int .i64 3)), (2, .const (.int .i64 (-1))), (3, .const (.int .i64 3)), (4, .const (.int .i64 (-1)))], t2, p2, e2, none⟩,
    ⟨some 3, .call ⟨.value (.func f54), #[], ct0⟩, t3, p3, e3, none⟩,
    ⟨some 4, .build T50 #[(0, .const (.int .i64 11)), (2, .const (.int .i64 (-1))), (3, .const (.int .i64 (-1))), (4, .const (.int .i64 (-1))), (6, .const (.int .i64 10)), (7, .tmp 3)], t4, p4, e4, none⟩,
    ⟨some 5, .build T50 #[(0, .const (.int .i64 4)), (2, .const (.int .i64 (-1))), (3, .const (.int .i64 (-1))), (4, .const (.int .i64 (-1)))], t5, p5, e5, none⟩,
    ⟨some 6, .buildSlice T29 4 #[(0, .tmp 1), (1, .tmp 2), (2, .tmp 4), (3, .tmp 5)], t6, p6, e6, none⟩,
    ⟨some 7, .build T31 #[(1, .const (.int .i64 2)), (0, .tmp 6)], t7, p7, e7, none⟩,
    ⟨none, .store T31 (.tmp 0) (.tmp 7), t8, p8, e8, none⟩]⟩ false)
  .ret)))
    (hFlT31 : Flat P T31 zM) (hFlT50 : Flat P T50 zF) (hs_T29 : sliceOf P T29 te8 8 tb = true) (hfssQRenewer : SubM P f54 fssQRenewer) : SchM P f fsQ 2 := by
  refine ⟨enters_of hf hname hbody, ?_⟩
  intro w
  refine calls_of_wp hf hbody ?_
  generalize ha0 : ({ tmps := #[] ++ Array.replicate (fn.ntmps - (#[] : Array Value).size) undef, defers := [] } : Act) = a0
  have hz0 : a0.tmps.size = 8 := by subst ha0; simp [hN]
  have hd0 : a0.defers = [] := by subst ha0; rfl
  refine wT fun K1 hK1 => ?_
  refine wC (wp_allocL hFlT31 ?_)
  rintro w2 f2 sz2 r2 th2
  have hF3 : Fr [] w w2 := f2
  refine wEn fun a4 ha4 => ?_
  have hz4 := kS ha4 hz0
  have hd4 := kD ha4 hd0
  have g4_0 : get a4 0 = .pointer (some ⟨w.heap.size, 0, none⟩) := kG ha4 hz0
  refine hK1 a4 w2 (tUp ?_)
  refine wT fun K5 hK5 => ?_
  refine wC (wp_buildC (z := zF) (ps := [(0, .const (.int .i64 8)), (1, .const (.int .i64 3)), (2, .const (.int .i64 (-1))), (3, .const (.int .i64 3)), (4, .const (.int .i64 (-1)))]) (vs := [(0, Value.int .i64 8), (1, Value.int .i64 3), (2, Value.int .i64 (-1)), (3, Value.int .i64 3), (4, Value.int .i64 (-1))]) (cs := [.int .i64 8, .int .i64 3, .int .i64 (-1), .int .i64 3, .int .i64 (-1), .int .i64 0, .int .i64 0, (.slice none 0 0)]) hFlT50 rfl (by decide) rfl ?_)
  refine wC (wp_buildC (z := zF) (ps := [(0, .const (.int .i64 8)), (1, .const (.int .i64 3)), (2, .const (.int .i64 (-1))), (3, .const (.int .i64 3)), (4, .const (.int .i64 (-1)))]) (vs := [(0, Value.int .i64 8), (1, Value.int .i64 3), (2, Value.int .i64 (-1)), (3, Value.int .i64 3), (4, Value.int .i64 (-1))]) (cs := [.int .i64 8, .int .i64 3, .int .i64 (-1), .int .i64 3, .int .i64 (-1), .int .i64 0, .int .i64 0, (.slice none 0 0)]) hFlT50 rfl (by decide) rfl ?_)
  refine wC (wCr (R := fun vz wz => Fr [] w2 wz ∧ FdsR wz (From w2.heap.size wz) vz fssQRenewer) (vs := #[]) hfssQRenewer.enters (by simp) ((hfssQRenewer.call w2).mono (by rintro e wz ⟨v, rfl, h⟩; exact ⟨_, rfl, h⟩)) ?_)
  rintro x6 w6 ⟨fr6, hx6⟩
  have hF7 : Fr [] w w6 := hF3.tr fr6
  have hL7_w2 : Fr [] w2 w6 := (Fr.refl [] w2).tr fr6
  have hb6 := hx6.kept (Fr.refl [] w6) (by simp) (A' := From w2.heap.size w6) (fun b hb => ⟨Nat.le_trans (Fr.refl [] w2).size hb.1, hb.2⟩)
  refine wC (wp_buildC (z := zF) (ps := [(0, .const (.int .i64 11)), (2, .const (.int .i64 (-1))), (3, .const (.int .i64 (-1))), (4, .const (.int .i64 (-1))), (6, .const (.int .i64 10)), (7, .tmp 3)]) (vs := [(0, Value.int .i64 11), (2, Value.int .i64 (-1)), (3, Value.int .i64 (-1)), (4, Value.int .i64 (-1)), (6, Value.int .i64 10), (7, x6)]) (cs := [.int .i64 11, .int .i64 0, .int .i64 (-1), .int .i64 (-1), .int .i64 (-1), .int .i64 0, .int .i64 10, x6]) hFlT50 (by simp only [List.map_cons, List.map_nil, eCo]; rw [eTm, sZ (zZ (zZ hz4)) (by decide)]) (by intro p hp; simp at hp; rcases hp with rfl | rfl | rfl | rfl | rfl | rfl <;> exact ⟨by simp [zF], by first | rfl | exact hb6.one⟩) rfl ?_)
  refine wC (wp_buildC (z := zF) (ps := [(0, .const (.int .i64 4)), (2, .const (.int .i64 (-1))), (3, .const (.int .i64 (-1))), (4, .const (.int .i64 (-1)))]) (vs := [(0, Value.int .i64 4), (2, Value.int .i64 (-1)), (3, Value.int .i64 (-1)), (4, Value.int .i64 (-1))]) (cs := [.int .i64 4, .int .i64 0, .int .i64 (-1), .int .i64 (-1), .int .i64 (-1), .int .i64 0, .int .i64 0, (.slice none 0 0)]) hFlT50 rfl (by decide) rfl ?_)
  refine wC (wp_fields (s0 := w2.heap.size) (A := From w2.heap.size w6) (xs := [.tmp 1, .tmp 2, .tmp 4, .tmp 5]) (css := [[.int .i64 8, .int .i64 3, .int .i64 (-1), .int .i64 3, .int .i64 (-1), .int .i64 0, .int .i64 0, (.slice none 0 0)], [.int .i64 8, .int .i64 3, .int .i64 (-1), .int .i64 3, .int .i64 (-1), .int .i64 0, .int .i64 0, (.slice none 0 0)], [.int .i64 11, .int .i64 0, .int .i64 (-1), .int .i64 (-1), .int .i64 (-1), .int .i64 0, .int .i64 10, x6], [.int .i64 4, .int .i64 0, .int .i64 (-1), .int .i64 (-1), .int .i64 (-1), .int .i64 0, .int .i64 0, (.slice none 0 0)]]) (fs := [.mk 8 3 (-1) 3 (-1) 0 0 [], .mk 8 3 (-1) 3 (-1) 0 0 [], .mk 11 0 (-1) (-1) (-1) 0 10 fssQRenewer, .mk 4 0 (-1) (-1) (-1) 0 0 []]) hs_T29 (lX4 (eS hz4) (eS hz4) (eS hz4) (eS hz4)) (RepFL.cons (repF_iff.2 ⟨_, rfl, .inl ⟨rfl, rfl⟩⟩) (RepFL.cons (repF_iff.2 ⟨_, rfl, .inl ⟨rfl, rfl⟩⟩) (RepFL.cons (repF_iff.2 ⟨_, rfl, hb6⟩) (RepFL.cons (repF_iff.2 ⟨_, rfl, .inl ⟨rfl, rfl⟩⟩) RepFL.nil)))) rfl (by decide) (by decide) (fun b hb => hb) hL7_w2.size ?_)
  intro w8 v8 fr8 hv8
  have hF9 : Fr [] w w8 := hF7.tr fr8
  have hL9_w2 : Fr [] w2 w8 := hL7_w2.tr fr8
  refine wC (wp_buildC (z := zM) (ps := [(1, .const (.int .i64 2)), (0, .tmp 6)]) (vs := [(1, .int .i64 2), (0, v8)]) (cs := [v8, .int .i64 2]) hFlT31 (by simp only [List.map_cons, List.map_nil, eCo]; rw [eTm, sZ (zZ (zZ (zZ (zZ (zZ hz4))))) (by decide)]) (by intro p hp; simp at hp; rcases hp with rfl | rfl; exact ⟨by simp [zM], rfl⟩; exact ⟨by simp [zM], hv8.one⟩) rfl ?_)
  rw [wCo]
  have thS := hL9_w2.there th2
  refine wp_storeL (cs := [v8, .int .i64 2]) (o := 0) hFlT31 rfl (eK g4_0) (eS hz4) (by intro u hu; simp at hu; rcases hu with rfl | rfl; exact hv8.one; rfl) thS ?_
  rintro w10 f10 sz10 r10 th10
  have hF10 : Fr [] w w10 := hF9.trans f10 (fun r hr => .inl (by simp at hr; subst hr; have := (Fr.refl [] w).size; simp only; omega))
  refine wEn fun a11 ha11 => ?_
  have hz11 := kS ha11 hz4
  have hd11 := kD ha11 hd4
  have g11_0 := kP ha11 g4_0
  refine hK5 a11 w10 (tUp ?_)
  refine wp_ret ?_
  have hst := hF10
  have hfin : FdsR w10 (From w.heap.size w10) v8 [.mk 8 3 (-1) 3 (-1) 0 0 [], .mk 8 3 (-1) 3 (-1) 0 0 [], .mk 11 0 (-1) (-1) (-1) 0 10 fssQRenewer, .mk 4 0 (-1) (-1) (-1) 0 0 []] := hv8.kept f10 (by intro r hr hA; simp at hr; subst hr; have := hA.1; simp only at this; omega) (fun b hb => ⟨by have := hb.1; omega, Nat.lt_of_lt_of_le hb.2 f10.size⟩)
  exact ⟨hd11, _, results_cell hres' hFlT31 (cs := [v8, .int .i64 2]) rfl g11_0 r10, _, rfl, hst, hfin⟩
theorem ifsQ : SchM Try.prog 24 fsQ 2 := fsQ_m (te8 := 50) (tb := 80) Try.func24 (by kernel_rfl) rfl rfl rfl (fBi (by kernel_rfl)) (fBi (by kernel_rfl)) (by kernel_rfl) ifssQRenewer
end Go.Proofs.Ytdigpekcblpedaa.CreateDelegationTokenRequest
