/- What the reference lays of DescribeQuorumResponse's fields. Printed by gen_sch.py. -/
import Derived.Test.YthmejlgblhjcdaaGreatDoorKqSwr
import Derived.Test.YthmejlgblhjcdaaGreatDoorKqP01
set_option linter.unusedVariables false
set_option linter.unusedSimpArgs false
namespace Go.Proofs.YthmejlgblhjcdaaGreatDoor.DescribeQuorumResponse
open Go.Kq
def fssQTopicPartitionReplicaState : List Kq.Fd := [.mk 3 0 (-1) (-1) (-1) 0 0 [], .mk 7 2 (-1) (-1) (-1) 0 0 [], .mk 4 0 (-1) (-1) (-1) 0 0 [], .mk 4 1 (-1) (-1) (-1) (-1) 0 [], .mk 4 1 (-1) (-1) (-1) (-1) 0 []]
theorem fssQTopicPartitionReplicaState_m {P : Program} {f : FuncId} {fn : Func} {T29 T56 : TypeId} {i0 i1 : Nat} {t0 t1 t2 t3 t4 t5 t6 t7 : TypeId} {p0 p1 p2 p3 p4 p5 p6 p7 : String} {e0 e1 e2 e3 e4 e5 e6 e7 : Array Edge} {te8 : TypeId} {tb : Nat}
    (hf : P.funcs[f]? = some fn) (hname : (fn.name == "runtime.NumGoroutine") = false) (hres' : fn.results = #[.tmp 0]) (hN : fn.ntmps = 7)
    (hbody : fn.body = some (.seq (Code.region i0 ⟨[⟨some 0, .assign (.const (.slice none 0 0)), t0, p0, e0, none⟩]⟩ false)
  (.seq (Code.region i1 ⟨[⟨some 1, .build T56 #[(0, .const (.int .i64 3)), (2, .const (.int .i64 (-1))), (3, .const (.int .i64 (-1))), (4, .const (.int .i64 (-1)))], t1, p1, e1, none⟩,
    ⟨some 2, .build T56 #[(0, .const (.int .i64 7)), (1, .const (.int .i64 2)), (2, .const (.int .i64 (-1))), (3, .const (.int .i64 (-1))), (4, .const (.int .i64 (-1)))], t2, p2, e2, none⟩,
    ⟨some 3, .build T56 #[(0, .const (.int .i64 4)), (2, .const (.int .i64 (-1))), (3, .const (.int .i64 (-1))), (4, .const (.int .i64 (-1)))], t3, p3, e3, none⟩,
    ⟨some 4, .build T56 #[(0, .const (.int .i64 4)), (1, .const (.int .i64 1)), (2, .const (.int .i64 (-1))), (3, .const (.int .i64 (-1))), (4, .const (.int .i64 (-1))), (5, .const (.int .i64 (-1)))], t4, p4, e4, none⟩,
    ⟨some 5, .build T56 #[(0, .const (.int .i64 4)), (1, .const (.int .i64 1)), (2, .const (.int .i64 (-1))), (3, .const (.int .i64 (-1))), (4, .const (.int .i64 (-1))), (5, .const (.int .i64 (-1)))], t5, p5, e5, none⟩,
    ⟨some 6, .buildSlice T29 5 #[(0, .tmp 1), (1, .tmp 2), (2, .tmp 3), (3, .tmp 4), (4, .tmp 5)], t6, p6, e6, none⟩,
    ⟨some 0, .assign (.tmp 6), t7, p7, e7, none⟩]⟩ false)
  .ret)))
    (hFlT56 : Flat P T56 zF) (hs_T29 : sliceOf P T29 te8 8 tb = true)  : SubM P f fssQTopicPartitionReplicaState := by
  refine ⟨enters_of hf hname hbody, ?_⟩
  intro w
  refine calls_of_wp hf hbody ?_
  generalize ha0 : ({ tmps := #[] ++ Array.replicate (fn.ntmps - (#[] : Array Value).size) undef, defers := [] } : Act) = a0
  have hz0 : a0.tmps.size = 7 := by subst ha0; simp [hN]
  have hd0 : a0.defers = [] := by subst ha0; rfl
  refine wT fun K1 hK1 => ?_
  refine wC (wAs (v := .slice none 0 0) rfl ?_)
  refine wEn fun a2 ha2 => ?_
  have hz2 := kS ha2 hz0
  have hd2 := kD ha2 hd0
  refine hK1 a2 w (tUp ?_)
  refine wT fun K3 hK3 => ?_
  refine wC (wp_buildC (z := zF) (ps := [(0, .const (.int .i64 3)), (2, .const (.int .i64 (-1))), (3, .const (.int .i64 (-1))), (4, .const (.int .i64 (-1)))]) (vs := [(0, Value.int .i64 3), (2, Value.int .i64 (-1)), (3, Value.int .i64 (-1)), (4, Value.int .i64 (-1))]) (cs := [.int .i64 3, .int .i64 0, .int .i64 (-1), .int .i64 (-1), .int .i64 (-1), .int .i64 0, .int .i64 0, (.slice none 0 0)]) hFlT56 rfl (by decide) rfl ?_)
  refine wC (wp_buildC (z := zF) (ps := [(0, .const (.int .i64 7)), (1, .const (.int .i64 2)), (2, .const (.int .i64 (-1))), (3, .const (.int .i64 (-1))), (4, .const (.int .i64 (-1)))]) (vs := [(0, Value.int .i64 7), (1, Value.int .i64 2), (2, Value.int .i64 (-1)), (3, Value.int .i64 (-1)), (4, Value.int .i64 (-1))]) (cs := [.int .i64 7, .int .i64 2, .int .i64 (-1), .int .i64 (-1), .int .i64 (-1), .int .i64 0, .int .i64 0, (.slice none 0 0)]) hFlT56 rfl (by decide) rfl ?_)
  refine wC (wp_buildC (z := zF) (ps := [(0, .const (.int .i64 4)), (2, .const (.int .i64 (-1))), (3, .const (.int .i64 (-1))), (4, .const (.int .i64 (-1)))]) (vs := [(0, Value.int .i64 4), (2, Value.int .i64 (-1)), (3, Value.int .i64 (-1)), (4, Value.int .i64 (-1))]) (cs := [.int .i64 4, .int .i64 0, .int .i64 (-1), .int .i64 (-1), .int .i64 (-1), .int .i64 0, .int .i64 0, (.slice none 0 0)]) hFlT56 rfl (by decide) rfl ?_)
  refine wC (wp_buildC (z := zF) (ps := [(0, .const (.int .i64 4)), (1, .const (.int .i64 1)), (2, .const (.int .i64 (-1))), (3, .const (.int .i64 (-1))), (4, .const (.int .i64 (-1))), (5, .const (.int .i64 (-1)))]) (vs := [(0, Value.int .i64 4), (1, Value.int .i64 1), (2, Value.int .i64 (-1)), (3, Value.int .i64 (-1)), (4, Value.int .i64 (-1)), (5, Value.int .i64 (-1))]) (cs := [.int .i64 4, .int .i64 1, .int .i64 (-1), .int .i64 (-1), .int .i64 (-1), .int .i64 (-1), .int .i64 0, (.slice none 0 0)]) hFlT56 rfl (by decide) rfl ?_)
  refine wC (wp_buildC (z := zF) (ps := [(0, .const (.int .i64 4)), (1, .const (.int .i64 1)), (2, .const (.int .i64 (-1))), (3, .const (.int .i64 (-1))), (4, .const (.int .i64 (-1))), (5, .const (.int .i64 (-1)))]) (vs := [(0, Value.int .i64 4), (1, Value.int .i64 1), (2, Value.int .i64 (-1)), (3, Value.int .i64 (-1)), (4, Value.int .i64 (-1)), (5, Value.int .i64 (-1))]) (cs := [.int .i64 4, .int .i64 1, .int .i64 (-1), .int .i64 (-1), .int .i64 (-1), .int .i64 (-1), .int .i64 0, (.slice none 0 0)]) hFlT56 rfl (by decide) rfl ?_)
  refine wC (wp_fields (s0 := w.heap.size) (A := From w.heap.size w) (xs := [.tmp 1, .tmp 2, .tmp 3, .tmp 4, .tmp 5]) (css := [[.int .i64 3, .int .i64 0, .int .i64 (-1), .int .i64 (-1), .int .i64 (-1), .int .i64 0, .int .i64 0, (.slice none 0 0)], [.int .i64 7, .int .i64 2, .int .i64 (-1), .int .i64 (-1), .int .i64 (-1), .int .i64 0, .int .i64 0, (.slice none 0 0)], [.int .i64 4, .int .i64 0, .int .i64 (-1), .int .i64 (-1), .int .i64 (-1), .int .i64 0, .int .i64 0, (.slice none 0 0)], [.int .i64 4, .int .i64 1, .int .i64 (-1), .int .i64 (-1), .int .i64 (-1), .int .i64 (-1), .int .i64 0, (.slice none 0 0)], [.int .i64 4, .int .i64 1, .int .i64 (-1), .int .i64 (-1), .int .i64 (-1), .int .i64 (-1), .int .i64 0, (.slice none 0 0)]]) (fs := [.mk 3 0 (-1) (-1) (-1) 0 0 [], .mk 7 2 (-1) (-1) (-1) 0 0 [], .mk 4 0 (-1) (-1) (-1) 0 0 [], .mk 4 1 (-1) (-1) (-1) (-1) 0 [], .mk 4 1 (-1) (-1) (-1) (-1) 0 []]) hs_T29 (by simp only [List.map_cons, List.map_nil]; rw [eTm, nZ (by decide), nZ (by decide), nZ (by decide), nZ (by decide), sZ hz2 (by decide), eTm, nZ (by decide), nZ (by decide), nZ (by decide), sZ (zZ hz2) (by decide), eTm, nZ (by decide), nZ (by decide), sZ (zZ (zZ hz2)) (by decide), eTm, nZ (by decide), sZ (zZ (zZ (zZ hz2))) (by decide), eTm, sZ (zZ (zZ (zZ (zZ hz2)))) (by decide)]) (RepFL.cons (repF_iff.2 ⟨_, rfl, .inl ⟨rfl, rfl⟩⟩) (RepFL.cons (repF_iff.2 ⟨_, rfl, .inl ⟨rfl, rfl⟩⟩) (RepFL.cons (repF_iff.2 ⟨_, rfl, .inl ⟨rfl, rfl⟩⟩) (RepFL.cons (repF_iff.2 ⟨_, rfl, .inl ⟨rfl, rfl⟩⟩) (RepFL.cons (repF_iff.2 ⟨_, rfl, .inl ⟨rfl, rfl⟩⟩) RepFL.nil))))) rfl (by decide) (by decide) (fun b hb => hb) (Fr.refl [] w).size ?_)
  intro w4 v4 fr4 hv4
  have hF5 : Fr [] w w4 := fr4
  refine wC (wAs (v := v4) (eS hz2) ?_)
  refine wEn fun a6 ha6 => ?_
  have hz6 := kS ha6 hz2
  have hd6 := kD ha6 hd2
  have g6_0 : get a6 0 = v4 := kG ha6 hz2
  refine hK3 a6 w4 (tUp ?_)
  refine wp_ret ?_
  exact ⟨hd6, _, rIs hres' g6_0, _, rfl, hF5, hv4⟩
theorem ifssQTopicPartitionReplicaState : SubM Tryz.prog 139 fssQTopicPartitionReplicaState := fssQTopicPartitionReplicaState_m (te8 := 56) (tb := 80) Tryz.func139 (by kernel_rfl) rfl rfl rfl (flatB_is (by kernel_rfl)) (by kernel_rfl)
def fssQTopicPartition : List Kq.Fd := [.mk 3 0 (-1) (-1) (-1) 0 0 [], .mk 2 0 (-1) (-1) (-1) 0 0 [], .mk 8 2 (-1) 2 (-1) 0 0 [], .mk 3 0 (-1) (-1) (-1) 0 0 [], .mk 3 0 (-1) (-1) (-1) 0 0 [], .mk 4 0 (-1) (-1) (-1) 0 0 [], .mk 11 0 (-1) (-1) (-1) 0 10 fssQTopicPartitionReplicaState, .mk 11 0 (-1) (-1) (-1) 0 10 fssQTopicPartitionReplicaState]
theorem fssQTopicPartition_m {P : Program} {f : FuncId} {fn : Func} {T29 T56 : TypeId} {f139 : FuncId} {a0 : Array TypeId} {a1 : Array TypeId} {i0 i1 : Nat} {t0 t1 t2 t3 t4 t5 t6 t7 t8 t9 t10 t11 t12 : TypeId} {p0 p1 p2 p3 p4 p5 p6 p7 p8 p9 p10 p11 p12 : String} {e0 e1 e2 e3 e4 e5 e6 e7 e8 e9 e10 e11 e12 : Array Edge} {te8 : TypeId} {tb : Nat}
    (hf : P.funcs[f]? = some fn) (hname : (fn.name == "runtime.NumGoroutine") = false) (hres' : fn.results = #[.tmp 0]) (hN : fn.ntmps = 12)
    (hbody : fn.body = some (.seq (Code.region i0 ⟨[⟨some 0, .assign (.const (.slice none 0 0)), t0, p0, e0, none⟩]⟩ false)
  (.seq (Code.region i1 ⟨[⟨some 1, .build T56 #[(0, .const (.int .i64 3)), (2, .const (.int .i64 (-1))), (3, .const (.int .i64 (-1))), (4, .const (.int .i64 (-1)))], t1, p1, e1, none⟩,
    ⟨some 2, .build T56 #[(0, .const (.int .i64 2)), (2, .const (.int .i64 (-1))), (3, .const (.int .i64 (-1))), (4, .const (.int .i64 (-1)))], t2, p2, e2, none⟩,
    ⟨some 3, .build T56 #[(0, .const (.int .i64 8)), (1, .const (.int .i64 2)), (2, .const (.int .i64 (-1))), (3, .const (.int .i64 2)), (4, .const (.int .i64 (-1)))], t3, p3, e3, none⟩,
    ⟨some 4, .build T56 #[(0, .const (.int .i64 3)), (2, .const (.int .i64 (-1))), (3, .const (.int .i64 (-1))), (4, .const (.int .i64 (-1)))], t4, p4, e4, none⟩,
    ⟨some 5, .build T56 #[(0, .const (.int .i64 3)), (2, .const (.int .i64 (-1))), (3, .const (.int .i64 (-1))), (4, .const (.int .i64 (-1)))], t5, p5, e5, none⟩,
    ⟨some 6, .build T56 #[(0, .const (.int .i64 4)), (2, .const (.int .i64 (-1))), (3, .const (.int .i64 (-1))), (4, .const (.int .i64 (-1)))], t6, p6, e6, none⟩,
    ⟨some 7, .call ⟨.value (.func f139), #[], a0⟩, t7, p7, e7, none⟩,
    ⟨some 8, .build T56 #[(0, .const (.int .i64 11)), (2, .const (.int .i64 (-1))), (3, .const (.int .i64 (-1))), (4, .const (.int .i64 (-1))), (6, .const (.int .i64 10)), (7, .tmp 7)], t8, p8, e8, none⟩,
    ⟨some 9, .call ⟨.value (.func f139), #[], a1⟩, t9, p9, e9, none⟩,
    ⟨some 10, .build T56 #[(0, .const (.int .i64 11)), (2, .const (.int .i64 (-1))), (3, .const (.int .i64 (-1))), (4, .const (.int .i64 (-1))), (6, .const (.int .i64 10)), (7, .tmp 9)], t10, p10, e10, none⟩,
    ⟨some 11, .buildSlice T29 8 #[(0, .tmp 1), (1, .tmp 2), (2, .tmp 3), (3, .tmp 4), (4, .tmp 5), (5, .tmp 6), (6, .tmp 8), (7, .tmp 10)], t11, p11, e11, none⟩,
    ⟨some 0, .assign (.tmp 11), t12, p12, e12, none⟩]⟩ false)
  .ret)))
    (hFlT56 : Flat P T56 zF) (hs_T29 : sliceOf P T29 te8 8 tb = true) (hfssQTopicPartitionReplicaState : SubM P f139 fssQTopicPartitionReplicaState) : SubM P f fssQTopicPartition := by
  refine ⟨enters_of hf hname hbody, ?_⟩
  intro w
  refine calls_of_wp hf hbody ?_
  generalize ha0 : ({ tmps := #[] ++ Array.replicate (fn.ntmps - (#[] : Array Value).size) undef, defers := [] } : Act) = a0
  have hz0 : a0.tmps.size = 12 := by subst ha0; simp [hN]
  have hd0 : a0.defers = [] := by subst ha0; rfl
  refine wT fun K1 hK1 => ?_
  refine wC (wAs (v := .slice none 0 0) rfl ?_)
  refine wEn fun a2 ha2 => ?_
  have hz2 := kS ha2 hz0
  have hd2 := kD ha2 hd0
  refine hK1 a2 w (tUp ?_)
  refine wT fun K3 hK3 => ?_
  refine wC (wp_buildC (z := zF) (ps := [(0, .const (.int .i64 3)), (2, .const (.int .i64 (-1))), (3, .const (.int .i64 (-1))), (4, .const (.int .i64 (-1)))]) (vs := [(0, Value.int .i64 3), (2, Value.int .i64 (-1)), (3, Value.int .i64 (-1)), (4, Value.int .i64 (-1))]) (cs := [.int .i64 3, .int .i64 0, .int .i64 (-1), .int .i64 (-1), .int .i64 (-1), .int .i64 0, .int .i64 0, (.slice none 0 0)]) hFlT56 rfl (by decide) rfl ?_)
  refine wC (wp_buildC (z := zF) (ps := [(0, .const (.int .i64 2)), (2, .const (.int .i64 (-1))), (3, .const (.int .i64 (-1))), (4, .const (.int .i64 (-1)))]) (vs := [(0, Value.int .i64 2), (2, Value.int .i64 (-1)), (3, Value.int .i64 (-1)), (4, Value.int .i64 (-1))]) (cs := [.int .i64 2, .int .i64 0, .int .i64 (-1), .int .i64 (-1), .int .i64 (-1), .int .i64 0, .int .i64 0, (.slice none 0 0)]) hFlT56 rfl (by decide) rfl ?_)
  refine wC (wp_buildC (z := zF) (ps := [(0, .const (.int .i64 8)), (1, .const (.int .i64 2)), (2, .const (.int .i64 (-1))), (3, .const (.int .i64 2)), (4, .const (.int .i64 (-1)))]) (vs := [(0, Value.int .i64 8), (1, Value.int .i64 2), (2, Value.int .i64 (-1)), (3, Value.int .i64 2), (4, Value.int .i64 (-1))]) (cs := [.int .i64 8, .int .i64 2, .int .i64 (-1), .int .i64 2, .int .i64 (-1), .int .i64 0, .int .i64 0, (.slice none 0 0)]) hFlT56 rfl (by decide) rfl ?_)
  refine wC (wp_buildC (z := zF) (ps := [(0, .const (.int .i64 3)), (2, .const (.int .i64 (-1))), (3, .const (.int .i64 (-1))), (4, .const (.int .i64 (-1)))]) (vs := [(0, Value.int .i64 3), (2, Value.int .i64 (-1)), (3, Value.int .i64 (-1)), (4, Value.int .i64 (-1))]) (cs := [.int .i64 3, .int .i64 0, .int .i64 (-1), .int .i64 (-1), .int .i64 (-1), .int .i64 0, .int .i64 0, (.slice none 0 0)]) hFlT56 rfl (by decide) rfl ?_)
  refine wC (wp_buildC (z := zF) (ps := [(0, .const (.int .i64 3)), (2, .const (.int .i64 (-1))), (3, .const (.int .i64 (-1))), (4, .const (.int .i64 (-1)))]) (vs := [(0, Value.int .i64 3), (2, Value.int .i64 (-1)), (3, Value.int .i64 (-1)), (4, Value.int .i64 (-1))]) (cs := [.int .i64 3, .int .i64 0, .int .i64 (-1), .int .i64 (-1), .int .i64 (-1), .int .i64 0, .int .i64 0, (.slice none 0 0)]) hFlT56 rfl (by decide) rfl ?_)
  refine wC (wp_buildC (z := zF) (ps := [(0, .const (.int .i64 4)), (2, .const (.int .i64 (-1))), (3, .const (.int .i64 (-1))), (4, .const (.int .i64 (-1)))]) (vs := [(0, Value.int .i64 4), (2, Value.int .i64 (-1)), (3, Value.int .i64 (-1)), (4, Value.int .i64 (-1))]) (cs := [.int .i64 4, .int .i64 0, .int .i64 (-1), .int .i64 (-1), .int .i64 (-1), .int .i64 0, .int .i64 0, (.slice none 0 0)]) hFlT56 rfl (by decide) rfl ?_)
  refine wC (wCr (R := fun vz wz => Fr [] w wz ∧ FdsR wz (From w.heap.size wz) vz fssQTopicPartitionReplicaState) (vs := #[]) hfssQTopicPartitionReplicaState.enters (by simp) ((hfssQTopicPartitionReplicaState.call w).mono (by rintro e wz ⟨v, rfl, h⟩; exact ⟨_, rfl, h⟩)) ?_)
  rintro x4 w4 ⟨fr4, hx4⟩
  have hF5 : Fr [] w w4 := fr4
  have hL5_w : Fr [] w w4 := (Fr.refl [] w).tr fr4
  have hb4 := hx4.kept (Fr.refl [] w4) (by simp) (A' := From w.heap.size w4) (fun b hb => ⟨Nat.le_trans (Fr.refl [] w).size hb.1, hb.2⟩)
  refine wC (wp_buildC (z := zF) (ps := [(0, .const (.int .i64 11)), (2, .const (.int .i64 (-1))), (3, .const (.int .i64 (-1))), (4, .const (.int .i64 (-1))), (6, .const (.int .i64 10)), (7, .tmp 7)]) (vs := [(0, Value.int .i64 11), (2, Value.int .i64 (-1)), (3, Value.int .i64 (-1)), (4, Value.int .i64 (-1)), (6, Value.int .i64 10), (7, x4)]) (cs := [.int .i64 11, .int .i64 0, .int .i64 (-1), .int .i64 (-1), .int .i64 (-1), .int .i64 0, .int .i64 10, x4]) hFlT56 (by simp only [List.map_cons, List.map_nil, eCo]; rw [eTm, sZ (zZ (zZ (zZ (zZ (zZ (zZ hz2)))))) (by decide)]) (by intro p hp; simp at hp; rcases hp with rfl | rfl | rfl | rfl | rfl | rfl <;> exact ⟨by simp [zF], by first | rfl | exact hb4.one⟩) rfl ?_)
  refine wC (wCr (R := fun vz wz => Fr [] w4 wz ∧ FdsR wz (From w4.heap.size wz) vz fssQTopicPartitionReplicaState) (vs := #[]) hfssQTopicPartitionReplicaState.enters (by simp) ((hfssQTopicPartitionReplicaState.call w4).mono (by rintro e wz ⟨v, rfl, h⟩; exact ⟨_, rfl, h⟩)) ?_)
  rintro x6 w6 ⟨fr6, hx6⟩
  have hF7 : Fr [] w w6 := hF5.tr fr6
  have hL7_w : Fr [] w w6 := hL5_w.tr fr6
  have hb8 := hb4.kept fr6 (by simp) (A' := From w.heap.size w6) (fun b hb => ⟨hb.1, Nat.lt_of_lt_of_le hb.2 fr6.size⟩)
  have hb9 := hb4.kept fr6 (by simp) (A' := From w.heap.size w6) (fun b hb => ⟨hb.1, Nat.lt_of_lt_of_le hb.2 fr6.size⟩)
  have hb6 := hx6.kept (Fr.refl [] w6) (by simp) (A' := From w.heap.size w6) (fun b hb => ⟨Nat.le_trans hL5_w.size hb.1, hb.2⟩)
  refine wC (wp_buildC (z := zF) (ps := [(0, .const (.int .i64 11)), (2, .const (.int .i64 (-1))), (3, .const (.int .i64 (-1))), (4, .const (.int .i64 (-1))), (6, .const (.int .i64 10)), (7, .tmp 9)]) (vs := [(0, Value.int .i64 11), (2, Value.int .i64 (-1)), (3, Value.int .i64 (-1)), (4, Value.int .i64 (-1)), (6, Value.int .i64 10), (7, x6)]) (cs := [.int .i64 11, .int .i64 0, .int .i64 (-1), .int .i64 (-1), .int .i64 (-1), .int .i64 0, .int .i64 10, x6]) hFlT56 (by simp only [List.map_cons, List.map_nil, eCo]; rw [eTm, sZ (zZ (zZ (zZ (zZ (zZ (zZ (zZ (zZ hz2)))))))) (by decide)]) (by intro p hp; simp at hp; rcases hp with rfl | rfl | rfl | rfl | rfl | rfl <;> exact ⟨by simp [zF], by first | rfl | exact hb6.one⟩) rfl ?_)
  refine wC (wp_fields (s0 := w.heap.size) (A := From w.heap.size w6) (xs := [.tmp 1, .tmp 2, .tmp 3, .tmp 4, .tmp 5, .tmp 6, .tmp 8, .tmp 10]) (css := [[.int .i64 3, .int .i64 0, .int .i64 (-1), .int .i64 (-1), .int .i64 (-1), .int .i64 0, .int .i64 0, (.slice none 0 0)], [.int .i64 2, .int .i64 0, .int .i64 (-1), .int .i64 (-1), .int .i64 (-1), .int .i64 0, .int .i64 0, (.slice none 0 0)], [.int .i64 8, .int .i64 2, .int .i64 (-1), .int .i64 2, .int .i64 (-1), .int .i64 0, .int .i64 0, (.slice none 0 0)], [.int .i64 3, .int .i64 0, .int .i64 (-1), .int .i64 (-1), .int .i64 (-1), .int .i64 0, .int .i64 0, (.slice none 0 0)], [.int .i64 3, .int .i64 0, .int .i64 (-1), .int .i64 (-1), .int .i64 (-1), .int .i64 0, .int .i64 0, (.slice none 0 0)], [.int .i64 4, .int .i64 0, .int .i64 (-1), .int .i64 (-1), .int .i64 (-1), .int .i64 0, .int .i64 0, (.slice none 0 0)], [.int .i64 11, .int .i64 0, .int .i64 (-1), .int .i64 (-1), .int .i64 (-1), .int .i64 0, .int .i64 10, x4], [.int .i64 11, .int .i64 0, .int .i64 (-1), .int .i64 (-1), .int .i64 (-1), .int .i64 0, .int .i64 10, x6]]) (fs := [.mk 3 0 (-1) (-1) (-1) 0 0 [], .mk 2 0 (-1) (-1) (-1) 0 0 [], .mk 8 2 (-1) 2 (-1) 0 0 [], .mk 3 0 (-1) (-1) (-1) 0 0 [], .mk 3 0 (-1) (-1) (-1) 0 0 [], .mk 4 0 (-1) (-1) (-1) 0 0 [], .mk 11 0 (-1) (-1) (-1) 0 10 fssQTopicPartitionReplicaState, .mk 11 0 (-1) (-1) (-1) 0 10 fssQTopicPartitionReplicaState]) hs_T29 (by simp only [List.map_cons, List.map_nil]; rw [eTm, nZ (by decide), nZ (by decide), nZ (by decide), nZ (by decide), nZ (by decide), nZ (by decide), nZ (by decide), nZ (by decide), nZ (by decide), sZ hz2 (by decide), eTm, nZ (by decide), nZ (by decide), nZ (by decide), nZ (by decide), nZ (by decide), nZ (by decide), nZ (by decide), nZ (by decide), sZ (zZ hz2) (by decide), eTm, nZ (by decide), nZ (by decide), nZ (by decide), nZ (by decide), nZ (by decide), nZ (by decide), nZ (by decide), sZ (zZ (zZ hz2)) (by decide), eTm, nZ (by decide), nZ (by decide), nZ (by decide), nZ (by decide), nZ (by decide), nZ (by decide), sZ (zZ (zZ (zZ hz2))) (by decide), eTm, nZ (by decide), nZ (by decide), nZ (by decide), nZ (by decide), nZ (by decide), sZ (zZ (zZ (zZ (zZ hz2)))) (by decide), eTm, nZ (by decide), nZ (by decide), nZ (by decide), nZ (by decide), sZ (zZ (zZ (zZ (zZ (zZ hz2))))) (by decide), eTm, nZ (by decide), nZ (by decide), sZ (zZ (zZ (zZ (zZ (zZ (zZ (zZ hz2))))))) (by decide), eTm, sZ (zZ (zZ (zZ (zZ (zZ (zZ (zZ (zZ (zZ hz2))))))))) (by decide)]) (RepFL.cons (repF_iff.2 ⟨_, rfl, .inl ⟨rfl, rfl⟩⟩) (RepFL.cons (repF_iff.2 ⟨_, rfl, .inl ⟨rfl, rfl⟩⟩) (RepFL.cons (repF_iff.2 ⟨_, rfl, .inl ⟨rfl, rfl⟩⟩) (RepFL.cons (repF_iff.2 ⟨_, rfl, .inl ⟨rfl, rfl⟩⟩) (RepFL.cons (repF_iff.2 ⟨_, rfl, .inl ⟨rfl, rfl⟩⟩) (RepFL.cons (repF_iff.2 ⟨_, rfl, .inl ⟨rfl, rfl⟩⟩) (RepFL.cons (repF_iff.2 ⟨_, rfl, hb9⟩) (RepFL.cons (repF_iff.2 ⟨_, rfl, hb6⟩) RepFL.nil)))))))) rfl (by decide) (by decide) (fun b hb => hb) hL7_w.size ?_)
  intro w10 v10 fr10 hv10
  have hF11 : Fr [] w w10 := hF7.tr fr10
  refine wC (wAs (v := v10) (eS hz2) ?_)
  refine wEn fun a12 ha12 => ?_
  have hz12 := kS ha12 hz2
  have hd12 := kD ha12 hd2
  have g12_0 : get a12 0 = v10 := kG ha12 hz2
  refine hK3 a12 w10 (tUp ?_)
  refine wp_ret ?_
  exact ⟨hd12, _, rIs hres' g12_0, _, rfl, hF11, hv10⟩
theorem ifssQTopicPartition : SubM Tryz.prog 89 fssQTopicPartition := fssQTopicPartition_m (te8 := 56) (tb := 80) Tryz.func89 (by kernel_rfl) rfl rfl rfl (flatB_is (by kernel_rfl)) (by kernel_rfl) ifssQTopicPartitionReplicaState
def fssQTopic : List Kq.Fd := [.mk 8 0 (-1) (-1) (-1) 0 0 [], .mk 11 0 (-1) (-1) (-1) 0 10 fssQTopicPartition]
theorem fssQTopic_m {P : Program} {f : FuncId} {fn : Func} {T29 T56 : TypeId} {f89 : FuncId} {a0 : Array TypeId} {i0 i1 : Nat} {t0 t1 t2 t3 t4 t5 : TypeId} {p0 p1 p2 p3 p4 p5 : String} {e0 e1 e2 e3 e4 e5 : Array Edge} {te8 : TypeId} {tb : Nat}
    (hf : P.funcs[f]? = some fn) (hname : (fn.name == "runtime.NumGoroutine") = false) (hres' : fn.results = #[.tmp 0]) (hN : fn.ntmps = 5)
    (hbody : fn.body = some (.seq (Code.region i0 ⟨[⟨some 0, .assign (.const (.slice none 0 0)), t0, p0, e0, none⟩]⟩ false)
  (.seq (Code.region i1 ⟨[⟨some 1, .build T56 #[(0, .const (.int .i64 8)), (2, .const (.int .i64 (-1))), (3, .const (.int .i64 (-1))), (4, .const (.int .i64 (-1)))], t1, p1, e1, none⟩,
    ⟨some 2, .call ⟨.value (.func f89), #[], a0⟩, t2, p2, e2, none⟩,
    ⟨some 3, .build T56 #[(0, .const (.int .i64 11)), (2, .const (.int .i64 (-1))), (3, .const (.int .i64 (-1))), (4, .const (.int .i64 (-1))), (6, .const (.int .i64 10)), (7, .tmp 2)], t3, p3, e3, none⟩,
    ⟨some 4, .buildSlice T29 2 #[(0, .tmp 1), (1, .tmp 3)], t4, p4, e4, none⟩,
    ⟨some 0, .assign (.tmp 4), t5, p5, e5, none⟩]⟩ false)
  .ret)))
    (hFlT56 : Flat P T56 zF) (hs_T29 : sliceOf P T29 te8 8 tb = true) (hfssQTopicPartition : SubM P f89 fssQTopicPartition) : SubM P f fssQTopic := by
  refine ⟨enters_of hf hname hbody, ?_⟩
  intro w
  refine calls_of_wp hf hbody ?_
  generalize ha0 : ({ tmps := #[] ++ Array.replicate (fn.ntmps - (#[] : Array Value).size) undef, defers := [] } : Act) = a0
  have hz0 : a0.tmps.size = 5 := by subst ha0; simp [hN]
  have hd0 : a0.defers = [] := by subst ha0; rfl
  refine wT fun K1 hK1 => ?_
  refine wC (wAs (v := .slice none 0 0) rfl ?_)
  refine wEn fun a2 ha2 => ?_
  have hz2 := kS ha2 hz0
  have hd2 := kD ha2 hd0
  refine hK1 a2 w (tUp ?_)
  refine wT fun K3 hK3 => ?_
  refine wC (wp_buildC (z := zF) (ps := [(0, .const (.int .i64 8)), (2, .const (.int .i64 (-1))), (3, .const (.int .i64 (-1))), (4, .const (.int .i64 (-1)))]) (vs := [(0, Value.int .i64 8), (2, Value.int .i64 (-1)), (3, Value.int .i64 (-1)), (4, Value.int .i64 (-1))]) (cs := [.int .i64 8, .int .i64 0, .int .i64 (-1), .int .i64 (-1), .int .i64 (-1), .int .i64 0, .int .i64 0, (.slice none 0 0)]) hFlT56 rfl (by decide) rfl ?_)
  refine wC (wCr (R := fun vz wz => Fr [] w wz ∧ FdsR wz (From w.heap.size wz) vz fssQTopicPartition) (vs := #[]) hfssQTopicPartition.enters (by simp) ((hfssQTopicPartition.call w).mono (by rintro e wz ⟨v, rfl, h⟩; exact ⟨_, rfl, h⟩)) ?_)
  rintro x4 w4 ⟨fr4, hx4⟩
  have hF5 : Fr [] w w4 := fr4
  have hL5_w : Fr [] w w4 := (Fr.refl [] w).tr fr4
  have hb4 := hx4.kept (Fr.refl [] w4) (by simp) (A' := From w.heap.size w4) (fun b hb => ⟨Nat.le_trans (Fr.refl [] w).size hb.1, hb.2⟩)
  refine wC (wp_buildC (z := zF) (ps := [(0, .const (.int .i64 11)), (2, .const (.int .i64 (-1))), (3, .const (.int .i64 (-1))), (4, .const (.int .i64 (-1))), (6, .const (.int .i64 10)), (7, .tmp 2)]) (vs := [(0, Value.int .i64 11), (2, Value.int .i64 (-1)), (3, Value.int .i64 (-1)), (4, Value.int .i64 (-1)), (6, Value.int .i64 10), (7, x4)]) (cs := [.int .i64 11, .int .i64 0, .int .i64 (-1), .int .i64 (-1), .int .i64 (-1), .int .i64 0, .int .i64 10, x4]) hFlT56 (by simp only [List.map_cons, List.map_nil, eCo]; rw [eTm, sZ (zZ hz2) (by decide)]) (by intro p hp; simp at hp; rcases hp with rfl | rfl | rfl | rfl | rfl | rfl <;> exact ⟨by simp [zF], by first | rfl | exact hb4.one⟩) rfl ?_)
  refine wC (wp_fields (s0 := w.heap.size) (A := From w.heap.size w4) (xs := [.tmp 1, .tmp 3]) (css := [[.int .i64 8, .int .i64 0, .int .i64 (-1), .int .i64 (-1), .int .i64 (-1), .int .i64 0, .int .i64 0, (.slice none 0 0)], [.int .i64 11, .int .i64 0, .int .i64 (-1), .int .i64 (-1), .int .i64 (-1), .int .i64 0, .int .i64 10, x4]]) (fs := [.mk 8 0 (-1) (-1) (-1) 0 0 [], .mk 11 0 (-1) (-1) (-1) 0 10 fssQTopicPartition]) hs_T29 (lX2 (eS hz2) (eS hz2)) (RepFL.cons (repF_iff.2 ⟨_, rfl, .inl ⟨rfl, rfl⟩⟩) (RepFL.cons (repF_iff.2 ⟨_, rfl, hb4⟩) RepFL.nil)) rfl (by decide) (by decide) (fun b hb => hb) hL5_w.size ?_)
  intro w6 v6 fr6 hv6
  have hF7 : Fr [] w w6 := hF5.tr fr6
  refine wC (wAs (v := v6) (eS hz2) ?_)
  refine wEn fun a8 ha8 => ?_
  have hz8 := kS ha8 hz2
  have hd8 := kD ha8 hd2
  have g8_0 : get a8 0 = v6 := kG ha8 hz2
  refine hK3 a8 w6 (tUp ?_)
  refine wp_ret ?_
  exact ⟨hd8, _, rIs hres' g8_0, _, rfl, hF7, hv6⟩
theorem ifssQTopic : SubM Tryz.prog 40 fssQTopic := fssQTopic_m (te8 := 56) (tb := 80) Tryz.func40 (by kernel_rfl) rfl rfl rfl (flatB_is (by kernel_rfl)) (by kernel_rfl) ifssQTopicPartition
def fssQNodeListener : List Kq.Fd := [.mk 8 0 (-1) (-1) (-1) 0 0 [], .mk 8 0 (-1) (-1) (-1) 0 0 [], .mk 5 0 (-1) (-1) (-1) 0 0 []]
theorem fssQNodeListener_m {P : Program} {f : FuncId} {fn : Func} {T29 T56 : TypeId} {i0 i1 : Nat} {t0 t1 t2 t3 t4 t5 : TypeId} {p0 p1 p2 p3 p4 p5 : String} {e0 e1 e2 e3 e4 e5 : Array Edge} {te8 : TypeId} {tb : Nat}
    (hf : P.funcs[f]? = some fn) (hname : (fn.name == "runtime.NumGoroutine") = false) (hres' : fn.results = #[.tmp 0]) (hN : fn.ntmps = 5)
    (hbody : fn.body = some (.seq (Code.region i0 ⟨[⟨some 0, .assign (.const (.slice none 0 0)), t0, p0, e0, none⟩]⟩ false)
  (.seq (Code.region i1 ⟨[⟨some 1, .build T56 #[(0, .const (.int .i64 8)), (2, .const (.int .i64 (-1))), (3, .const (.int .i64 (-1))), (4, .const (.int .i64 (-1)))], t1, p1, e1, none⟩,
    ⟨some 2, .build T56 #[(0, .const (.int .i64 8)), (2, .const (.int .i64 (-1))), (3, .const (.int .i64 (-1))), (4, .const (.int .i64 (-1)))], t2, p2, e2, none⟩,
    ⟨some 3, .build T56 #[(0, .const (.int .i64 5)), (2, .const (.int .i64 (-1))), (3, .const (.int .i64 (-1))), (4, .const (.int .i64 (-1)))], t3, p3, e3, none⟩,
    ⟨some 4, .buildSlice T29 3 #[(0, .tmp 1), (1, .tmp 2), (2, .tmp 3)], t4, p4, e4, none⟩,
    ⟨some 0, .assign (.tmp 4), t5, p5, e5, none⟩]⟩ false)
  .ret)))
    (hFlT56 : Flat P T56 zF) (hs_T29 : sliceOf P T29 te8 8 tb = true)  : SubM P f fssQNodeListener := by
  refine ⟨enters_of hf hname hbody, ?_⟩
  intro w
  refine calls_of_wp hf hbody ?_
  generalize ha0 : ({ tmps := #[] ++ Array.replicate (fn.ntmps - (#[] : Array Value).size) undef, defers := [] } : Act) = a0
  have hz0 : a0.tmps.size = 5 := by subst ha0; simp [hN]
  have hd0 : a0.defers = [] := by subst ha0; rfl
  refine wT fun K1 hK1 => ?_
  refine wC (wAs (v := .slice none 0 0) rfl ?_)
  refine wEn fun a2 ha2 => ?_
  have hz2 := kS ha2 hz0
  have hd2 := kD ha2 hd0
  refine hK1 a2 w (tUp ?_)
  refine wT fun K3 hK3 => ?_
  refine wC (wp_buildC (z := zF) (ps := [(0, .const (.int .i64 8)), (2, .const (.int .i64 (-1))), (3, .const (.int .i64 (-1))), (4, .const (.int .i64 (-1)))]) (vs := [(0, Value.int .i64 8), (2, Value.int .i64 (-1)), (3, Value.int .i64 (-1)), (4, Value.int .i64 (-1))]) (cs := [.int .i64 8, .int .i64 0, .int .i64 (-1), .int .i64 (-1), .int .i64 (-1), .int .i64 0, .int .i64 0, (.slice none 0 0)]) hFlT56 rfl (by decide) rfl ?_)
  refine wC (wp_buildC (z := zF) (ps := [(0, .const (.int .i64 8)), (2, .const (.int .i64 (-1))), (3, .const (.int .i64 (-1))), (4, .const (.int .i64 (-1)))]) (vs := [(0, Value.int .i64 8), (2, Value.int .i64 (-1)), (3, Value.int .i64 (-1)), (4, Value.int .i64 (-1))]) (cs := [.int .i64 8, .int .i64 0, .int .i64 (-1), .int .i64 (-1), .int .i64 (-1), .int .i64 0, .int .i64 0, (.slice none 0 0)]) hFlT56 rfl (by decide) rfl ?_)
  refine wC (wp_buildC (z := zF) (ps := [(0, .const (.int .i64 5)), (2, .const (.int .i64 (-1))), (3, .const (.int .i64 (-1))), (4, .const (.int .i64 (-1)))]) (vs := [(0, Value.int .i64 5), (2, Value.int .i64 (-1)), (3, Value.int .i64 (-1)), (4, Value.int .i64 (-1))]) (cs := [.int .i64 5, .int .i64 0, .int .i64 (-1), .int .i64 (-1), .int .i64 (-1), .int .i64 0, .int .i64 0, (.slice none 0 0)]) hFlT56 rfl (by decide) rfl ?_)
  refine wC (wp_fields (s0 := w.heap.size) (A := From w.heap.size w) (xs := [.tmp 1, .tmp 2, .tmp 3]) (css := [[.int .i64 8, .int .i64 0, .int .i64 (-1), .int .i64 (-1), .int .i64 (-1), .int .i64 0, .int .i64 0, (.slice none 0 0)], [.int .i64 8, .int .i64 0, .int .i64 (-1), .int .i64 (-1), .int .i64 (-1), .int .i64 0, .int .i64 0, (.slice none 0 0)], [.int .i64 5, .int .i64 0, .int .i64 (-1), .int .i64 (-1), .int .i64 (-1), .int .i64 0, .int .i64 0, (.slice none 0 0)]]) (fs := [.mk 8 0 (-1) (-1) (-1) 0 0 [], .mk 8 0 (-1) (-1) (-1) 0 0 [], .mk 5 0 (-1) (-1) (-1) 0 0 []]) hs_T29 (lX3 (eS hz2) (eS hz2) (eS hz2)) (RepFL.cons (repF_iff.2 ⟨_, rfl, .inl ⟨rfl, rfl⟩⟩) (RepFL.cons (repF_iff.2 ⟨_, rfl, .inl ⟨rfl, rfl⟩⟩) (RepFL.cons (repF_iff.2 ⟨_, rfl, .inl ⟨rfl, rfl⟩⟩) RepFL.nil))) rfl (by decide) (by decide) (fun b hb => hb) (Fr.refl [] w).size ?_)
  intro w4 v4 fr4 hv4
  have hF5 : Fr [] w w4 := fr4
  refine wC (wAs (v := v4) (eS hz2) ?_)
  refine wEn fun a6 ha6 => ?_
  have hz6 := kS ha6 hz2
  have hd6 := kD ha6 hd2
  have g6_0 : get a6 0 = v4 := kG ha6 hz2
  refine hK3 a6 w4 (tUp ?_)
  refine wp_ret ?_
  exact ⟨hd6, _, rIs hres' g6_0, _, rfl, hF5, hv4⟩
theorem ifssQNodeListener : SubM Tryz.prog 90 fssQNodeListener := fssQNodeListener_m (te8 := 56) (tb := 80) Tryz.func90 (by kernel_rfl) rfl rfl rfl (flatB_is (by kernel_rfl)) (by kernel_rfl)
def fssQNode : List Kq.Fd := [.mk 3 0 (-1) (-1) (-1) 0 0 [], .mk 11 0 (-1) (-1) (-1) 0 10 fssQNodeListener]
theorem fssQNode_m {P : Program} {f : FuncId} {fn : Func} {T29 T56 : TypeId} {f90 : FuncId} {a0 : Array TypeId} {i0 i1 : Nat} {t0 t1 t2 t3 t4 t5 : TypeId} {p0 p1 p2 p3 p4 p5 : String} {e0 e1 e2 e3 e4 e5 : Array Edge} {te8 : TypeId} {tb : Nat}
    (hf : P.funcs[f]? = some fn) (hname : (fn.name == "runtime.NumGoroutine") = false) (hres' : fn.results = #[.tmp 0]) (hN : fn.ntmps = 5)
    (hbody : fn.body = some (.seq (Code.region i0 ⟨[⟨some 0, .assign (.const (.slice none 0 0)), t0, p0, e0, none⟩]⟩ false)
  (.seq (Code.region i1 ⟨[⟨some 1, .build T56 #[(0, .const (.int .i64 3)), (2, .const (.int .i64 (-1))), (3, .const (.int .i64 (-1))), (4, .const (.int .i64 (-1)))], t1, p1, e1, none⟩,
    ⟨some 2, .call ⟨.value (.func f90), #[], a0⟩, t2, p2, e2, none⟩,
    ⟨some 3, .build T56 #[(0, .const (.int .i64 11)), (2, .const (.int .i64 (-1))), (3, .const (.int .i64 (-1))), (4, .const (.int .i64 (-1))), (6, .const (.int .i64 10)), (7, .tmp 2)], t3, p3, e3, none⟩,
    ⟨some 4, .buildSlice T29 2 #[(0, .tmp 1), (1, .tmp 3)], t4, p4, e4, none⟩,
    ⟨some 0, .assign (.tmp 4), t5, p5, e5, none⟩]⟩ false)
  .ret)))
    (hFlT56 : Flat P T56 zF) (hs_T29 : sliceOf P T29 te8 8 tb = true) (hfssQNodeListener : SubM P f90 fssQNodeListener) : SubM P f fssQNode := by
  refine ⟨enters_of hf hname hbody, ?_⟩
  intro w
  refine calls_of_wp hf hbody ?_
  generalize ha0 : ({ tmps := #[] ++ Array.replicate (fn.ntmps - (#[] : Array Value).size) undef, defers := [] } : Act) = a0
  have hz0 : a0.tmps.size = 5 := by subst ha0; simp [hN]
  have hd0 : a0.defers = [] := by subst ha0; rfl
  refine wT fun K1 hK1 => ?_
  refine wC (wAs (v := .slice none 0 0) rfl ?_)
  refine wEn fun a2 ha2 => ?_
  have hz2 := kS ha2 hz0
  have hd2 := kD ha2 hd0
  refine hK1 a2 w (tUp ?_)
  refine wT fun K3 hK3 => ?_
  refine wC (wp_buildC (z := zF) (ps := [(0, .const (.int .i64 3)), (2, .const (.int .i64 (-1))), (3, .const (.int .i64 (-1))), (4, .const (.int .i64 (-1)))]) (vs := [(0, Value.int .i64 3), (2, Value.int .i64 (-1)), (3, Value.int .i64 (-1)), (4, Value.int .i64 (-1))]) (cs := [.int .i64 3, .int .i64 0, .int .i64 (-1), .int .i64 (-1), .int .i64 (-1), .int .i64 0, .int .i64 0, (.slice none 0 0)]) hFlT56 rfl (by decide) rfl ?_)
  refine wC (wCr (R := fun vz wz => Fr [] w wz ∧ FdsR wz (From w.heap.size wz) vz fssQNodeListener) (vs := #[]) hfssQNodeListener.enters (by simp) ((hfssQNodeListener.call w).mono (by rintro e wz ⟨v, rfl, h⟩; exact ⟨_, rfl, h⟩)) ?_)
  rintro x4 w4 ⟨fr4, hx4⟩
  have hF5 : Fr [] w w4 := fr4
  have hL5_w : Fr [] w w4 := (Fr.refl [] w).tr fr4
  have hb4 := hx4.kept (Fr.refl [] w4) (by simp) (A' := From w.heap.size w4) (fun b hb => ⟨Nat.le_trans (Fr.refl [] w).size hb.1, hb.2⟩)
  refine wC (wp_buildC (z := zF) (ps := [(0, .const (.int .i64 11)), (2, .const (.int .i64 (-1))), (3, .const (.int .i64 (-1))), (4, .const (.int .i64 (-1))), (6, .const (.int .i64 10)), (7, .tmp 2)]) (vs := [(0, Value.int .i64 11), (2, Value.int .i64 (-1)), (3, Value.int .i64 (-1)), (4, Value.int .i64 (-1)), (6, Value.int .i64 10), (7, x4)]) (cs := [.int .i64 11, .int .i64 0, .int .i64 (-1), .int .i64 (-1), .int .i64 (-1), .int .i64 0, .int .i64 10, x4]) hFlT56 (by simp only [List.map_cons, List.map_nil, eCo]; rw [eTm, sZ (zZ hz2) (by decide)]) (by intro p hp; simp at hp; rcases hp with rfl | rfl | rfl | rfl | rfl | rfl <;> exact ⟨by simp [zF], by first | rfl | exact hb4.one⟩) rfl ?_)
  refine wC (wp_fields (s0 := w.heap.size) (A := From w.heap.size w4) (xs := [.tmp 1, .tmp 3]) (css := [[.int .i64 3, .int .i64 0, .int .i64 (-1), .int .i64 (-1), .int .i64 (-1), .int .i64 0, .int .i64 0, (.slice none 0 0)], [.int .i64 11, .int .i64 0, .int .i64 (-1), .int .i64 (-1), .int .i64 (-1), .int .i64 0, .int .i64 10, x4]]) (fs := [.mk 3 0 (-1) (-1) (-1) 0 0 [], .mk 11 0 (-1) (-1) (-1) 0 10 fssQNodeListener]) hs_T29 (lX2 (eS hz2) (eS hz2)) (RepFL.cons (repF_iff.2 ⟨_, rfl, .inl ⟨rfl, rfl⟩⟩) (RepFL.cons (repF_iff.2 ⟨_, rfl, hb4⟩) RepFL.nil)) rfl (by decide) (by decide) (fun b hb => hb) hL5_w.size ?_)
  intro w6 v6 fr6 hv6
  have hF7 : Fr [] w w6 := hF5.tr fr6
  refine wC (wAs (v := v6) (eS hz2) ?_)
  refine wEn fun a8 ha8 => ?_
  have hz8 := kS ha8 hz2
  have hd8 := kD ha8 hd2
  have g8_0 : get a8 0 = v6 := kG ha8 hz2
  refine hK3 a8 w6 (tUp ?_)
  refine wp_ret ?_
  exact ⟨hd8, _, rIs hres' g8_0, _, rfl, hF7, hv6⟩
theorem ifssQNode : SubM Tryz.prog 41 fssQNode := fssQNode_m (te8 := 56) (tb := 80) Tryz.func41 (by kernel_rfl) rfl rfl rfl (flatB_is (by kernel_rfl)) (by kernel_rfl) ifssQNodeListener
def fsQ : List Kq.Fd := [.mk 2 0 (-1) (-1) (-1) 0 0 [], .mk 8 2 (-1) 2 (-1) 0 0 [], .mk 11 0 (-1) (-1) (-1) 0 10 fssQTopic, .mk 11 2 (-1) (-1) (-1) 0 10 fssQNode]
theorem fsQ_m {P : Program} {f : FuncId} {fn : Func} {T29 T31 T56 : TypeId} {f40 f41 : FuncId} {a0 : Array TypeId} {a1 : Array TypeId} {i0 i1 : Nat} {t0 t1 t2 t3 t4 t5 t6 t7 t8 t9 : TypeId} {p0 p1 p2 p3 p4 p5 p6 p7 p8 p9 : String} {e0 e1 e2 e3 e4 e5 e6 e7 e8 e9 : Array Edge} {te8 : TypeId} {tb : Nat}
    (hf : P.funcs[f]? = some fn) (hname : (fn.name == "runtime.NumGoroutine") = false) (hres' : fn.results = #[.cell 0 T31]) (hN : fn.ntmps = 9)
    (hbody : fn.body = some (.seq (Code.region i0 ⟨[⟨some 0, .alloc T31, t0, p0, e0, none⟩]⟩ false)
  (.seq (Code.region i1 ⟨[⟨some 1, .build T56 #[(0, .const (.int .i64 2)), (2, .const (.int .i64 (-1))), (3, .const (.int .i64 (-1))), (4, .const (.int .i64 (-1)))], t1, p1, e1, none⟩,
    ⟨some 2, .build T56 #[(0, .const (.int .i64 8)), (1, .const (.int .i64 2)), (2, .const (.int .i64 (-1))), (3, .const (.int .i64 2)), (4, .const (.int .i64 (-1)))], t2, p2, e2, none⟩,
    ⟨some 3, .call ⟨.value (.func f40), #[], a0⟩, t3, p3, e3, none⟩,
    ⟨some 4, .build T56 #[(0, .const (.int .i64 11)), (2, .const (.int .i64 (-1))), (3, .const (.int .i64 (-1))), (4, .const (.int .i64 (-1))), (6, .const (.int .i64 10)), (7, .tmp 3)], t4, p4, e4, none⟩,
    ⟨some 5, .call ⟨.value (.func f41), #[], a1⟩, t5, p5, e5, none⟩,
    ⟨some 6, .build T56 #[(0, .const (.int .i64 11)), (1, .const (.int .i64 2)), (2, .const (.int .i64 (-1))), (3, .const (.int .i64 (-1))), (4, .const (.int .i64 (-1))), (6, .const (.int .i64 10)), (7, .tmp 5)], t6, p6, e6, none⟩,
    ⟨some 7, .buildSlice T29 4 #[(0, .tmp 1), (1, .tmp 2), (2, .tmp 4), (3, .tmp 6)], t7, p7, e7, none⟩,
    ⟨some 8, .build T31 #[(1, .const (.int .i64 0)), (0, .tmp 7)], t8, p8, e8, none⟩,
    ⟨none, .store T31 (.tmp 0) (.tmp 8), t9, p9, e9, none⟩]⟩ false)
  .ret)))
    (hFlT31 : Flat P T31 zM) (hFlT56 : Flat P T56 zF) (hs_T29 : sliceOf P T29 te8 8 tb = true) (hfssQTopic : SubM P f40 fssQTopic) (hfssQNode : SubM P f41 fssQNode) : SchM P f fsQ 0 := by
  refine ⟨enters_of hf hname hbody, ?_⟩
  intro w
  refine calls_of_wp hf hbody ?_
  generalize ha0 : ({ tmps := #[] ++ Array.replicate (fn.ntmps - (#[] : Array Value).size) undef, defers := [] } : Act) = a0
  have hz0 : a0.tmps.size = 9 := by subst ha0; simp [hN]
  have hd0 : a0.defers = [] := by subst ha0; rfl
  refine wT fun K1 hK1 => ?_
  refine wC (wp_allocL hFlT31 ?_)
  rintro w2 f2 sz2 r2 th2
  have hF3 : Fr [] w w2 := f2
  refine wEn fun a4 ha4 => ?_
  have hz4 := kS ha4 hz0
  have hd4 := kD ha4 hd0
  have g4_0 : get a4 0 = .pointer (some ⟨w.heap.size, 0, none⟩) := kG ha4 hz0
  refine hK1 a4 w2 (tUp ?_)
  refine wT fun K5 hK5 => ?_
  refine wC (wp_buildC (z := zF) (ps := [(0, .const (.int .i64 2)), (2, .const (.int .i64 (-1))), (3, .const (.int .i64 (-1))), (4, .const (.int .i64 (-1)))]) (vs := [(0, Value.int .i64 2), (2, Value.int .i64 (-1)), (3, Value.int .i64 (-1)), (4, Value.int .i64 (-1))]) (cs := [.int .i64 2, .int .i64 0, .int .i64 (-1), .int .i64 (-1), .int .i64 (-1), .int .i64 0, .int .i64 0, (.slice none 0 0)]) hFlT56 rfl (by decide) rfl ?_)
  refine wC (wp_buildC (z := zF) (ps := [(0, .const (.int .i64 8)), (1, .const (.int .i64 2)), (2, .const (.int .i64 (-1))), (3, .const (.int .i64 2)), (4, .const (.int .i64 (-1)))]) (vs := [(0, Value.int .i64 8), (1, Value.int .i64 2), (2, Value.int .i64 (-1)), (3, Value.int .i64 2), (4, Value.int .i64 (-1))]) (cs := [.int .i64 8, .int .i64 2, .int .i64 (-1), .int .i64 2, .int .i64 (-1), .int .i64 0, .int .i64 0, (.slice none 0 0)]) hFlT56 rfl (by decide) rfl ?_)
  refine wC (wCr (R := fun vz wz => Fr [] w2 wz ∧ FdsR wz (From w2.heap.size wz) vz fssQTopic) (vs := #[]) hfssQTopic.enters (by simp) ((hfssQTopic.call w2).mono (by rintro e wz ⟨v, rfl, h⟩; exact ⟨_, rfl, h⟩)) ?_)
  rintro x6 w6 ⟨fr6, hx6⟩
  have hF7 : Fr [] w w6 := hF3.tr fr6
  have hL7_w2 : Fr [] w2 w6 := (Fr.refl [] w2).tr fr6
  have hb6 := hx6.kept (Fr.refl [] w6) (by simp) (A' := From w2.heap.size w6) (fun b hb => ⟨Nat.le_trans (Fr.refl [] w2).size hb.1, hb.2⟩)
  refine wC (wp_buildC (z := zF) (ps := [(0, .const (.int .i64 11)), (2, .const (.int .i64 (-1))), (3, .const (.int .i64 (-1))), (4, .const (.int .i64 (-1))), (6, .const (.int .i64 10)), (7, .tmp 3)]) (vs := [(0, Value.int .i64 11), (2, Value.int .i64 (-1)), (3, Value.int .i64 (-1)), (4, Value.int .i64 (-1)), (6, Value.int .i64 10), (7, x6)]) (cs := [.int .i64 11, .int .i64 0, .int .i64 (-1), .int .i64 (-1), .int .i64 (-1), .int .i64 0, .int .i64 10, x6]) hFlT56 (by simp only [List.map_cons, List.map_nil, eCo]; rw [eTm, sZ (zZ (zZ hz4)) (by decide)]) (by intro p hp; simp at hp; rcases hp with rfl | rfl | rfl | rfl | rfl | rfl <;> exact ⟨by simp [zF], by first | rfl | exact hb6.one⟩) rfl ?_)
  refine wC (wCr (R := fun vz wz => Fr [] w6 wz ∧ FdsR wz (From w6.heap.size wz) vz fssQNode) (vs := #[]) hfssQNode.enters (by simp) ((hfssQNode.call w6).mono (by rintro e wz ⟨v, rfl, h⟩; exact ⟨_, rfl, h⟩)) ?_)
  rintro x8 w8 ⟨fr8, hx8⟩
  have hF9 : Fr [] w w8 := hF7.tr fr8
  have hL9_w2 : Fr [] w2 w8 := hL7_w2.tr fr8
  have hb10 := hb6.kept fr8 (by simp) (A' := From w2.heap.size w8) (fun b hb => ⟨hb.1, Nat.lt_of_lt_of_le hb.2 fr8.size⟩)
  have hb11 := hb6.kept fr8 (by simp) (A' := From w2.heap.size w8) (fun b hb => ⟨hb.1, Nat.lt_of_lt_of_le hb.2 fr8.size⟩)
  have hb8 := hx8.kept (Fr.refl [] w8) (by simp) (A' := From w2.heap.size w8) (fun b hb => ⟨Nat.le_trans hL7_w2.size hb.1, hb.2⟩)
  refine wC (wp_buildC (z := zF) (ps := [(0, .const (.int .i64 11)), (1, .const (.int .i64 2)), (2, .const (.int .i64 (-1))), (3, .const (.int .i64 (-1))), (4, .const (.int .i64 (-1))), (6, .const (.int .i64 10)), (7, .tmp 5)]) (vs := [(0, Value.int .i64 11), (1, Value.int .i64 2), (2, Value.int .i64 (-1)), (3, Value.int .i64 (-1)), (4, Value.int .i64 (-1)), (6, Value.int .i64 10), (7, x8)]) (cs := [.int .i64 11, .int .i64 2, .int .i64 (-1), .int .i64 (-1), .int .i64 (-1), .int .i64 0, .int .i64 10, x8]) hFlT56 (by simp only [List.map_cons, List.map_nil, eCo]; rw [eTm, sZ (zZ (zZ (zZ (zZ hz4)))) (by decide)]) (by intro p hp; simp at hp; rcases hp with rfl | rfl | rfl | rfl | rfl | rfl | rfl <;> exact ⟨by simp [zF], by first | rfl | exact hb8.one⟩) rfl ?_)
  refine wC (wp_fields (s0 := w2.heap.size) (A := From w2.heap.size w8) (xs := [.tmp 1, .tmp 2, .tmp 4, .tmp 6]) (css := [[.int .i64 2, .int .i64 0, .int .i64 (-1), .int .i64 (-1), .int .i64 (-1), .int .i64 0, .int .i64 0, (.slice none 0 0)], [.int .i64 8, .int .i64 2, .int .i64 (-1), .int .i64 2, .int .i64 (-1), .int .i64 0, .int .i64 0, (.slice none 0 0)], [.int .i64 11, .int .i64 0, .int .i64 (-1), .int .i64 (-1), .int .i64 (-1), .int .i64 0, .int .i64 10, x6], [.int .i64 11, .int .i64 2, .int .i64 (-1), .int .i64 (-1), .int .i64 (-1), .int .i64 0, .int .i64 10, x8]]) (fs := [.mk 2 0 (-1) (-1) (-1) 0 0 [], .mk 8 2 (-1) 2 (-1) 0 0 [], .mk 11 0 (-1) (-1) (-1) 0 10 fssQTopic, .mk 11 2 (-1) (-1) (-1) 0 10 fssQNode]) hs_T29 (lX4 (eS hz4) (eS hz4) (eS hz4) (eS hz4)) (RepFL.cons (repF_iff.2 ⟨_, rfl, .inl ⟨rfl, rfl⟩⟩) (RepFL.cons (repF_iff.2 ⟨_, rfl, .inl ⟨rfl, rfl⟩⟩) (RepFL.cons (repF_iff.2 ⟨_, rfl, hb11⟩) (RepFL.cons (repF_iff.2 ⟨_, rfl, hb8⟩) RepFL.nil)))) rfl (by decide) (by decide) (fun b hb => hb) hL9_w2.size ?_)
  intro w12 v12 fr12 hv12
  have hF13 : Fr [] w w12 := hF9.tr fr12
  have hL13_w2 : Fr [] w2 w12 := hL9_w2.tr fr12
  refine wC (wp_buildC (z := zM) (ps := [(1, .const (.int .i64 0)), (0, .tmp 7)]) (vs := [(1, .int .i64 0), (0, v12)]) (cs := [v12, .int .i64 0]) hFlT31 (by simp only [List.map_cons, List.map_nil, eCo]; rw [eTm, sZ (zZ (zZ (zZ (zZ (zZ (zZ hz4)))))) (by decide)]) (by intro p hp; simp at hp; rcases hp with rfl | rfl; exact ⟨by simp [zM], rfl⟩; exact ⟨by simp [zM], hv12.one⟩) rfl ?_)
  rw [wCo]
  have thS := hL13_w2.there th2
  refine wp_storeL (cs := [v12, .int .i64 0]) (o := 0) hFlT31 rfl (eK g4_0) (eS hz4) (by intro u hu; simp at hu; rcases hu with rfl | rfl; exact hv12.one; rfl) thS ?_
  rintro w14 f14 sz14 r14 th14
  have hF14 : Fr [] w w14 := hF13.trans f14 (fun r hr => .inl (by simp at hr; subst hr; have := (Fr.refl [] w).size; simp only; omega))
  refine wEn fun a15 ha15 => ?_
  have hz15 := kS ha15 hz4
  have hd15 := kD ha15 hd4
  have g15_0 := kP ha15 g4_0
  refine hK5 a15 w14 (tUp ?_)
  refine wp_ret ?_
  have hst := hF14
  have hfin : FdsR w14 (From w.heap.size w14) v12 [.mk 2 0 (-1) (-1) (-1) 0 0 [], .mk 8 2 (-1) 2 (-1) 0 0 [], .mk 11 0 (-1) (-1) (-1) 0 10 fssQTopic, .mk 11 2 (-1) (-1) (-1) 0 10 fssQNode] := hv12.kept f14 (by intro r hr hA; simp at hr; subst hr; have := hA.1; simp only at this; omega) (fun b hb => ⟨by have := hb.1; omega, Nat.lt_of_lt_of_le hb.2 f14.size⟩)
  exact ⟨hd15, _, results_cell hres' hFlT31 (cs := [v12, .int .i64 0]) rfl g15_0 r14, _, rfl, hst, hfin⟩
theorem ifsQ : SchM Tryz.prog 16 fsQ 0 := fsQ_m (te8 := 56) (tb := 80) Tryz.func16 (by kernel_rfl) rfl rfl rfl (flatB_is (by kernel_rfl)) (flatB_is (by kernel_rfl)) (by kernel_rfl) ifssQTopic ifssQNode
end Go.Proofs.YthmejlgblhjcdaaGreatDoor.DescribeQuorumResponse
