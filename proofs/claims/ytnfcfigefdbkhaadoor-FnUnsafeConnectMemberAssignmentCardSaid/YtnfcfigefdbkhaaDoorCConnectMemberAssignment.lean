/- What the reference lays of ConnectMemberAssignment's fields. Printed by gen_sch.py. -/
import Derived.Test.YtnfcfigefdbkhaaDoorKqSwr
import Derived.Test.YtnfcfigefdbkhaaDoorKqP02
set_option linter.unusedVariables false
set_option linter.unusedSimpArgs false
namespace Go.Proofs.YtnfcfigefdbkhaaDoor.ConnectMemberAssignment
open Go.Kq
def fssQAssignment:List Kq.Fd:=[.mk 8 0 (-1) (-1) (-1) 0 0 [],.mk 11 0 (-1) (-1) (-1) 0 2 []]
theorem fssQAssignment_m {P:Program} {f:FuncId} {fn:Func} {T28 T47:TypeId} {i0 i1:Nat} {t0 t1 t2 t3 t4:TypeId} {p0 p1 p2 p3 p4:String} {e0 e1 e2 e3 e4:Array Edge} {te8:TypeId} {tb:Nat}
    (hf:P.funcs[f]?=some fn) (hname:(fn.name == "runtime.NumGoroutine")=false) (hres':fn.results = #[.tmp 0]) (hN:fn.ntmps=4)
    (hbody:fn.body=some (.seq (Code.region i0 ⟨[⟨some 0,.assign (.const (.slice none 0 0)),t0,p0,e0,none⟩]⟩ false)
  (.seq (Code.region i1 ⟨[⟨some 1,.build T47 #[(0,.const (.int .i64 8)),(2,.const (.int .i64 (-1))),(3,.const (.int .i64 (-1))),(4,.const (.int .i64 (-1)))],t1,p1,e1,none⟩,
    ⟨some 2,.build T47 #[(0,.const (.int .i64 11)),(2,.const (.int .i64 (-1))),(3,.const (.int .i64 (-1))),(4,.const (.int .i64 (-1))),(6,.const (.int .i64 2))],t2,p2,e2,none⟩,
    ⟨some 3,.buildSlice T28 2 #[(0,.tmp 1),(1,.tmp 2)],t3,p3,e3,none⟩,
    ⟨some 0,.assign (.tmp 3),t4,p4,e4,none⟩]⟩ false)
  .ret)))
    (hFlT47:Flat P T47 zF) (hs_T28:sliceOf P T28 te8 8 tb=true) :SubM P f fssQAssignment:=by
  refine ⟨enters_of hf hname hbody,?_⟩
  intro w
  refine calls_of_wp hf hbody ?_
  generalize ha0:({ tmps:=#[]++Array.replicate (fn.ntmps - (#[]:Array Value).size) undef,defers:=[] }:Act)=a0
  have hz0:a0.tmps.size=4:=by subst ha0;simp[hN]
  have hd0:a0.defers=[]:=by subst ha0;rfl
  refine wT fun K1 hK1=>?_
  refine wC (wAs (v:=.slice none 0 0) rfl ?_)
  refine wEn fun a2 ha2=>?_
  have hz2:=kS ha2 hz0
  have hd2:=kD ha2 hd0
  refine hK1 a2 w (tUp ?_)
  refine wT fun K3 hK3=>?_
  refine wC (wp_buildC (z:=zF) (ps:=[(0,.const (.int .i64 8)),(2,.const (.int .i64 (-1))),(3,.const (.int .i64 (-1))),(4,.const (.int .i64 (-1)))]) (vs:=[(0,Value.int .i64 8),(2,Value.int .i64 (-1)),(3,Value.int .i64 (-1)),(4,Value.int .i64 (-1))]) (cs:=[.int .i64 8,.int .i64 0,.int .i64 (-1),.int .i64 (-1),.int .i64 (-1),.int .i64 0,.int .i64 0,(.slice none 0 0)]) hFlT47 rfl (by decide) rfl ?_)
  refine wC (wp_buildC (z:=zF) (ps:=[(0,.const (.int .i64 11)),(2,.const (.int .i64 (-1))),(3,.const (.int .i64 (-1))),(4,.const (.int .i64 (-1))),(6,.const (.int .i64 2))]) (vs:=[(0,Value.int .i64 11),(2,Value.int .i64 (-1)),(3,Value.int .i64 (-1)),(4,Value.int .i64 (-1)),(6,Value.int .i64 2)]) (cs:=[.int .i64 11,.int .i64 0,.int .i64 (-1),.int .i64 (-1),.int .i64 (-1),.int .i64 0,.int .i64 2,(.slice none 0 0)]) hFlT47 rfl (by decide) rfl ?_)
  refine wC (wp_fields (s0:=w.heap.size) (A:=From w.heap.size w) (xs:=[.tmp 1,.tmp 2]) (css:=[[.int .i64 8,.int .i64 0,.int .i64 (-1),.int .i64 (-1),.int .i64 (-1),.int .i64 0,.int .i64 0,(.slice none 0 0)],[.int .i64 11,.int .i64 0,.int .i64 (-1),.int .i64 (-1),.int .i64 (-1),.int .i64 0,.int .i64 2,(.slice none 0 0)]]) (fs:=[.mk 8 0 (-1) (-1) (-1) 0 0 [],.mk 11 0 (-1) (-1) (-1) 0 2 []]) hs_T28 (lX2 (eS hz2) (eS hz2)) (RepFL.cons (repF_iff.2 ⟨_,rfl,.inl ⟨rfl,rfl⟩⟩) (RepFL.cons (repF_iff.2 ⟨_,rfl,.inl ⟨rfl,rfl⟩⟩) RepFL.nil)) rfl (by decide) (by decide) (fun b hb=>hb) (Fr.refl [] w).size ?_)
  intro w4 v4 fr4 hv4
  have hF5:Fr [] w w4:=fr4
  refine wC (wAs (v:=v4) (eS hz2) ?_)
  refine wEn fun a6 ha6=>?_
  have hz6:=kS ha6 hz2
  have hd6:=kD ha6 hd2
  have g6_0:get a6 0=v4:=kG ha6 hz2
  refine hK3 a6 w4 (tUp ?_)
  refine wp_ret ?_
  exact ⟨hd6,_,rIs hres' g6_0,_,rfl,hF5,hv4⟩
theorem ifssQAssignment:SubM Tryd.prog 33 fssQAssignment:=fssQAssignment_m (te8:=47) (tb:=80) Tryd.func33 (by kernel_rfl) rfl rfl rfl (fBi (by kernel_rfl)) (by kernel_rfl)
def fssQRevoked:List Kq.Fd:=[.mk 8 0 (-1) (-1) (-1) 0 0 [],.mk 11 0 (-1) (-1) (-1) 0 2 []]
theorem fssQRevoked_m {P:Program} {f:FuncId} {fn:Func} {T28 T47:TypeId} {i0 i1:Nat} {t0 t1 t2 t3 t4:TypeId} {p0 p1 p2 p3 p4:String} {e0 e1 e2 e3 e4:Array Edge} {te8:TypeId} {tb:Nat}
    (hf:P.funcs[f]?=some fn) (hname:(fn.name == "runtime.NumGoroutine")=false) (hres':fn.results = #[.tmp 0]) (hN:fn.ntmps=4)
    (hbody:fn.body=some (.seq (Code.region i0 ⟨[⟨some 0,.assign (.const (.slice none 0 0)),t0,p0,e0,none⟩]⟩ false)
  (.seq (Code.region i1 ⟨[⟨some 1,.build T47 #[(0,.const (.int .i64 8)),(2,.const (.int .i64 (-1))),(3,.const (.int .i64 (-1))),(4,.const (.int .i64 (-1)))],t1,p1,e1,none⟩,
    ⟨some 2,.build T47 #[(0,.const (.int .i64 11)),(2,.const (.int .i64 (-1))),(3,.const (.int .i64 (-1))),(4,.const (.int .i64 (-1))),(6,.const (.int .i64 2))],t2,p2,e2,none⟩,
    ⟨some 3,.buildSlice T28 2 #[(0,.tmp 1),(1,.tmp 2)],t3,p3,e3,none⟩,
    ⟨some 0,.assign (.tmp 3),t4,p4,e4,none⟩]⟩ false)
  .ret)))
    (hFlT47:Flat P T47 zF) (hs_T28:sliceOf P T28 te8 8 tb=true) :SubM P f fssQRevoked:=by
  refine ⟨enters_of hf hname hbody,?_⟩
  intro w
  refine calls_of_wp hf hbody ?_
  generalize ha0:({ tmps:=#[]++Array.replicate (fn.ntmps - (#[]:Array Value).size) undef,defers:=[] }:Act)=a0
  have hz0:a0.tmps.size=4:=by subst ha0;simp[hN]
  have hd0:a0.defers=[]:=by subst ha0;rfl
  refine wT fun K1 hK1=>?_
  refine wC (wAs (v:=.slice none 0 0) rfl ?_)
  refine wEn fun a2 ha2=>?_
  have hz2:=kS ha2 hz0
  have hd2:=kD ha2 hd0
  refine hK1 a2 w (tUp ?_)
  refine wT fun K3 hK3=>?_
  refine wC (wp_buildC (z:=zF) (ps:=[(0,.const (.int .i64 8)),(2,.const (.int .i64 (-1))),(3,.const (.int .i64 (-1))),(4,.const (.int .i64 (-1)))]) (vs:=[(0,Value.int .i64 8),(2,Value.int .i64 (-1)),(3,Value.int .i64 (-1)),(4,Value.int .i64 (-1))]) (cs:=[.int .i64 8,.int .i64 0,.int .i64 (-1),.int .i64 (-1),.int .i64 (-1),.int .i64 0,.int .i64 0,(.slice none 0 0)]) hFlT47 rfl (by decide) rfl ?_)
  refine wC (wp_buildC (z:=zF) (ps:=[(0,.const (.int .i64 11)),(2,.const (.int .i64 (-1))),(3,.const (.int .i64 (-1))),(4,.const (.int .i64 (-1))),(6,.const (.int .i64 2))]) (vs:=[(0,Value.int .i64 11),(2,Value.int .i64 (-1)),(3,Value.int .i64 (-1)),(4,Value.int .i64 (-1)),(6,Value.int .i64 2)]) (cs:=[.int .i64 11,.int .i64 0,.int .i64 (-1),.int .i64 (-1),.int .i64 (-1),.int .i64 0,.int .i64 2,(.slice none 0 0)]) hFlT47 rfl (by decide) rfl ?_)
  refine wC (wp_fields (s0:=w.heap.size) (A:=From w.heap.size w) (xs:=[.tmp 1,.tmp 2]) (css:=[[.int .i64 8,.int .i64 0,.int .i64 (-1),.int .i64 (-1),.int .i64 (-1),.int .i64 0,.int .i64 0,(.slice none 0 0)],[.int .i64 11,.int .i64 0,.int .i64 (-1),.int .i64 (-1),.int .i64 (-1),.int .i64 0,.int .i64 2,(.slice none 0 0)]]) (fs:=[.mk 8 0 (-1) (-1) (-1) 0 0 [],.mk 11 0 (-1) (-1) (-1) 0 2 []]) hs_T28 (lX2 (eS hz2) (eS hz2)) (RepFL.cons (repF_iff.2 ⟨_,rfl,.inl ⟨rfl,rfl⟩⟩) (RepFL.cons (repF_iff.2 ⟨_,rfl,.inl ⟨rfl,rfl⟩⟩) RepFL.nil)) rfl (by decide) (by decide) (fun b hb=>hb) (Fr.refl [] w).size ?_)
  intro w4 v4 fr4 hv4
  have hF5:Fr [] w w4:=fr4
  refine wC (wAs (v:=v4) (eS hz2) ?_)
  refine wEn fun a6 ha6=>?_
  have hz6:=kS ha6 hz2
  have hd6:=kD ha6 hd2
  have g6_0:get a6 0=v4:=kG ha6 hz2
  refine hK3 a6 w4 (tUp ?_)
  refine wp_ret ?_
  exact ⟨hd6,_,rIs hres' g6_0,_,rfl,hF5,hv4⟩
theorem ifssQRevoked:SubM Tryd.prog 34 fssQRevoked:=fssQRevoked_m (te8:=47) (tb:=80) Tryd.func34 (by kernel_rfl) rfl rfl rfl (fBi (by kernel_rfl)) (by kernel_rfl)
def fsQ:List Kq.Fd:=[.mk 2 0 (-1) (-1) (-1) 0 0 [],.mk 8 0 (-1) (-1) (-1) 0 0 [],.mk 8 0 (-1) (-1) (-1) 0 0 [],.mk 4 0 (-1) (-1) (-1) 0 0 [],.mk 11 0 (-1) (-1) (-1) 0 10 fssQAssignment,.mk 11 1 (-1) (-1) (-1) 0 10 fssQRevoked,.mk 3 1 (-1) (-1) (-1) 0 0 []]
theorem fsQ_m {P:Program} {f:FuncId} {fn:Func} {T28 T30 T47:TypeId} {f33 f34:FuncId} {ct0:Array TypeId} {ct1:Array TypeId} {i0 i1:Nat} {t0 t1 t2 t3 t4 t5 t6 t7 t8 t9 t10 t11 t12:TypeId} {p0 p1 p2 p3 p4 p5 p6 p7 p8 p9 p10 p11 p12:String} {e0 e1 e2 e3 e4 e5 e6 e7 e8 e9 e10 e11 e12:Array Edge} {te8:TypeId} {tb:Nat}
    (hf:P.funcs[f]?=some fn) (hname:(fn.name == "runtime.NumGoroutine")=false) (hres':fn.results = #[.cell 0 T30]) (hN:fn.ntmps=12)
    (hbody:fn.body=some (.seq (Code.region i0 ⟨[⟨some 0,.alloc T30,t0,p0,e0,none⟩]⟩ false)
  (.seq (Code.region i1 ⟨[⟨some 1,.build T47 #[(0,.const (.int .i64 2)),(2,.const (.int .i64 (-1))),(3,.const (.int .i64 (-1))),(4,.const (.int .i64 (-1)))],t1,p1,e1,none⟩,
    ⟨some 2,.build T47 #[(0,.const (.int .i64 8)),(2,.const (.int .i64 (-1))),(3,.const (.int .i64 (-1))),(4,.const (.int .i64 (-1)))],t2,p2,e2,none⟩,
    ⟨some 3,.build T47 #[(0,.const (.int .i64 8)),(2,.const (.int .i64 (-1))),(3,.const (.int .i64 (-1))),(4,.const (.int .i64 (-1)))],t3,p3,e3,none⟩,
    ⟨some 4,.build T47 #[(0,.const (.int .i64 4)),(2,.const (.int .i64 (-1))),(3,.const (.int .i64 (-1))),(4,.const (.int .i64 (-1)))],t4,p4,e4,none⟩,
    ⟨some 5,.call ⟨.value (.func f33),#[],ct0⟩,t5,p5,e5,none⟩,
    ⟨some 6,.build T47 #[(0,.const (.int .i64 11)),(2,.const (.int .i64 (-1))),(3,.const (.int .i64 (-1))),(4,.const (.int .i64 (-1))),(6,.const (.int .i64 10)),(7,.tmp 5)],t6,p6,e6,none⟩,
    ⟨some 7,.call ⟨.value (.func f34),#[],ct1⟩,t7,p7,e7,none⟩,
    ⟨some 8,.build T47 #[(0,.const (.int .i64 11)),(1,.const (.int .i64 1)),(2,.const (.int .i64 (-1))),(3,.const (.int .i64 (-1))),(4,.const (.int .i64 (-1))),(6,.const (.int .i64 10)),(7,.tmp 7)],t8,p8,e8,none⟩,
    ⟨some 9,.build T47 #[(0,.const (.int .i64 3)),(1,.const (.int .i64 1)),(2,.const (.int .i64 (-1))),(3,.const (.int .i64 (-1))),(4,.const (.int .i64 (-1)))],t9,p9,e9,none⟩,
    ⟨some 10,.buildSlice T28 7 #[(0,.tmp 1),(1,.tmp 2),(2,.tmp 3),(3,.tmp 4),(4,.tmp 6),(5,.tmp 8),(6,.tmp 9)],t10,p10,e10,none⟩,
    ⟨some 11,.build T30 #[(1,.const (.int .i64 (-1))),(0,.tmp 10)],t11,p11,e11,none⟩,
    ⟨none,.store T30 (.tmp 0) (.tmp 11),t12,p12,e12,none⟩]⟩ false)
  .ret)))
    (hFlT30:Flat P T30 zM) (hFlT47:Flat P T47 zF) (hs_T28:sliceOf P T28 te8 8 tb=true) (hfssQAssignment:SubM P f33 fssQAssignment) (hfssQRevoked:SubM P f34 fssQRevoked):SchM P f fsQ (-1):=by
  refine ⟨enters_of hf hname hbody,?_⟩
  intro w
  refine calls_of_wp hf hbody ?_
  generalize ha0:({ tmps:=#[]++Array.replicate (fn.ntmps - (#[]:Array Value).size) undef,defers:=[] }:Act)=a0
  have hz0:a0.tmps.size=12:=by subst ha0;simp[hN]
  have hd0:a0.defers=[]:=by subst ha0;rfl
  refine wT fun K1 hK1=>?_
  refine wC (wp_allocL hFlT30 ?_)
  rintro w2 f2 sz2 r2 th2
  have hF3:Fr [] w w2:=f2
  refine wEn fun a4 ha4=>?_
  have hz4:=kS ha4 hz0
  have hd4:=kD ha4 hd0
  have g4_0:get a4 0 = .pointer (some ⟨w.heap.size,0,none⟩):=kG ha4 hz0
  refine hK1 a4 w2 (tUp ?_)
  refine wT fun K5 hK5=>?_
  refine wC (wp_buildC (z:=zF) (ps:=[(0,.const (.int .i64 2)),(2,.const (.int .i64 (-1))),(3,.const (.int .i64 (-1))),(4,.const (.int .i64 (-1)))]) (vs:=[(0,Value.int .i64 2),(2,Value.int .i64 (-1)),(3,Value.int .i64 (-1)),(4,Value.int .i64 (-1))]) (cs:=[.int .i64 2,.int .i64 0,.int .i64 (-1),.int .i64 (-1),.int .i64 (-1),.int .i64 0,.int .i64 0,(.slice none 0 0)]) hFlT47 rfl (by decide) rfl ?_)
  refine wC (wp_buildC (z:=zF) (ps:=[(0,.const (.int .i64 8)),(2,.const (.int .i64 (-1))),(3,.const (.int .i64 (-1))),(4,.const (.int .i64 (-1)))]) (vs:=[(0,Value.int .i64 8),(2,Value.int .i64 (-1)),(3,Value.int .i64 (-1)),(4,Value.int .i64 (-1))]) (cs:=[.int .i64 8,.int .i64 0,.int .i64 (-1),.int .i64 (-1),.int .i64 (-1),.int .i64 0,.int .i64 0,(.slice none 0 0)]) hFlT47 rfl (by decide) rfl ?_)
  refine wC (wp_buildC (z:=zF) (ps:=[(0,.const (.int .i64 8)),(2,.const (.int .i64 (-1))),(3,.const (.int .i64 (-1))),(4,.const (.int .i64 (-1)))]) (vs:=[(0,Value.int .i64 8),(2,Value.int .i64 (-1)),(3,Value.int .i64 (-1)),(4,Value.int .i64 (-1))]) (cs:=[.int .i64 8,.int .i64 0,.int .i64 (-1),.int .i64 (-1),.int .i64 (-1),.int .i64 0,.int .i64 0,(.slice none 0 0)]) hFlT47 rfl (by decide) rfl ?_)
  refine wC (wp_buildC (z:=zF) (ps:=[(0,.const (.int .i64 4)),(2,.const (.int .i64 (-1))),(3,.const (.int .i64 (-1))),(4,.const (.int .i64 (-1)))]) (vs:=[(0,Value.int .i64 4),(2,Value.int .i64 (-1)),(3,Value.int .i64 (-1)),(4,Value.int .i64 (-1))]) (cs:=[.int .i64 4,.int .i64 0,.int .i64 (-1),.int .i64 (-1),.int .i64 (-1),.int .i64 0,.int .i64 0,(.slice none 0 0)]) hFlT47 rfl (by decide) rfl ?_)
  refine wC (wCr (R:=fun vz wz=>Fr [] w2 wz∧FdsR wz (From w2.heap.size wz) vz fssQAssignment) (vs:=#[]) hfssQAssignment.enters (by simp) ((hfssQAssignment.call w2).mono (by rintro e wz ⟨v,rfl,h⟩;exact ⟨_,rfl,h⟩)) ?_)
  rintro x6 w6 ⟨fr6,hx6⟩
  have hF7:Fr [] w w6:=hF3.tr fr6
  have hL7_w2:Fr [] w2 w6:=(Fr.refl [] w2).tr fr6
  have hb6:=hx6.kept (Fr.refl [] w6) (by simp) (A':=From w2.heap.size w6) (fun b hb=>⟨Nat.le_trans (Fr.refl [] w2).size hb.1,hb.2⟩)
  refine wC (wp_buildC (z:=zF) (ps:=[(0,.const (.int .i64 11)),(2,.const (.int .i64 (-1))),(3,.const (.int .i64 (-1))),(4,.const (.int .i64 (-1))),(6,.const (.int .i64 10)),(7,.tmp 5)]) (vs:=[(0,Value.int .i64 11),(2,Value.int .i64 (-1)),(3,Value.int .i64 (-1)),(4,Value.int .i64 (-1)),(6,Value.int .i64 10),(7,x6)]) (cs:=[.int .i64 11,.int .i64 0,.int .i64 (-1),.int .i64 (-1),.int .i64 (-1),.int .i64 0,.int .i64 10,x6]) hFlT47 (by simp only[List.map_cons,List.map_nil,eCo];rw[eTm,sZ (zZ (zZ (zZ (zZ hz4)))) (by decide)]) (by intro p hp;simp at hp;rcases hp with rfl | rfl | rfl | rfl | rfl | rfl <;> exact ⟨by simp[zF],by first | rfl | exact hb6.one⟩) rfl ?_)
  refine wC (wCr (R:=fun vz wz=>Fr [] w6 wz∧FdsR wz (From w6.heap.size wz) vz fssQRevoked) (vs:=#[]) hfssQRevoked.enters (by simp) ((hfssQRevoked.call w6).mono (by rintro e wz ⟨v,rfl,h⟩;exact ⟨_,rfl,h⟩)) ?_)
  rintro x8 w8 ⟨fr8,hx8⟩
  have hF9:Fr [] w w8:=hF7.tr fr8
  have hL9_w2:Fr [] w2 w8:=hL7_w2.tr fr8
  have hb10:=hb6.kept fr8 (by simp) (A':=From w2.heap.size w8) (fun b hb=>⟨hb.1,Nat.lt_of_lt_of_le hb.2 fr8.size⟩)
  have hb11:=hb6.kept fr8 (by simp) (A':=From w2.heap.size w8) (fun b hb=>⟨hb.1,Nat.lt_of_lt_of_le hb.2 fr8.size⟩)
  have hb8:=hx8.kept (Fr.refl [] w8) (by simp) (A':=From w2.heap.size w8) (fun b hb=>⟨Nat.le_trans hL7_w2.size hb.1,hb.2⟩)
  refine wC (wp_buildC (z:=zF) (ps:=[(0,.const (.int .i64 11)),(1,.const (.int .i64 1)),(2,.const (.int .i64 (-1))),(3,.const (.int .i64 (-1))),(4,.const (.int .i64 (-1))),(6,.const (.int .i64 10)),(7,.tmp 7)]) (vs:=[(0,Value.int .i64 11),(1,Value.int .i64 1),(2,Value.int .i64 (-1)),(3,Value.int .i64 (-1)),(4,Value.int .i64 (-1)),(6,Value.int .i64 10),(7,x8)]) (cs:=[.int .i64 11,.int .i64 1,.int .i64 (-1),.int .i64 (-1),.int .i64 (-1),.int .i64 0,.int .i64 10,x8]) hFlT47 (by simp only[List.map_cons,List.map_nil,eCo];rw[eTm,sZ (zZ (zZ (zZ (zZ (zZ (zZ hz4)))))) (by decide)]) (by intro p hp;simp at hp;rcases hp with rfl | rfl | rfl | rfl | rfl | rfl | rfl <;> exact ⟨by simp[zF],by first | rfl | exact hb8.one⟩) rfl ?_)
  refine wC (wp_buildC (z:=zF) (ps:=[(0,.const (.int .i64 3)),(1,.const (.int .i64 1)),(2,.const (.int .i64 (-1))),(3,.const (.int .i64 (-1))),(4,.const (.int .i64 (-1)))]) (vs:=[(0,Value.int .i64 3),(1,Value.int .i64 1),(2,Value.int .i64 (-1)),(3,Value.int .i64 (-1)),(4,Value.int .i64 (-1))]) (cs:=[.int .i64 3,.int .i64 1,.int .i64 (-1),.int .i64 (-1),.int .i64 (-1),.int .i64 0,.int .i64 0,(.slice none 0 0)]) hFlT47 rfl (by decide) rfl ?_)
  refine wC (wp_fields (s0:=w2.heap.size) (A:=From w2.heap.size w8) (xs:=[.tmp 1,.tmp 2,.tmp 3,.tmp 4,.tmp 6,.tmp 8,.tmp 9]) (css:=[[.int .i64 2,.int .i64 0,.int .i64 (-1),.int .i64 (-1),.int .i64 (-1),.int .i64 0,.int .i64 0,(.slice none 0 0)],[.int .i64 8,.int .i64 0,.int .i64 (-1),.int .i64 (-1),.int .i64 (-1),.int .i64 0,.int .i64 0,(.slice none 0 0)],[.int .i64 8,.int .i64 0,.int .i64 (-1),.int .i64 (-1),.int .i64 (-1),.int .i64 0,.int .i64 0,(.slice none 0 0)],[.int .i64 4,.int .i64 0,.int .i64 (-1),.int .i64 (-1),.int .i64 (-1),.int .i64 0,.int .i64 0,(.slice none 0 0)],[.int .i64 11,.int .i64 0,.int .i64 (-1),.int .i64 (-1),.int .i64 (-1),.int .i64 0,.int .i64 10,x6],[.int .i64 11,.int .i64 1,.int .i64 (-1),.int .i64 (-1),.int .i64 (-1),.int .i64 0,.int .i64 10,x8],[.int .i64 3,.int .i64 1,.int .i64 (-1),.int .i64 (-1),.int .i64 (-1),.int .i64 0,.int .i64 0,(.slice none 0 0)]]) (fs:=[.mk 2 0 (-1) (-1) (-1) 0 0 [],.mk 8 0 (-1) (-1) (-1) 0 0 [],.mk 8 0 (-1) (-1) (-1) 0 0 [],.mk 4 0 (-1) (-1) (-1) 0 0 [],.mk 11 0 (-1) (-1) (-1) 0 10 fssQAssignment,.mk 11 1 (-1) (-1) (-1) 0 10 fssQRevoked,.mk 3 1 (-1) (-1) (-1) 0 0 []]) hs_T28 (by simp only[List.map_cons,List.map_nil];rw[eTm,nZ (by decide),nZ (by decide),nZ (by decide),nZ (by decide),nZ (by decide),nZ (by decide),nZ (by decide),nZ (by decide),sZ hz4 (by decide),eTm,nZ (by decide),nZ (by decide),nZ (by decide),nZ (by decide),nZ (by decide),nZ (by decide),nZ (by decide),sZ (zZ hz4) (by decide),eTm,nZ (by decide),nZ (by decide),nZ (by decide),nZ (by decide),nZ (by decide),nZ (by decide),sZ (zZ (zZ hz4)) (by decide),eTm,nZ (by decide),nZ (by decide),nZ (by decide),nZ (by decide),nZ (by decide),sZ (zZ (zZ (zZ hz4))) (by decide),eTm,nZ (by decide),nZ (by decide),nZ (by decide),sZ (zZ (zZ (zZ (zZ (zZ hz4))))) (by decide),eTm,nZ (by decide),sZ (zZ (zZ (zZ (zZ (zZ (zZ (zZ hz4))))))) (by decide),eTm,sZ (zZ (zZ (zZ (zZ (zZ (zZ (zZ (zZ hz4)))))))) (by decide)]) (RepFL.cons (repF_iff.2 ⟨_,rfl,.inl ⟨rfl,rfl⟩⟩) (RepFL.cons (repF_iff.2 ⟨_,rfl,.inl ⟨rfl,rfl⟩⟩) (RepFL.cons (repF_iff.2 ⟨_,rfl,.inl ⟨rfl,rfl⟩⟩) (RepFL.cons (repF_iff.2 ⟨_,rfl,.inl ⟨rfl,rfl⟩⟩) (RepFL.cons (repF_iff.2 ⟨_,rfl,hb11⟩) (RepFL.cons (repF_iff.2 ⟨_,rfl,hb8⟩) (RepFL.cons (repF_iff.2 ⟨_,rfl,.inl ⟨rfl,rfl⟩⟩) RepFL.nil))))))) rfl (by decide) (by decide) (fun b hb=>hb) hL9_w2.size ?_)
  intro w12 v12 fr12 hv12
  have hF13:Fr [] w w12:=hF9.tr fr12
  have hL13_w2:Fr [] w2 w12:=hL9_w2.tr fr12
  refine wC (wp_buildC (z:=zM) (ps:=[(1,.const (.int .i64 (-1))),(0,.tmp 10)]) (vs:=[(1,.int .i64 (-1)),(0,v12)]) (cs:=[v12,.int .i64 (-1)]) hFlT30 (by simp only[List.map_cons,List.map_nil,eCo];rw[eTm,sZ (zZ (zZ (zZ (zZ (zZ (zZ (zZ (zZ (zZ hz4))))))))) (by decide)]) (by intro p hp;simp at hp;rcases hp with rfl | rfl;exact ⟨by simp[zM],rfl⟩;exact ⟨by simp[zM],hv12.one⟩) rfl ?_)
  rw[wCo]
  have thS:=hL13_w2.there th2
  refine wp_storeL (cs:=[v12,.int .i64 (-1)]) (o:=0) hFlT30 rfl (eK g4_0) (eS hz4) (by intro u hu;simp at hu;rcases hu with rfl | rfl;exact hv12.one;rfl) thS ?_
  rintro w14 f14 sz14 r14 th14
  have hF14:Fr [] w w14:=hF13.trans f14 (fun r hr=>.inl (by simp at hr;subst hr;have:=(Fr.refl [] w).size;simp only;omega))
  refine wEn fun a15 ha15=>?_
  have hz15:=kS ha15 hz4
  have hd15:=kD ha15 hd4
  have g15_0:=kP ha15 g4_0
  refine hK5 a15 w14 (tUp ?_)
  refine wp_ret ?_
  have hst:=hF14
  have hfin:FdsR w14 (From w.heap.size w14) v12 [.mk 2 0 (-1) (-1) (-1) 0 0 [],.mk 8 0 (-1) (-1) (-1) 0 0 [],.mk 8 0 (-1) (-1) (-1) 0 0 [],.mk 4 0 (-1) (-1) (-1) 0 0 [],.mk 11 0 (-1) (-1) (-1) 0 10 fssQAssignment,.mk 11 1 (-1) (-1) (-1) 0 10 fssQRevoked,.mk 3 1 (-1) (-1) (-1) 0 0 []]:=hv12.kept f14 (by intro r hr hA;simp at hr;subst hr;have:=hA.1;simp only at this;omega) (fun b hb=>⟨by have:=hb.1;omega,Nat.lt_of_lt_of_le hb.2 f14.size⟩)
  exact ⟨hd15,_,results_cell hres' hFlT30 (cs:=[v12,.int .i64 (-1)]) rfl g15_0 r14,_,rfl,hst,hfin⟩
theorem ifsQ:SchM Tryd.prog 13 fsQ (-1):=fsQ_m (te8:=47) (tb:=80) Tryd.func13 (by kernel_rfl) rfl rfl rfl (fBi (by kernel_rfl)) (fBi (by kernel_rfl)) (by kernel_rfl) ifssQAssignment ifssQRevoked
end Go.Proofs.YtnfcfigefdbkhaaDoor.ConnectMemberAssignment
