/- What the reference lays of DefaultPrincipalData's fields. Printed by gen_sch.py. -/
import Derived.Test.YtnfcfigefdbkhaaDoorKqSwr
import Derived.Test.YtnfcfigefdbkhaaDoorKqP01
set_option linter.unusedVariables false
set_option linter.unusedSimpArgs false
namespace Go.Proofs.YtnfcfigefdbkhaaDoor.DefaultPrincipalData
open Go.Kq
def fsQ:List Kq.Fd:=[.mk 8 0 (-1) (-1) (-1) 0 0 [],.mk 8 0 (-1) (-1) (-1) 0 0 [],.mk 0 0 (-1) (-1) (-1) 0 0 []]
theorem fsQ_m {P:Program} {f:FuncId} {fn:Func} {T28 T30 T47:TypeId} {i0 i1:Nat} {t0 t1 t2 t3 t4 t5 t6:TypeId} {p0 p1 p2 p3 p4 p5 p6:String} {e0 e1 e2 e3 e4 e5 e6:Array Edge} {te8:TypeId} {tb:Nat}
    (hf:P.funcs[f]?=some fn) (hname:(fn.name == "runtime.NumGoroutine")=false) (hres':fn.results = #[.cell 0 T30]) (hN:fn.ntmps=6)
    (hbody:fn.body=some (.seq (Code.region i0 ⟨[⟨some 0,.alloc T30,t0,p0,e0,none⟩]⟩ false)
  (.seq (Code.region i1 ⟨[⟨some 1,.build T47 #[(0,.const (.int .i64 8)),(2,.const (.int .i64 (-1))),(3,.const (.int .i64 (-1))),(4,.const (.int .i64 (-1)))],t1,p1,e1,none⟩,
    ⟨some 2,.build T47 #[(0,.const (.int .i64 8)),(2,.const (.int .i64 (-1))),(3,.const (.int .i64 (-1))),(4,.const (.int .i64 (-1)))],t2,p2,e2,none⟩,
    ⟨some 3,.build T47 #[(0,.const (.int .i64 0)),(2,.const (.int .i64 (-1))),(3,.const (.int .i64 (-1))),(4,.const (.int .i64 (-1)))],t3,p3,e3,none⟩,
    ⟨some 4,.buildSlice T28 3 #[(0,.tmp 1),(1,.tmp 2),(2,.tmp 3)],t4,p4,e4,none⟩,
    ⟨some 5,.build T30 #[(1,.const (.int .i64 0)),(0,.tmp 4)],t5,p5,e5,none⟩,
    ⟨none,.store T30 (.tmp 0) (.tmp 5),t6,p6,e6,none⟩]⟩ false)
  .ret)))
    (hFlT30:Flat P T30 zM) (hFlT47:Flat P T47 zF) (hs_T28:sliceOf P T28 te8 8 tb=true) :SchM P f fsQ 0:=by
  refine ⟨enters_of hf hname hbody,?_⟩
  intro w
  refine calls_of_wp hf hbody ?_
  generalize ha0:({ tmps:=#[]++Array.replicate (fn.ntmps - (#[]:Array Value).size) undef,defers:=[] }:Act)=a0
  have hz0:a0.tmps.size=6:=by subst ha0;simp[hN]
  have hd0:a0.defers=[]:=by subst ha0;rfl
  refine wT fun K1 hK1=>?_
  refine wC (wp_allocL hFlT30 ?_)
  rintro w2 f2 sz2 r2 th2
  have hF3:Fr [] w w2:=f2
  refine wEn fun a4 ha4=>?_
  have hz4:=kS ha4 hz0
  have hd4:=kD ha4 hd0
  have g4_0:get a4 0 = .pointer (some ⟨w.heap.size,0,none⟩):=kG ha4 hz0
  refine hK1 a4 w2 (tUp ?_)
  refine wT fun K5 hK5=>?_
  refine wC (wp_buildC (z:=zF) (ps:=[(0,.const (.int .i64 8)),(2,.const (.int .i64 (-1))),(3,.const (.int .i64 (-1))),(4,.const (.int .i64 (-1)))]) (vs:=[(0,Value.int .i64 8),(2,Value.int .i64 (-1)),(3,Value.int .i64 (-1)),(4,Value.int .i64 (-1))]) (cs:=[.int .i64 8,.int .i64 0,.int .i64 (-1),.int .i64 (-1),.int .i64 (-1),.int .i64 0,.int .i64 0,(.slice none 0 0)]) hFlT47 rfl (by decide) rfl ?_)
  refine wC (wp_buildC (z:=zF) (ps:=[(0,.const (.int .i64 8)),(2,.const (.int .i64 (-1))),(3,.const (.int .i64 (-1))),(4,.const (.int .i64 (-1)))]) (vs:=[(0,Value.int .i64 8),(2,Value.int .i64 (-1)),(3,Value.int .i64 (-1)),(4,Value.int .i64 (-1))]) (cs:=[.int .i64 8,.int .i64 0,.int .i64 (-1),.int .i64 (-1),.int .i64 (-1),.int .i64 0,.int .i64 0,(.slice none 0 0)]) hFlT47 rfl (by decide) rfl ?_)
  refine wC (wp_buildC (z:=zF) (ps:=[(0,.const (.int .i64 0)),(2,.const (.int .i64 (-1))),(3,.const (.int .i64 (-1))),(4,.const (.int .i64 (-1)))]) (vs:=[(0,Value.int .i64 0),(2,Value.int .i64 (-1)),(3,Value.int .i64 (-1)),(4,Value.int .i64 (-1))]) (cs:=[.int .i64 0,.int .i64 0,.int .i64 (-1),.int .i64 (-1),.int .i64 (-1),.int .i64 0,.int .i64 0,(.slice none 0 0)]) hFlT47 rfl (by decide) rfl ?_)
  refine wC (wp_fields (s0:=w2.heap.size) (A:=From w2.heap.size w2) (xs:=[.tmp 1,.tmp 2,.tmp 3]) (css:=[[.int .i64 8,.int .i64 0,.int .i64 (-1),.int .i64 (-1),.int .i64 (-1),.int .i64 0,.int .i64 0,(.slice none 0 0)],[.int .i64 8,.int .i64 0,.int .i64 (-1),.int .i64 (-1),.int .i64 (-1),.int .i64 0,.int .i64 0,(.slice none 0 0)],[.int .i64 0,.int .i64 0,.int .i64 (-1),.int .i64 (-1),.int .i64 (-1),.int .i64 0,.int .i64 0,(.slice none 0 0)]]) (fs:=[.mk 8 0 (-1) (-1) (-1) 0 0 [],.mk 8 0 (-1) (-1) (-1) 0 0 [],.mk 0 0 (-1) (-1) (-1) 0 0 []]) hs_T28 (lX3 (eS hz4) (eS hz4) (eS hz4)) (RepFL.cons (repF_iff.2 ⟨_,rfl,.inl ⟨rfl,rfl⟩⟩) (RepFL.cons (repF_iff.2 ⟨_,rfl,.inl ⟨rfl,rfl⟩⟩) (RepFL.cons (repF_iff.2 ⟨_,rfl,.inl ⟨rfl,rfl⟩⟩) RepFL.nil))) rfl (by decide) (by decide) (fun b hb=>hb) (Fr.refl [] w2).size ?_)
  intro w6 v6 fr6 hv6
  have hF7:Fr [] w w6:=hF3.tr fr6
  have hL7_w2:Fr [] w2 w6:=(Fr.refl [] w2).tr fr6
  refine wC (wp_buildC (z:=zM) (ps:=[(1,.const (.int .i64 0)),(0,.tmp 4)]) (vs:=[(1,.int .i64 0),(0,v6)]) (cs:=[v6,.int .i64 0]) hFlT30 (by simp only[List.map_cons,List.map_nil,eCo];rw[eTm,sZ (zZ (zZ (zZ hz4))) (by decide)]) (by intro p hp;simp at hp;rcases hp with rfl | rfl;exact ⟨by simp[zM],rfl⟩;exact ⟨by simp[zM],hv6.one⟩) rfl ?_)
  rw[wCo]
  have thS:=hL7_w2.there th2
  refine wp_storeL (cs:=[v6,.int .i64 0]) (o:=0) hFlT30 rfl (eK g4_0) (eS hz4) (by intro u hu;simp at hu;rcases hu with rfl | rfl;exact hv6.one;rfl) thS ?_
  rintro w8 f8 sz8 r8 th8
  have hF8:Fr [] w w8:=hF7.trans f8 (fun r hr=>.inl (by simp at hr;subst hr;have:=(Fr.refl [] w).size;simp only;omega))
  refine wEn fun a9 ha9=>?_
  have hz9:=kS ha9 hz4
  have hd9:=kD ha9 hd4
  have g9_0:=kP ha9 g4_0
  refine hK5 a9 w8 (tUp ?_)
  refine wp_ret ?_
  have hst:=hF8
  have hfin:FdsR w8 (From w.heap.size w8) v6 [.mk 8 0 (-1) (-1) (-1) 0 0 [],.mk 8 0 (-1) (-1) (-1) 0 0 [],.mk 0 0 (-1) (-1) (-1) 0 0 []]:=hv6.kept f8 (by intro r hr hA;simp at hr;subst hr;have:=hA.1;simp only at this;omega) (fun b hb=>⟨by have:=hb.1;omega,Nat.lt_of_lt_of_le hb.2 f8.size⟩)
  exact ⟨hd9,_,results_cell hres' hFlT30 (cs:=[v6,.int .i64 0]) rfl g9_0 r8,_,rfl,hst,hfin⟩
theorem ifsQ:SchM Tryd.prog 6 fsQ 0:=fsQ_m (te8:=47) (tb:=80) Tryd.func6 (by kernel_rfl) rfl rfl rfl (fBi (by kernel_rfl)) (fBi (by kernel_rfl)) (by kernel_rfl)
end Go.Proofs.YtnfcfigefdbkhaaDoor.DefaultPrincipalData
