/- A part of the library: rules of reasoning about the program's operations and what its shared functions do. -/
import Derived.Test.YtnfcfigefdbkhaaDoorKqP02
import Derived.Test.YtnfcfigefdbkhaaDoorKqP05
import Derived.Test.YtnfcfigefdbkhaaDoorKqP04
set_option linter.unusedVariables false
set_option linter.unusedSimpArgs false
namespace Go.Kq
open Go Go.Proofs
def rdVer (g:Rd) (fl:Int→Bool) (st:RSt):Option (Int × V × RSt):=match g (rdNum .i16 2 st).1 (fl (rdNum .i16 2 st).1) (rdNum .i16 2 st).2 with
  | none=>none
  | some (x,s)=>some ((rdNum .i16 2 st).1,x,s)
structure ReadK (P:Program) (ge:Nat) (f:FuncId) (tys:List Ty) (ds:List V) (fl:Int→Bool) (g:Rd):Prop where
  enters:Enters P f
  call:∀ w pb sb uns srcv xs nl er,w.there pb 0 (1+Ty.sizes tys)→w.cell? ⟨pb,0,none⟩=some (.int .i16 0)→(∃ z,w.rangeAt pb 1 z∧Reps w NoFoot tys z ds)→Src w sb srcv xs nl →
    w.cell? ⟨ge,0,none⟩=some er→ge ≠ pb→pb ≠ sb→sb < w.heap.size →
    Calls P f #[.pointer (some ⟨pb,0,none⟩),srcv,.bool uns] w fun e w'=>Fr [⟨pb,0,1+Ty.sizes tys⟩] w w' ∧
      match rdVer g fl ⟨xs,nl,false⟩ with
      | none=>e = .returned er
      | some (ver,x,st')=>if st'.bad then e = .returned er else e = .returned .nilIface∧w'.cell? ⟨pb,0,none⟩=some (.int .i16 ver)∧(-32768≤ver∧ver≤32767)∧∃ ys z,x = .l ys∧w'.rangeAt pb 1 z∧Reps w' (Foot sb w.heap.size w'.heap.size) tys z ys
set_option maxRecDepth 10000 in
theorem root_k {P:Program} {ge:Nat} {f fd:FuncId} {fn:Func} {N tb tv tr:Nat} {cv:Code} {tys:List Ty} {ds:List V} {g:Rd} {d:List V→List V} {fl:Int→Bool}
    {n1 n2 n3 n5 i0 i1 i2 i3 i5:Nat} {TR S Tv T16:Nat} {f16:FuncId} {ats5:Array TypeId} {kv:Nat} {x0:Value} {ats:Array TypeId}
    {t0 t1 t2 t3 t4 t5 t6 t7 t8 t9 t10 t11 t12 t13 t14 t15 t16:TypeId} {p0 p1 p2 p3 p4 p5 p6 p7 p8 p9 p10 p11 p12 p13 p14 p15 p16:String} {e0 e1 e2 e3 e4 e5 e6 e7 e8 e9 e10 e11 e12 e13 e14 e15 e16:Array Edge}
    (hf:P.funcs[f]?=some fn) (hname:(fn.name == "runtime.NumGoroutine")=false) (hres:fn.results = #[.tmp tr]) (hN:fn.ntmps=N)
    (hbody:fn.body=some (.seq (Code.region i0 ⟨[⟨some tr,.assign (.const x0),t0,p0,e0,none⟩]⟩ false)
      (.seq (Code.region i1 ⟨[⟨some n1,.move (.tmp 0),t1,p1,e1,none⟩,⟨some (n1+1),.call ⟨.value (.func fd),#[.tmp n1],ats⟩,t2,p2,e2,none⟩]⟩ false)
      (.seq (Code.region i2 ⟨[⟨some n2,.move (.tmp 1),t3,p3,e3,none⟩,⟨some (n2+1),.build TR #[(0,.tmp n2)],t4,p4,e4,none⟩,⟨some tb,.alloc TR,t5,p5,e5,none⟩,⟨none,.store TR (.tmp tb) (.tmp (n2+1)),t6,p6,e6,none⟩]⟩ false)
      (.seq (Code.region i5 ⟨[⟨some n5,.move (.tmp 0),t12,p12,e12,none⟩,⟨some (n5+1),.call ⟨.value (.func f16),#[.tmp tb],ats5⟩,t13,p13,e13,none⟩,⟨some (n5+2),.nilCheck (.tmp n5),t14,p14,e14,none⟩,⟨some (n5+3),.fieldAddr S (.tmp (n5+2)) kv,t15,p15,e15,none⟩,⟨none,.store T16 (.tmp (n5+3)) (.tmp (n5+1)),t16,p16,e16,none⟩]⟩ false)
      (.seq (Code.region i3 ⟨[⟨some n3,.move (.tmp 0),t7,p7,e7,none⟩,⟨some (n3+1),.nilCheck (.tmp n3),t8,p8,e8,none⟩,⟨some (n3+2),.fieldAddr S (.tmp (n3+1)) kv,t9,p9,e9,none⟩,⟨some (n3+3),.load Tv (.tmp (n3+2)),t10,p10,e10,none⟩,⟨some tv,.assign (.tmp (n3+3)),t11,p11,e11,none⟩]⟩ false)
        cv))))))
    (hcv:Bdy P ge N tb tv tr cv tys ds fl g) (hd:DefM P fd (.int .i16::tys) d) (hdd:∀ v,d (v::ds)=v::ds) (hTR:readerTy P TR) (hTv:scal P Tv=true) (hS:fieldOf P S kv 0=true) (h16:MethV P f16 (.int .i16) (gNum .i16 2)) (hT16:scal P T16=true)
    (hgl:∀ ver f s y s',g ver f s=some (y,s')→∃ ys,y = .l ys)
    (hb:(decide (2 < tr) && decide (tr < tb) && decide (tb < tv) && decide (tv < n1) && decide (tv < n2) && decide (tv < n3) && decide (n1+1 < N) && decide (n2+1 < N) && decide (n3+3 < N) && decide (tv < n5) && decide (n5+3 < N))=true) :
    ReadK P ge f tys ds fl g:=by
  simp only[Bool.and_eq_true,decide_eq_true_eq] at hb
  obtain ⟨⟨⟨⟨⟨⟨⟨⟨⟨⟨b1,b2⟩,b3⟩,b4⟩,b5⟩,b6⟩,b7⟩,b8⟩,b9⟩,b10⟩,b11⟩:=hb
  refine ⟨enters_of hf hname hbody,?_⟩
  intro w pb sb uns srcv xs nl er ht hver hz hsrc her hgp hps hsl
  refine calls_of_wp hf hbody ?_
  generalize ha0:({ tmps:=#[Value.pointer (some ⟨pb,0,none⟩),srcv,Value.bool uns]++Array.replicate (fn.ntmps - #[Value.pointer (some ⟨pb,0,none⟩),srcv,Value.bool uns].size) undef,defers:=[] }:Act)=a0
  have hsz:a0.tmps.size=N:=by subst ha0;simp[hN];omega
  have hd0:a0.defers=[]:=by subst ha0;rfl
  have q0:get a0 0 = .pointer (some ⟨pb,0,none⟩):=by subst ha0;exact gAr rfl
  have q1:get a0 1=srcv:=by subst ha0;exact gAr rfl
  have q2:get a0 2 = .bool uns:=by subst ha0;exact gAr rfl
  refine tId (wp_seq_k fun K1 hK1=>?_)
  refine r_const (m:=3) (by omega) (by omega) fun a1 k1 _=>hK1 a1 w (tUp ?_)
  have hs1:=k1.size
  refine tId (wp_seq_k fun K2 hK2=>?_)
  obtain ⟨z,hz1,hz2⟩:=hz
  have hzl:=hz2.length
  have hzr:w.rangeAt pb 0 (.int .i16 0::z):=by rw[range_cons];exact ⟨hver,by rw[Nat.zero_add];exact hz1⟩
  have hzz:Reps w NoFoot (.int .i16::tys) (.int .i16 0::z) (.n 0::ds):=⟨[.int .i16 0],z,.n 0,ds,rfl,rfl,⟨0,rfl,rfl,by decide,by decide⟩,hz2⟩
  have hlen:(Value.int .i16 0::z).length=1+Ty.sizes tys:=by simp[hzl];omega
  refine r_do (m:=3) (R:=fun w'=>(∃ z',w'.rangeAt pb 0 z'∧Reps w' NoFoot (.int .i16::tys) z' (d (.n 0::ds)))∧Fr [⟨pb,0,1+Ty.sizes tys⟩] w w') hd.enters ((k1.get _ (by omega)).trans q0)
    ((hd.call w pb 0 _ _ hzr (by rw[hlen];exact ht) hzz).mono (by rintro e' w' ⟨x,h1,h2,h3⟩;refine ⟨x,h1,h2,?_⟩;rw[hlen,Nat.zero_add] at h3;exact h3)) (by omega) (by omega) ?_
  rintro a2 w2 ⟨⟨z2,hz3,hz4⟩,f2⟩ k2
  refine hK2 a2 w2 (tUp ?_)
  have hs2:=k2.size
  rw[hdd] at hz4
  obtain ⟨c1,c2,x1,r1,rfl,hx1,⟨iv,rfl,hiv,_,_⟩,hr2⟩:=hz4
  simp at hx1
  obtain ⟨rfl,rfl⟩:=hx1
  simp at hiv
  subst hiv
  rw[List.singleton_append,range_cons,Nat.zero_add] at hz3
  refine tId (wp_seq_k fun K3 hK3=>?_)
  have hsrc2:=hsrc.kept f2 (by intro r hr;simp at hr;subst hr;exact hps)
  have kk2:=k1.trans k2
  refine r_reader (m:=3) hTR ((kk2.get _ (by omega)).trans q1) hsrc2.oneCell (by omega) (by omega) (by omega) (by omega) ?_
  intro a3 w3 rb k3 g3 hrb hrb2 f3 hrr htr
  refine hK3 a3 w3 (tUp ?_)
  have hs3:=k3.size
  have kk3:=kk2.trans k3
  have hpbw:pb < w.heap.size:=there_lt ht (by omega)
  have hgew:=lt_of_cell her
  have f2s:=f2.size
  have f3s:=f3.size
  have f23:Fr [⟨pb,0,1+Ty.sizes tys⟩] w w3:=f2.tr (Fr.nil f3)
  -- the version, out of the source
  have hrw3:RW w3 rb sb ⟨xs,nl,false⟩:=(hsrc2.kept f3 (by simp)).reader hrr htr (by omega)
  have er3:w3.cell? ⟨ge,0,none⟩=some er:=f3.cell (f2.cell her (.cons (.inl (fun h=>hgp h.symm)) .nil)) .nil
  have thp3:w3.there pb 0 (1+Ty.sizes tys):=f23.there ht
  refine wT fun K6 hK6=>?_
  rw[wCo,wMw,eTm,(kk3.get 0 (by omega)).trans q0,wCo]
  refine wp_calls (R:=fun x w'=>Rep w' (Foot sb w3.heap.size w'.heap.size) (.int .i16) [x] (gNum .i16 2 ⟨xs,nl,false⟩).1∧RW w' rb sb (gNum .i16 2 ⟨xs,nl,false⟩).2∧Fr [⟨rb,0,2⟩] w3 w') h16.enters (vs:=#[.pointer (some ⟨rb,0,none⟩)]) (by simp only[List.map_toArray,List.map_cons,List.map_nil,eTm];rw[gR,g3]) (h16.call w3 rb sb ⟨xs,nl,false⟩ hrw3) ?_
  rintro xv w7 ⟨⟨ver,hxv,hver7,hv1,hv2⟩,hrw7,f7⟩
  obtain rfl:xv = .int .i16 ver:=by simpa using hxv
  have hvr:(rdNum .i16 2 ⟨xs,nl,false⟩).1=ver:=by simpa [gNum] using hver7
  have hst7:(gNum .i16 2 ⟨xs,nl,false⟩).2=(rdNum .i16 2 ⟨xs,nl,false⟩).2:=rfl
  rw[hst7] at hrw7
  have f7s:=f7.size
  refine wC (wNc (q:=⟨pb,0,none⟩) (by rw[eTm,gR,gQ]) ?_)
  refine wC (wFa (b:=pb) (i:=0) hS (by rw[eTm,gQ]) ?_)
  refine wC (wp_store hT16 (b:=pb) (o:=0+0) (v:=.int .i16 ver) (by rw[eTm,gQ]) (by rw[eTm,gR,gR,gQ]) rfl (there_part (f7.there thp3) (by omega) (by omega)) ?_)
  rw[pNo,wNi]
  have f8:=Fr.set w7 pb 0 (.int .i16 ver)
  have hc8:(w7.setCell ⟨pb,0,none⟩ (.int .i16 ver)).cell? ⟨pb,0,none⟩=some (.int .i16 ver):=range_set (there_part (f7.there thp3) (by omega) (by omega))
  rw[show 0+0=0 from rfl]
  generalize w7.setCell ⟨pb,0,none⟩ (.int .i16 ver)=w8 at f8 hc8 ⊢
  have f8s:=f8.size
  generalize ha6:(((a3.put (some n5) (.pointer (some ⟨pb,0,none⟩))).put (some (n5+1)) (.int .i16 ver)).put (some (n5+2)) (.pointer (some ⟨pb,0,none⟩))).put (some (n5+3)) (.pointer (some ⟨pb,0,none⟩))=a6
  have k6:Kept tv a3 a6:=by subst ha6;exact (((Kept.put0 (by omega) _).put (by omega) _).put (by omega) _).put (by omega) _
  have hs6:=k6.size
  refine hK6 a6 w8 (tUp ?_)
  have f38:Fr [⟨rb,0,2⟩,⟨pb,0,0+1⟩] w3 w8:=(f7.mono (by intro r hr;simp at hr;subst hr;exact .inr ⟨_,List.mem_cons_self,rfl,Nat.le_refl _,Nat.le_refl _⟩)).trans f8 (by intro r hr;simp at hr;subst hr;exact .inr ⟨⟨pb,0,1⟩,by simp,rfl,by simp,by simp⟩)
  have hz38:w8.rangeAt pb 1 c2:=f38.range (f3.range hz3.2 .nil) (.cons (.inl (by simp only;omega)) (.cons (.inr (.inr (by simp))) .nil))
  have ver3:=hc8
  refine tId (wp_seq_k fun K4 hK4=>?_)
  refine r_load (m:=tv) (pb:=pb) (po:=0) ((k6.get _ (by omega)).trans ((kk3.get _ (by omega)).trans q0)) hTv hS ver3 (by omega) (by omega) (by omega) (by omega) (Nat.le_refl _) fun a4 k4 g4=>hK4 a4 w8 (tUp ?_)
  have hs4:=k4.size
  have hrw:RW w8 rb sb (rdNum .i16 2 ⟨xs,nl,false⟩).2:=hrw7.kept f8 (by intro r hr;simp at hr;subst hr;exact ⟨by simp only;omega,hps⟩)
  have er8:w8.cell? ⟨ge,0,none⟩=some er:=f38.cell er3 (.cons (.inl (by simp only;omega)) (.cons (.inl (fun h=>hgp h.symm)) .nil))
  have hm:Mem ⟨rb,sb,ver,fl ver,uns,er⟩ pb 0 ge w8 (rdNum .i16 2 ⟨xs,nl,false⟩).2:=⟨hrw,er8,hgp,by simp only;omega,by simp only;omega,hps,by simp only;omega⟩
  have fall:∀ w4,Fr [⟨rb,0,2⟩,⟨pb,1,1+Ty.sizes tys⟩] w8 w4→Fr [⟨pb,0,1+Ty.sizes tys⟩] w w4:=by
    intro w4 h4
    refine Fr.trans (f23.trans f38 (by
      intro r hr;simp at hr
      rcases hr with rfl | rfl
      · exact .inl (by simp only;omega)
      · exact .inr ⟨⟨pb,0,1+Ty.sizes tys⟩,by simp,rfl,by simp,by simp only;omega⟩)) h4 ?_
    intro r hr
    simp at hr
    rcases hr with rfl | rfl
    · exact .inl (by simp only;omega)
    · exact .inr ⟨⟨pb,0,1+Ty.sizes tys⟩,by simp,rfl,by simp,by simp⟩
  refine hcv ⟨rb,sb,ver,fl ver,uns,er⟩ pb _ a4 w8 (rdNum .i16 2 ⟨xs,nl,false⟩).2 (by rw[k4.size,k6.size,k3.size,k2.size,k1.size,hsz]) (by rw[k4.defers,k6.defers,k3.defers,k2.defers,k1.defers,hd0]) ((k4.get _ b3).trans ((k6.get _ b3).trans g3))
    ((k4.get _ (by omega)).trans ((k6.get _ (by omega)).trans ((kk3.get _ (by omega)).trans q0))) ((k4.get _ (by omega)).trans ((k6.get _ (by omega)).trans ((kk3.get _ (by omega)).trans q2))) g4 rfl hm (there_part (f38.there thp3) (by omega) (by omega)) ⟨c2,hz38,Reps.kept (f3.nil.tr f38) (fun _ _ h=>h) (fun _ h=>h) hr2⟩ ?_ ?_
  · intro a5 w5 ys st' hg hN5 hd5 hr5 hfr ⟨z5, hz5, hr6⟩
    refine ⟨hd5,_,results_one hres,?_⟩
    refine ⟨fall w5 hfr,?_⟩
    simp only[rdVer,hvr,hg]
    cases hbd:st'.bad with
    | true =>
      rw[hbd] at hr5
      simp only[if_true]
      rw[hr5]
      rfl
    | false =>
      rw[hbd] at hr5
      simp only[Bool.false_eq_true,if_false]
      refine ⟨by rw[hr5];rfl,hfr.cell ver3 (.cons (.inl (by simp only;omega)) (.cons (.inr (.inl (by simp))) .nil)),by simp[IntKind.min,IntKind.max,IntKind.signed,IntKind.bits] at hv1 hv2;omega,ys,z5,rfl,hz5,?_⟩
      exact Reps.kept (Fr.refl [] w5) (by simp) (fun b hb=>hb.mono (by omega) (Nat.le_refl _)) hr6
  · intro hg a5 w5 hN5 hd5 hr5 hfr
    refine ⟨hd5,_,results_one hres,?_⟩
    refine ⟨fall w5 hfr,?_⟩
    simp only[rdVer,hvr,hg]
    rw[hr5]
structure ReadDK (P:Program) (ge:Nat) (f:FuncId) (tys:List Ty) (ds:List V) (fl:Int→Bool) (g:Rd):Prop where
  enters:Enters P f
  call:∀ w pb sb srcv xs nl er,w.there pb 0 (1+Ty.sizes tys)→w.cell? ⟨pb,0,none⟩=some (.int .i16 0)→(∃ z,w.rangeAt pb 1 z∧Reps w NoFoot tys z ds)→Src w sb srcv xs nl →
    w.cell? ⟨ge,0,none⟩=some er→ge ≠ pb→pb ≠ sb→sb < w.heap.size →
    Calls P f #[.pointer (some ⟨pb,0,none⟩),srcv] w fun e w'=>∃ v,e = .returned v∧Fr [⟨pb,0,1+Ty.sizes tys⟩] w w' ∧
      match rdVer g fl ⟨xs,nl,false⟩ with
      | none=>v=er
      | some (ver,x,st')=>if st'.bad then v=er else v = .nilIface∧w'.cell? ⟨pb,0,none⟩=some (.int .i16 ver)∧(-32768≤ver∧ver≤32767)∧∃ ys z,x = .l ys∧w'.rangeAt pb 1 z∧Reps w' (Foot sb w.heap.size w'.heap.size) tys z ys
theorem read_dk {P:Program} {ge:Nat} {f fr:FuncId} {fn:Func} {uns:Bool} {tys:List Ty} {ds:List V} {fl:Int→Bool} {g:Rd} {i0 i1:Nat} {ats:Array TypeId} {t0 t1 t2 t3 t4:TypeId} {p0 p1 p2 p3 p4:String} {e0 e1 e2 e3 e4:Array Edge}
    (hr:ReadK P ge fr tys ds fl g) (hf:P.funcs[f]?=some fn) (hname:(fn.name == "runtime.NumGoroutine")=false) (hres:fn.results = #[.tmp 4]) (hN:fn.ntmps=8)
    (hbody:fn.body=some (.seq (Code.region i0 ⟨[⟨some 4,.assign (.const .nilIface),t0,p0,e0,none⟩]⟩ false)
      (.seq (Code.region i1 ⟨[⟨some 5,.move (.tmp 0),t1,p1,e1,none⟩,⟨some 6,.move (.tmp 1),t2,p2,e2,none⟩,⟨some 7,.call ⟨.value (.func fr),#[.tmp 5,.tmp 6,.const (.bool uns)],ats⟩,t3,p3,e3,none⟩,⟨some 4,.assign (.tmp 7),t4,p4,e4,none⟩]⟩ false) .ret))):ReadDK P ge f tys ds fl g:=by
  refine ⟨enters_of hf hname hbody,?_⟩
  intro w pb sb srcv xs nl er h1 h4 h5 h6 h7 h8 h9 h10
  have hc:=hr.call w pb sb uns srcv xs nl er h1 h4 h5 h6 h7 h8 h9 h10
  refine read_m hf hname hres hN hbody hr.enters (hc.mono ?_)
  rintro e w' ⟨hF,hm⟩
  cases hg:rdVer g fl ⟨xs,nl,false⟩ with
  | none=>rw[hg] at hm;exact ⟨er,hm,hF,by simp⟩
  | some y =>
    obtain ⟨ver,x,st'⟩:=y
    rw[hg] at hm
    simp only at hm
    by_cases hb:st'.bad
    · rw[if_pos hb] at hm;exact ⟨er,hm,hF,by simp[hb]⟩
    · rw [if_neg hb] at hm
      obtain ⟨rfl,h11,h12⟩:=hm
      exact ⟨.nilIface,rfl,hF,by simp only[hb];exact ⟨trivial,h11,h12⟩⟩
structure NewVM (P:Program) (f:FuncId) (tys:List Ty) (ds:List V):Prop where
  enters:Enters P f
  call:∀ w,Calls P f #[] w fun e w'=>∃ z:List Value,e = .returned (.agg z.toArray)∧Fr [] w w'∧Reps w' NoFoot tys z ds
theorem new_v {P:Program} {f fd:FuncId} {fn:Func} {TM:TypeId} {tys:List Ty} {d:List V→List V} {zs:List Value} {i0 i1 i2 i3:Nat} {ats:Array TypeId}
    {t0 t1 t2 t3 t4:TypeId} {p0 p1 p2 p3 p4:String} {e0 e1 e2 e3 e4:Array Edge} (hf:P.funcs[f]?=some fn) (hname:(fn.name == "runtime.NumGoroutine")=false) (hres:fn.results = #[.cell 0 TM]) (hN:fn.ntmps=4)
    (hbody:fn.body=some (.seq (Code.region i0 ⟨[⟨some 0,.alloc TM,t0,p0,e0,none⟩]⟩ false)
      (.seq (Code.region i1 ⟨[⟨some 1,.alloc TM,t1,p1,e1,none⟩]⟩ false)
      (.seq (Code.region i2 ⟨[⟨some 2,.call ⟨.value (.func fd),#[.tmp 1],ats⟩,t2,p2,e2,none⟩]⟩ false)
      (.seq (Code.region i3 ⟨[⟨some 3,.load TM (.tmp 1),t3,p3,e3,none⟩,⟨none,.store TM (.tmp 0) (.tmp 3),t4,p4,e4,none⟩]⟩ false) .ret)))))
    (hX:Flat P TM zs) (hzr:∀ w,Reps w NoFoot tys zs (Ty.zvs tys)) (hones:∀ (w:World) (cs:List Value) (ys:List V),Reps w NoFoot tys cs ys→∀ u ∈ cs,u.oneCell'=true) (hd:DefM P fd tys d):NewVM P f tys (d (Ty.zvs tys)):=by
  refine ⟨enters_of hf hname hbody,fun w=>?_⟩
  refine calls_of_wp hf hbody ?_
  generalize ha0:({ tmps:=#[]++Array.replicate (fn.ntmps - #[].size) undef,defers:=[] }:Act)=a0
  have hsz:a0.tmps.size=4:=by subst ha0;simp[hN]
  have hd0:a0.defers=[]:=by subst ha0;rfl
  have hzl:zs.length=Ty.sizes tys:=(hzr w).length
  refine wT fun K1 hK1=>?_
  refine wC (wp_alloc hX.zero ?_)
  rw[wNi]
  have fa:=Fr.alloc [] w (.cells (Value.agg zs.toArray).cells TM)
  have tha:(w.alloc (.cells (Value.agg zs.toArray).cells TM)).there w.heap.size 0 zs.length:=by have:=there_new w (Value.agg zs.toArray).cells TM;simpa [Value.cells] using this
  have sza:=size_alloc w (.cells (Value.agg zs.toArray).cells TM)
  generalize w.alloc (.cells (Value.agg zs.toArray).cells TM)=w1 at fa tha sza ⊢
  have q0:get (a0.put (some 0) (.pointer (some ⟨w.heap.size,0,none⟩))) 0 = .pointer (some ⟨w.heap.size,0,none⟩):=gQ
  have hz1:(a0.put (some 0) (.pointer (some ⟨w.heap.size,0,none⟩))).tmps.size=4:=by simp only[sPu];exact hsz
  have hd1:(a0.put (some 0) (.pointer (some ⟨w.heap.size,0,none⟩))).defers=[]:=by simp only[dPu];exact hd0
  generalize a0.put (some 0) (.pointer (some ⟨w.heap.size,0,none⟩))=a1 at q0 hz1 hd1 ⊢
  refine hK1 a1 w1 (tUp ?_)
  refine wT fun K2 hK2=>?_
  refine wC (wp_alloc hX.zero ?_)
  rw[wNi]
  have fb:=Fr.alloc [] w1 (.cells (Value.agg zs.toArray).cells TM)
  have thb:(w1.alloc (.cells (Value.agg zs.toArray).cells TM)).there w1.heap.size 0 zs.length:=by have:=there_new w1 (Value.agg zs.toArray).cells TM;simpa [Value.cells] using this
  have rb:(w1.alloc (.cells (Value.agg zs.toArray).cells TM)).rangeAt w1.heap.size 0 zs:=by have:=range_new w1 (Value.agg zs.toArray).cells TM (0,0);simpa [Value.cells] using this
  have szb:=size_alloc w1 (.cells (Value.agg zs.toArray).cells TM)
  generalize w1.alloc (.cells (Value.agg zs.toArray).cells TM)=w2 at fb thb rb szb ⊢
  refine hK2 _ w2 (tUp ?_)
  refine wT fun K3 hK3=>?_
  rw[wCo]
  refine wp_calls (R:=fun _ w'=>(∃ z',w'.rangeAt w1.heap.size 0 z'∧Reps w' NoFoot tys z' (d (Ty.zvs tys)))∧Fr [⟨w1.heap.size,0,0+zs.length⟩] w2 w') hd.enters (vs:=#[.pointer (some ⟨w1.heap.size,0,none⟩)]) (by simp only[List.map_toArray,List.map_cons,List.map_nil,eTm];rw[gQ])
    ((hd.call w2 w1.heap.size 0 _ _ rb thb (hzr w2)).mono (by rintro e' w' ⟨x,h1,h2,h3⟩;exact ⟨x,h1,h2,h3⟩)) ?_
  rintro x w3 ⟨⟨z',hz',hr'⟩,f3⟩
  rw[wNi]
  have hz3:=f3.size
  have hzl':z'.length=Ty.sizes tys:=hr'.length
  refine hK3 _ w3 (tUp ?_)
  refine wT fun K4 hK4=>?_
  refine wC (wp_loadFlat hX (b:=w1.heap.size) (o:=0) (cs:=z') (by omega) (by rw[eTm,gR,gQ]) hz' ?_)
  rw[wCo]
  have th3:w3.there w.heap.size 0 z'.length:=by rw[hzl',← hzl];exact f3.there (fb.there tha)
  refine wp_storeFlat hX (b:=w.heap.size) (o:=0) (cs:=z') (by omega) (by rw[eTm,gR,gR,gR,q0]) (by rw[eTm,gQ]) (hones _ _ _ hr') th3 ?_
  rw[pNo,wNi]
  have f4:=Fr.sets w.heap.size z' w3 0
  have r4:=World.rangeAt_setCells_same w3 w.heap.size 0 z' th3
  refine hK4 _ _ (wp_ret ?_)
  refine ⟨by simp only[dPu];exact hd1,_,results_cell hres hX (by omega) (by rw[gR,gR,gR,q0]) r4,z',rfl,?_,hr'.kept f4 (fun _ _ h=>h) (fun _ h=>h)⟩
  refine ((fa.tr fb).trans f3 (by intro r hr;simp at hr;subst hr;exact .inl (by simp only;omega))).trans f4 (by intro r hr;simp at hr;subst hr;exact .inl (Nat.le_refl _))
def T.setN (v:Int):T→T | .mk _ s nl l u=>.mk v s nl l u
def doorResK (g:Rd) (fl:Int→Bool) (tell:V→T) (xs:List UInt8):T × Bool :=
  match rdVer g fl ⟨xs,xs.isEmpty,false⟩ with
  | none=>(.zero,false)
  | some (ver,x,st)=>if st.bad then (.zero,false) else ((tell (consV (.n ver) x)).setN ver,true)
structure DoorK (P:Program) (ge:Nat) (f:FuncId) (res:List UInt8→T × Bool):Prop where
  enters:Enters P f
  call:∀ w A v xs er ty u,OctE w A v xs→xs.length≤4294967296→w.cell? ⟨ge,0,none⟩=some er→er = .iface ty u →
    Calls P f #[v] w fun e w'=>∃ cs:List Value,e = .returned (.tuple #[.agg cs.toArray,.bool (res xs).2])∧Fr [] w w'∧RepT w' (From w.heap.size w') cs (res xs).1
set_option maxRecDepth 10000 in
theorem door_k {P:Program} {ge fd:Nat} {fn:Func} {tys:List Ty} {ds:List V} {fl:Int→Bool} {g:Rd} {tell:V→T} {zs:List Value}
    {T22 T27 T48 T2 T56 T75 te:TypeId} {f22 f25 f26:FuncId} {b0 b2 b3:Array TypeId} {i0 i1 i2 i3 i4 i5 i6:Nat}
    {t0 t1 t2 t3 t4 t5 t6 t7 t8 t9 t10 t11 t12 t13 t14 t15 t16 t17 t18 t19 t20 t21 t22:TypeId} {p0 p1 p2 p3 p4 p5 p6 p7 p8 p9 p10 p11 p12 p13 p14 p15 p16 p17 p18 p19 p20 p21 p22:String} {e0 e1 e2 e3 e4 e5 e6 e7 e8 e9 e10 e11 e12 e13 e14 e15 e16 e17 e18 e19 e20 e21 e22:Array Edge}
    (hf:P.funcs[fd]?=some fn) (hname:(fn.name == "runtime.NumGoroutine")=false) (hres:fn.results = #[.cell 2 T27,.tmp 3]) (hN:fn.ntmps=18)
    (hbody:fn.body=some (.seq (Code.region i0 ⟨[⟨some 2,.alloc T27,t0,p0,e0,none⟩,⟨some 3,.assign (.const (.bool false)),t1,p1,e1,none⟩]⟩ false)
  (.seq (Code.region i1 ⟨[⟨some 6,.call ⟨.value (.func f22),#[],b0⟩,t2,p2,e2,none⟩,⟨some 4,.alloc T75,t3,p3,e3,none⟩,⟨none,.store T75 (.tmp 4) (.tmp 6),t4,p4,e4,none⟩]⟩ false)
  (.seq (.seq (Code.region i3 ⟨[⟨some 7,.move (.tmp 0),t9,p9,e9,none⟩,
    ⟨some 8,.call ⟨.builtin .append,#[(.const (.slice none 0 0)),(.tmp 7)],#[T22,T22]⟩,t10,p10,e10,none⟩,
    ⟨some 9,.call ⟨.value (.func f25),#[(.tmp 4),(.tmp 8)],b2⟩,t11,p11,e11,none⟩,
    ⟨some 10,.binOp .neq T56 (.tmp 9) (.const .nilIface) T56,t12,p12,e12,none⟩]⟩ false)
  (.cond (.tmp 10) (.seq (Code.region i4 ⟨[⟨some 11,.build T27 #[],t13,p13,e13,none⟩,
    ⟨none,.store T27 (.tmp 2) (.tmp 11),t14,p14,e14,none⟩,
    ⟨some 3,.assign (.const (.bool false)),t15,p15,e15,none⟩]⟩ false)
  .ret)
  .skip))
  (.seq (Code.region i5 ⟨[⟨some 12,.call ⟨.value (.func f26),#[(.tmp 4)],b3⟩,t17,p17,e17,none⟩,⟨some 5,.alloc T27,t16,p16,e16,none⟩,⟨none,.store T27 (.tmp 5) (.tmp 12),t18,p18,e18,none⟩]⟩ false)
  (.seq (Code.region i2 ⟨[⟨some 13,.fieldAddr T75 (.tmp 4) 0,t5,p5,e5,none⟩,⟨some 14,.load T48 (.tmp 13),t6,p6,e6,none⟩,⟨some 15,.convert T48 T2 (.tmp 14),t7,p7,e7,none⟩,⟨some 16,.fieldAddr T27 (.tmp 5) 0,t8,p8,e8,none⟩,⟨none,.store T2 (.tmp 16) (.tmp 15),t19,p19,e19,none⟩]⟩ false)
  (.seq (Code.region i6 ⟨[⟨some 17,.load T27 (.tmp 5),t20,p20,e20,none⟩,⟨none,.store T27 (.tmp 2) (.tmp 17),t21,p21,e21,none⟩,⟨some 3,.assign (.const (.bool true)),t22,p22,e22,none⟩]⟩ false)
  .ret)))))))
    (hT:Flat P T27 zT) (hX:Flat P T75 zs) (hzl:zs.length=1+Ty.sizes tys) (hs:sliceOf P T22 te 1 1=true) (hz:zeroIs P te [.int .u8 0]) (h48:scal P T48=true) (h48i:intOf P T48 .i16=true) (h2:scal P T2=true) (h2i:intOf P T2 .i64=true) (h56:ifaceTy P T56=true)
    (hones:∀ (w:World) (cs:List Value) (ys:List V),Reps w NoFoot (.int .i16::tys) cs ys→∀ u ∈ cs,u.oneCell'=true)
    (hnew:NewVM P f22 (.int .i16::tys) (.n 0::ds)) (hread:ReadDK P ge f25 tys ds fl g) (htell:TellM P f26 (.st (.int .i16::tys)) tell) :
    DoorK P ge fd (doorResK g fl tell):=by
  refine ⟨enters_of hf hname hbody,?_⟩
  intro w A v xs er ty u hv hxl her hiface
  have hge:=lt_of_cell her
  refine calls_of_wp hf hbody ?_
  generalize ha0:({ tmps:=#[v]++Array.replicate (fn.ntmps - #[v].size) undef,defers:=[] }:Act)=a0
  have hsz:a0.tmps.size=18:=by subst ha0;simp[hN]
  have hd0:a0.defers=[]:=by subst ha0;rfl
  have g0:get a0 0=v:=by subst ha0;exact gAr rfl
  refine wT fun K1 hK1=>?_
  refine wC (wp_alloc hT.zero ?_)
  rw[wCo,wAg,eCo,wNi]
  have f1:=Fr.alloc [] w (.cells (Value.agg zT.toArray).cells T27)
  have th1:(w.alloc (.cells (Value.agg zT.toArray).cells T27)).there w.heap.size 0 5:=there_new w zT.toArray T27
  have sz1:=size_alloc w (.cells (Value.agg zT.toArray).cells T27)
  generalize w.alloc (.cells (Value.agg zT.toArray).cells T27)=w1 at f1 th1 sz1 ⊢
  generalize ha1:(a0.put (some 2) (.pointer (some ⟨w.heap.size,0,none⟩))).put (some 3) (.bool false)=a1
  have k1:Kept 2 a0 a1:=by subst ha1;exact (Kept.put0 (by omega) _).put (by omega) _
  have q2:get a1 2 = .pointer (some ⟨w.heap.size,0,none⟩):=by subst ha1;rw[gR,gQ]
  have hz1:=k1.size
  refine hK1 a1 w1 (tUp ?_)
  refine wT fun K2 hK2=>?_
  rw[wCo]
  refine wp_calls (R:=fun x w'=>∃ z:List Value,x = .agg z.toArray∧Fr [] w1 w'∧Reps w' NoFoot (.int .i16::tys) z (.n 0::ds)) hnew.enters (vs:=#[]) (by simp)
    ((hnew.call w1).mono (by rintro e' w' ⟨z,rfl,h⟩;exact ⟨_,rfl,z,rfl,h⟩)) ?_
  rintro x w2 ⟨z0,rfl,f2,hzs⟩
  have hz0l:z0.length=1+Ty.sizes tys:=hzs.length
  refine wC (wp_alloc hX.zero ?_)
  have fb:=Fr.alloc [] w2 (.cells (Value.agg zs.toArray).cells T75)
  have thb:(w2.alloc (.cells (Value.agg zs.toArray).cells T75)).there w2.heap.size 0 zs.length:=by have:=there_new w2 (Value.agg zs.toArray).cells T75;simpa [Value.cells] using this
  have szb:=size_alloc w2 (.cells (Value.agg zs.toArray).cells T75)
  generalize w2.alloc (.cells (Value.agg zs.toArray).cells T75)=w2a at fb thb szb ⊢
  rw[wCo]
  have thb0:w2a.there w2.heap.size 0 z0.length:=by rw[hz0l,← hzl];exact thb
  refine wp_storeFlat hX (cs:=z0) (b:=w2.heap.size) (o:=0) (by omega) (by rw[eTm,gQ]) (by rw[eTm,gR,gQ]) (hones _ _ _ hzs) thb0 ?_
  rw[pNo,wNi]
  have fst:=Fr.sets w2.heap.size z0 w2a 0
  have rst:=World.rangeAt_setCells_same w2a w2.heap.size 0 z0 thb0
  generalize w2a.setCells w2.heap.size 0 z0=w3 at fst rst ⊢
  have sz2:=f2.size
  have sz3:=fst.size
  generalize ha3:(a1.put (some 6) (.agg z0.toArray)).put (some 4) (.pointer (some ⟨w2.heap.size,0,none⟩))=a3
  have k3:Kept 4 a1 a3:=by subst ha3;exact (Kept.put0 (by omega) _).put (by omega) _
  have q4:get a3 4 = .pointer (some ⟨w2.heap.size,0,none⟩):=by subst ha3;exact gQ
  have hz3:=k3.size
  have hzs3:Reps w3 NoFoot (.int .i16::tys) z0 (.n 0::ds):=(hzs.kept fb (fun _ _ h=>h) (fun _ h=>h)).kept fst (fun _ _ h=>h) (fun _ h=>h)
  have hth3:w3.there w2.heap.size 0 (1+Ty.sizes tys):=by rw[← hzl];exact fst.there thb
  obtain ⟨c1,c2,x1,r1,rfl,hx1,hr1,hr2⟩:=hzs3
  obtain ⟨rfl,rfl⟩:=List.cons.inj hx1
  obtain ⟨i,rfl,hi0,_⟩:=hr1
  obtain rfl:(0:Int)=i:=by simpa using hi0
  have hcr:=range_cons.1 (show w3.rangeAt w2.heap.size 0 (.int .i16 0::c2) from rst)
  have f03:Fr [] w w3:=by
    refine (f1.tr (f2.tr fb)).trans fst ?_
    intro r hr;simp at hr;subst hr;exact .inl (by simp only;omega)
  have th3:w3.there w.heap.size 0 5:=fst.there (fb.there (f2.there th1))
  generalize hpbv:w2.heap.size=pb at *
  refine hK2 a3 w3 (tUp ?_)
  refine tId (wp_seq_k fun K4 hK4=>?_)
  refine wS fun K5 hK5=>?_
  rw[wCo,wMw,eTm,k3.get 0 (by omega),k1.get 0 (by omega),g0,wCo]
  refine wp_copySrc (xs:=xs) (A:=A) (v:=v) hs hz (by rw[eTm,gQ]) (hv.kept f03 (by simp) (fun _ h=>h)) (by omega) ?_
  intro v' w4 sb' f4 hsb1 hsb2 hsrc'
  rw[wCo]
  have sz4:=f4.size
  obtain ⟨sb,hsbp,hsbl,hsrc,hsbo⟩:∃ sb,pb ≠ sb∧sb < w4.heap.size∧Src w4 sb v' xs xs.isEmpty∧w.heap.size≤sb:=by
    by_cases hx:xs=[]
    · subst hx
      refine ⟨w.heap.size,by omega,by omega,?_,Nat.le_refl _⟩
      rcases hsrc' with h | ⟨h,_⟩
      · exact .inl h
      · simp at h
    · exact ⟨sb',by omega,hsb2 hx,hsrc',by omega⟩
  have her4:w4.cell? ⟨ge,0,none⟩=some er:=f4.cell (f03.cell her .nil) .nil
  refine wp_calls hread.enters (vs:=#[.pointer (some ⟨pb,0,none⟩),v'])
    (by
      simp only[List.map_toArray,List.map_cons,List.map_nil,eTm]
      rw[gR,gR,q4,gQ])
    (hread.call w4 pb sb v' xs xs.isEmpty er (f4.there hth3) (f4.cell hcr.1 .nil) ⟨c2,f4.range hcr.2 .nil,Reps.kept f4 (by simp) (fun _ h=>h) hr2⟩ hsrc her4 (by omega) hsbp hsbl) ?_
  rintro rv w5 ⟨f5,hm⟩
  rw[wCo]
  have f05:Fr [] w w5:=by
    refine f03.trans (Fr.trans (l':=[⟨pb,0,1+Ty.sizes tys⟩]) (l:=[⟨pb,0,1+Ty.sizes tys⟩]) (f4.nil (l:=_)) f5 (fun _ h=>Rng.in_self h)) ?_
    intro r hr;simp at hr;subst hr;exact .inl (by simp only;omega)
  have th5:w5.there w.heap.size 0 5:=f5.there (f4.there th3)
  have sz5:=f5.size
  have hpb5:pb < w5.heap.size:=by omega
  obtain ⟨b,hbv,hbt,hbf⟩:∃ b,ErrIs rv b∧(b=true→doorResK g fl tell xs=(.zero,false)) ∧
      (b=false→∃ ver ys z,(-32768≤ver∧ver≤32767)∧w5.cell? ⟨pb,0,none⟩=some (.int .i16 ver)∧doorResK g fl tell xs=((tell (.l (.n ver::ys))).setN ver,true)∧w5.rangeAt pb 1 z∧Reps w5 (Foot sb w4.heap.size w5.heap.size) tys z ys):=by
    subst hiface
    unfold doorResK
    cases hg:rdVer g fl ⟨xs,xs.isEmpty,false⟩ with
    | none=>rw[hg] at hm;simp only at hm;subst hm;exact ⟨true,.yes _ _,by simp,by simp⟩
    | some y =>
      obtain ⟨ver,x,st'⟩:=y
      rw[hg] at hm
      simp only at hm
      by_cases hb:st'.bad
      · rw[if_pos hb] at hm;subst hm;exact ⟨true,.yes _ _,by simp[hb],by simp⟩
      · rw [if_neg hb] at hm
        obtain ⟨rfl,h11,h13,ys,z,rfl,h12⟩:=hm
        exact ⟨false,.no,by simp,fun _=>⟨ver,ys,z,h13,h11,by simp[hb,consV],h12⟩⟩
  clear hm
  refine wp_neqNil (b:=b) h56 (by rw[eTm,gQ]) hbv ?_
  rw[wNi]
  generalize ha5:((((a3.put (some 7) v).put (some 8) v').put (some 9) rv).put (some 10) (.bool b))=a5
  have k5:Kept 7 a3 a5:=by subst ha5;exact (((Kept.put0 (by omega) _).put (by omega) _).put (by omega) _).put (by omega) _
  have q10:get a5 10 = .bool b:=by subst ha5;exact gQ
  have hz5:=k5.size
  have q2':get a5 2 = .pointer (some ⟨w.heap.size,0,none⟩):=by rw[k5.get 2 (by omega),k3.get 2 (by omega),q2]
  have q4':get a5 4 = .pointer (some ⟨pb,0,none⟩):=by rw[k5.get 4 (by omega),q4]
  have hd5:a5.defers=[]:=by rw[k5.defers,k3.defers,k1.defers,hd0]
  refine hK5 a5 w5 ?_
  refine wp_cond_split (t:=b) (by rw[eTm,q10]) (fun hb=>?_) fun hb=>wp_skip (hK4 a5 w5 (tUp ?_))
  · refine wp_seq_k fun K6 hK6 => ?_
    refine wp_reg ?_
    refine wC (wp_build0 hT ?_)
    refine wC (wp_storeFlat hT (cs:=zT) (b:=w.heap.size) (o:=0) rfl (by rw[eTm,gR,q2']) (by rw[eTm,gQ]) (by simp[zT,Value.oneCell']) th5 ?_)
    rw[pNo,wCo,wAg,eCo,wNi]
    have f6:=Fr.sets w.heap.size zT w5 0
    have r6:=World.rangeAt_setCells_same (w:=w5) w.heap.size 0 zT th5
    refine hK6 _ _ (wp_ret ?_)
    refine ⟨by simp only[dPu];exact hd5,_,results_cell2 hres hT (cs:=zT) rfl (by rw[gR,gR,q2']) r6 (gQ),zT,by rw[hbt hb],?_,by rw[hbt hb];exact repT_zero⟩
    refine f05.trans f6 ?_
    intro r hr;simp at hr;subst hr;exact .inl (Nat.le_refl _)
  · obtain ⟨ver, ys, z, hvr, c5, hres2, hrz, hrs⟩ := hbf hb
    refine wT fun K6 hK6=>?_
    rw[wCo]
    refine wp_calls (R:=fun x w'=>∃ cs:List Value,x = .agg cs.toArray∧Fr [] w5 w'∧RepT w' (From w5.heap.size w') cs (tell (.l (.n ver::ys)))) htell.enters (vs:=#[.pointer (some ⟨pb,0,none⟩)]) (by simp only[List.map_toArray,List.map_cons,List.map_nil,eTm];rw[q4'])
      ((htell.call w5 pb 0 (.int .i16 ver::z) (.l (.n ver::ys)) (Foot sb w4.heap.size w5.heap.size) (range_cons.2 ⟨c5,hrz⟩)
        ⟨_,rfl,[.int .i16 ver],z,.n ver,ys,rfl,rfl,⟨ver,rfl,rfl,by simp[IntKind.min,IntKind.signed,IntKind.bits];omega,by simp[IntKind.max,IntKind.signed,IntKind.bits];omega⟩,hrs⟩
        (by rintro b' (rfl | h) <;> omega) hpb5).mono (by rintro e' w' ⟨cs,rfl,h⟩;exact ⟨_,rfl,cs,rfl,h⟩)) ?_
    rintro x w6 ⟨cs,rfl,f6,hrt⟩
    have hcl:=hrt.length
    have sz6:=f6.size
    refine wC (wp_alloc hT.zero ?_)
    have f7:=Fr.alloc [] w6 (.cells (Value.agg zT.toArray).cells T27)
    have th7:(w6.alloc (.cells (Value.agg zT.toArray).cells T27)).there w6.heap.size 0 5:=there_new w6 zT.toArray T27
    have sz7:=size_alloc w6 (.cells (Value.agg zT.toArray).cells T27)
    generalize w6.alloc (.cells (Value.agg zT.toArray).cells T27)=w7 at f7 th7 sz7 ⊢
    rw[wCo]
    have th7':w7.there w6.heap.size 0 cs.length:=by rw[hcl];exact th7
    refine wp_storeFlat hT (cs:=cs) (b:=w6.heap.size) (o:=0) hcl (by rw[eTm,gQ]) (by rw[eTm,gR,gQ]) hrt.ones th7' ?_
    rw[pNo,wNi]
    have f8:=Fr.sets w6.heap.size cs w7 0
    have r8:=World.rangeAt_setCells_same (w:=w7) w6.heap.size 0 cs th7'
    generalize w7.setCells w6.heap.size 0 cs=w8 at f8 r8 ⊢
    have sz8:=f8.size
    generalize ha8:((a5.put (some 12) (.agg cs.toArray)).put (some 5) (.pointer (some ⟨w6.heap.size,0,none⟩)))=a8
    have q5:get a8 5 = .pointer (some ⟨w6.heap.size,0,none⟩):=by subst ha8;exact gQ
    have q48:get a8 4 = .pointer (some ⟨pb,0,none⟩):=by subst ha8;rw[gR,gR,q4']
    have q28:get a8 2 = .pointer (some ⟨w.heap.size,0,none⟩):=by subst ha8;rw[gR,gR,q2']
    have hz8:a8.tmps.size=18:=by subst ha8;simp only[sPu];omega
    have hd8:a8.defers=[]:=by subst ha8;simp only[dPu];exact hd5
    have f58:Fr [] w5 w8:=(f6.tr f7).trans f8 (by intro r hr;simp at hr;subst hr;exact .inl (by simp only;omega))
    refine hK6 a8 w8 (tUp ?_)
    refine wT fun K7 hK7=>?_
    rw[wCo]
    have hF75:fieldOf P T75 0 0=true:=hX.field (by omega)
    refine wFa (b:=pb) (i:=0) hF75 (by rw[eTm,q48]) ?_
    refine wC (wp_load h48 (b:=pb) (o:=0+0) (by rw[eTm,gQ]) (f58.cell c5 .nil) ?_)
    refine wC (wCv (k1:=.i16) (i:=ver) h48i h2i (by rw[eTm,gQ]) ?_)
    have hwr:IntKind.i64.wrap ver=ver:=by rw[IntKind.wrap_i64];omega
    rw[hwr,wCo]
    refine wFa (b:=w6.heap.size) (i:=0) (hT.field (k:=0) (by decide)) (by rw[eTm,gR,gR,gR,q5]) ?_
    rw[wCo]
    have th8:w8.there w6.heap.size 0 cs.length:=f8.there th7'
    refine wp_store h2 (b:=w6.heap.size) (o:=0+0) (v:=.int .i64 ver) (by rw[eTm,gQ]) (by rw[eTm,gR,gQ]) rfl (there_part th8 (by omega) (by omega)) ?_
    rw[pNo,wNi]
    have f9:=Fr.set w8 w6.heap.size (0+0) (.int .i64 ver)
    have r9:=range_setAt (o:=0) (i:=0) (v:=.int .i64 ver) r8 th8 (by omega)
    generalize w8.setCell ⟨w6.heap.size,0+0,none⟩ (.int .i64 ver)=w9 at f9 r9 ⊢
    have sz9:=f9.size
    have hrt9:RepT w9 (From w5.heap.size w6) cs (tell (.l (.n ver::ys))):=(((hrt.kept f7 (by simp) (fun _ h=>h)).kept f8 (by intro r hr hA;simp at hr;subst hr;have:=hA.2;simp only at this;omega) (fun _ h=>h))).kept f9 (by intro r hr hA;simp at hr;subst hr;have:=hA.2;simp only at this;omega) (fun _ h=>h)
    have hset:RepT w9 (From w5.heap.size w6) (cs.set 0 (.int .i64 ver)) ((tell (.l (.n ver::ys))).setN ver):=by
      generalize tell (.l (.n ver::ys))=tt at hrt9
      cases tt with
      | mk n s nl l u =>
        obtain ⟨sv,lv,uv,rfl,_,h1,h2,h3⟩:=repT_iff.1 hrt9
        exact repT_iff.2 ⟨sv,lv,uv,rfl,by omega,h1,h2,h3⟩
    generalize ha9:((((a8.put (some 13) (.pointer (some ⟨pb,0+0,none⟩))).put (some 14) (.int .i16 ver)).put (some 15) (.int .i64 ver)).put (some 16) (.pointer (some ⟨w6.heap.size,0+0,none⟩)))=a9
    have k9:Kept 13 a8 a9:=by subst ha9;exact (((Kept.put0 (by omega) _).put (by omega) _).put (by omega) _).put (by omega) _
    have hz9:=k9.size
    refine hK7 a9 w9 (tUp ?_)
    refine wT fun K8 hK8=>?_
    have hcl9:(cs.set 0 (.int .i64 ver)).length=zT.length:=by rw[List.length_set];exact hcl
    refine wC (wp_loadFlat hT (b:=w6.heap.size) (o:=0) (cs:=cs.set 0 (.int .i64 ver)) hcl9 (by rw[eTm,k9.get 5 (by omega),q5]) r9 ?_)
    rw[wCo]
    have th9:w9.there w.heap.size 0 (cs.set 0 (.int .i64 ver)).length:=by rw[hcl9];exact f9.there (f58.there th5)
    refine wp_storeFlat hT (cs:=cs.set 0 (.int .i64 ver)) (b:=w.heap.size) (o:=0) hcl9 (by rw[eTm,gR,k9.get 2 (by omega),q28]) (by rw[eTm,gQ]) hset.ones th9 ?_
    rw[pNo,wCo,wAg,eCo,wNi]
    have f10:=Fr.sets w.heap.size (cs.set 0 (.int .i64 ver)) w9 0
    have r10:=World.rangeAt_setCells_same (w:=w9) w.heap.size 0 (cs.set 0 (.int .i64 ver)) th9
    have sz10:=f10.size
    refine hK8 _ _ (wp_ret ?_)
    refine ⟨by simp only[dPu];rw[k9.defers,hd8],_,results_cell2 hres hT hcl9 (by rw[gR,gR,k9.get 2 (by omega),q28]) r10 (gQ),cs.set 0 (.int .i64 ver),by rw[hres2],?_,?_⟩
    · refine ((f05.tr f58).trans f9 ?_).trans f10 ?_
      · intro r hr;simp at hr;subst hr;exact .inl (by simp only;omega)
      · intro r hr;simp at hr;subst hr;exact .inl (Nat.le_refl _)
    · rw [hres2]
      refine hset.kept f10 ?_ ?_
      · intro r hr;simp at hr;subst hr;intro hb';have:=hb'.1;simp only at this;omega
      · intro b hb;exact ⟨by have:=hb.1;omega,by have:=hb.2;omega⟩
end Go.Kq

namespace Go.Kq
open Go Go.Proofs
theorem reps_ones {w:World} {A:Nat→Prop}:∀ {tys:List Ty} {cs:List Value} {ys:List V},tys.all Ty.one=true→Reps w A tys cs ys→∀ u ∈ cs,u.oneCell'=true
  | [],cs,ys,_,h,u,hu=>by obtain ⟨rfl,_⟩:=h;simp at hu
  | t :: ts, cs, ys, ho, h, u, hu => by
    obtain ⟨c1,c2,y,r,rfl,rfl,h2,h3⟩:=h
    simp only[List.all_cons,Bool.and_eq_true] at ho
    have hl:=h2.length
    rw[Ty.one_size ho.1] at hl
    obtain ⟨v,rfl⟩:=List.length_eq_one_iff.1 hl
    rcases List.mem_append.1 hu with hu | hu
    · simp at hu;subst hu;exact h2.oneCell ho.1
    · exact reps_ones ho.2 h3 u hu
end Go.Kq

namespace Go.Kq
open Go Go.Proofs
set_option maxRecDepth 10000 in
theorem lawtk_m {P:Program} {f:FuncId} {fn:Func} {T2 T3 T4 T5 T26 T28 T30 T35:TypeId} {f5 f6 f7 f8 f9 f10 f11:FuncId} {ct0:Array TypeId} {ct1:Array TypeId} {ct2:Array TypeId} {ct3:Array TypeId} {ct4:Array TypeId} {ct5:Array TypeId} {ct6:Array TypeId} {i0 i1 i2 i3 i4 i5:Nat} {t0 t1 t2 t3 t4 t5 t6 t7 t8 t9 t10 t11 t12 t13 t14 t15 t16 t17 t18 t19 t20 t21 t22 t23 t24 t25 t26 t27 t28 t29 t30 t31 t32 t33 t34 t35 t36 t37 t38 t39 t40 t41 t42 t43:TypeId} {p0 p1 p2 p3 p4 p5 p6 p7 p8 p9 p10 p11 p12 p13 p14 p15 p16 p17 p18 p19 p20 p21 p22 p23 p24 p25 p26 p27 p28 p29 p30 p31 p32 p33 p34 p35 p36 p37 p38 p39 p40 p41 p42 p43:String} {e0 e1 e2 e3 e4 e5 e6 e7 e8 e9 e10 e11 e12 e13 e14 e15 e16 e17 e18 e19 e20 e21 e22 e23 e24 e25 e26 e27 e28 e29 e30 e31 e32 e33 e34 e35 e36 e37 e38 e39 e40 e41 e42 e43:Array Edge} {ge:Nat} {fx:Int} {fs:List Fd} {enc:Int→Bool→T→List UInt8} {res:List UInt8→T × Bool} {R:Int→Bool→T→T→Prop} {small:T→Prop}
    (hf:P.funcs[f]?=some fn) (hname:(fn.name == "runtime.NumGoroutine")=false) (hres':fn.results = #[.tmp 4]) (hN:fn.ntmps=43)
    (hbody:fn.body=some (.seq (Code.region i0 ⟨[⟨some 3,.box T26 (.tmp 1),t0,p0,e0,none⟩,
    ⟨some 4,.assign (.const (.bool false)),t1,p1,e1,none⟩]⟩ false)
  (.seq (.seq (Code.region i1 ⟨[⟨some 9,.load T26 (.tmp 3),t2,p2,e2,none⟩,
    ⟨some 10,.call ⟨.value (.func f5),#[(.tmp 9)],ct0⟩,t3,p3,e3,none⟩,
    ⟨some 11,.unOp .not T4 (.tmp 10),t4,p4,e4,none⟩]⟩ false)
  (.cond (.tmp 11) (.seq (Code.region i2 ⟨[⟨some 4,.assign (.const (.bool true)),t5,p5,e5,none⟩]⟩ false)
  .ret)
  .skip))
  (.seq (Code.region i3 ⟨[⟨some 12,.call ⟨.value (.func f6),#[],ct1⟩,t6,p6,e6,none⟩,
    ⟨some 13,.move (.tmp 0),t7,p7,e7,none⟩,
    ⟨some 14,.convert T5 T3 (.tmp 13),t8,p8,e8,none⟩,
    ⟨some 15,.binOp .rem T3 (.tmp 14) (.const (.int .i64 1)) T3,t9,p9,e9,none⟩,
    ⟨some 5,.alloc T30,t10,p10,e10,none⟩,
    ⟨none,.store T30 (.tmp 5) (.tmp 12),t11,p11,e11,none⟩,
    ⟨some 6,.assign (.tmp 15),t12,p12,e12,none⟩]⟩ false)
  (.seq (Code.region i4 ⟨[⟨some 17,.load T30 (.tmp 5),t13,p13,e13,none⟩,
    ⟨some 18,.move (.tmp 6),t14,p14,e14,none⟩,
    ⟨some 19,.load T26 (.tmp 3),t15,p15,e15,none⟩,
    ⟨some 20,.call ⟨.value (.func f8),#[(.tmp 17),(.tmp 18),(.tmp 19)],ct2⟩,t16,p16,e16,none⟩,
    ⟨some 21,.call ⟨.value (.func f7),#[(.tmp 20)],ct3⟩,t17,p17,e17,none⟩,
    ⟨some 16,.move (.tmp 21),t18,p18,e18,none⟩,
    ⟨some 22,.extract (.tmp 16) 0,t19,p19,e19,none⟩,
    ⟨some 23,.extract (.tmp 16) 1,t20,p20,e20,none⟩,
    ⟨some 7,.alloc T35,t21,p21,e21,none⟩,
    ⟨none,.store T35 (.tmp 7) (.tmp 22),t22,p22,e22,none⟩,
    ⟨some 8,.assign (.tmp 23),t23,p23,e23,none⟩]⟩ false)
  (.seq (Code.region i5 ⟨[⟨some 24,.move (.tmp 8),t24,p24,e24,none⟩,
    ⟨some 25,.move (.tmp 24),t25,p25,e25,none⟩,
    ⟨some 26,.fieldAddr T35 (.tmp 7) 0,t26,p26,e26,some (1,true)⟩,
    ⟨some 27,.load T2 (.tmp 26),t27,p27,e27,some (1,true)⟩,
    ⟨some 28,.move (.tmp 6),t28,p28,e28,some (1,true)⟩,
    ⟨some 29,.binOp .eql T2 (.tmp 27) (.tmp 28) T2,t29,p29,e29,some (1,true)⟩,
    ⟨some 30,.pick (.tmp 25) (.tmp 29) (.const (.bool false)),t30,p30,e30,none⟩,
    ⟨some 31,.move (.tmp 30),t31,p31,e31,none⟩,
    ⟨some 32,.fieldAddr T30 (.tmp 5) 0,t32,p32,e32,some (7,true)⟩,
    ⟨some 33,.load T28 (.tmp 32),t33,p33,e33,some (7,true)⟩,
    ⟨some 34,.move (.tmp 6),t34,p34,e34,some (7,true)⟩,
    ⟨some 35,.load T30 (.tmp 5),t35,p35,e35,some (7,true)⟩,
    ⟨some 36,.move (.tmp 6),t36,p36,e36,some (7,true)⟩,
    ⟨some 37,.call ⟨.value (.func f10),#[(.tmp 35),(.tmp 36)],ct4⟩,t37,p37,e37,some (7,true)⟩,
    ⟨some 38,.load T26 (.tmp 3),t38,p38,e38,some (7,true)⟩,
    ⟨some 39,.load T35 (.tmp 7),t39,p39,e39,some (7,true)⟩,
    ⟨some 40,.call ⟨.value (.func f11),#[(.tmp 39)],ct5⟩,t40,p40,e40,some (7,true)⟩,
    ⟨some 41,.call ⟨.value (.func f9),#[(.tmp 33),(.tmp 34),(.tmp 37),(.tmp 38),(.tmp 40)],ct6⟩,t41,p41,e41,some (7,true)⟩,
    ⟨some 42,.pick (.tmp 31) (.tmp 41) (.const (.bool false)),t42,p42,e42,none⟩,
    ⟨some 4,.assign (.tmp 42),t43,p43,e43,none⟩]⟩ true)
  .ret))))))
    (hFlT26:Flat P T26 zT) (hT5_u8:intOf P T5 .u8=true) (hT3_i64:intOf P T3 .i64=true) (hFlT30:Flat P T30 zM) (hFlT35:Flat P T35 zT) (hcT2:scal P T2=true) (hcT28:scal P T28=true) (he5:edgeOk 0 [e24,e25,e26,e27,e28,e29,e30,e31,e32,e33,e34,e35,e36,e37,e38,e39,e40,e41,e42,e43] [[],[0],[1],[1,2],[1],[1,3,4],[1,5],[6],[7],[7,8],[7],[7],[7],[7,11,12],[7],[7],[7,15],[7,9,10,13,14,16],[7,17],[0,1,2,3,4,5,6,7,8,9,10,11,12,13,14,15,16,17,18]]=true) (hmx:P.follows .mixedOrders=true) (hFit:FitM P f5) (hSch:SchM P f6 fs fx) (hKp:KeptM P f8 fs enc) (hDoor:DoorK P ge f7 res) (hFlx:FlexM P f10) (hGot:Enters P f11∧∀ t,GotCall P f11 t) (hTold:ToldM P f9 fs R)
    (hplain:∀ t,small t→(enc 0 (decide (fx≥0) && decide ((0:Int)≥fx)) t).length≤2147483648∧(res (fxW 0 2++enc 0 (decide (fx≥0) && decide ((0:Int)≥fx)) t)).2=true∧(res (fxW 0 2++enc 0 (decide (fx≥0) && decide ((0:Int)≥fx)) t)).1.n=0∧R 0 (decide (fx≥0) && decide ((0:Int)≥fx)) t (res (fxW 0 2++enc 0 (decide (fx≥0) && decide ((0:Int)≥fx)) t)).1):LawT P ge f small:=by
  refine ⟨enters_of hf hname hbody,?_⟩
  intro w n B ct t er ty uer hn ht hB her hiface hsm
  cases t with
  | mk tn s nl l u =>
  have ht0:=ht
  obtain ⟨sv,lv,uv,rfl,hn0,hs,hl,hu⟩:=repT_iff.1 ht
  obtain ⟨hlen,hok,hnn,hdf⟩:=hplain _ hsm
  obtain ⟨rt,hrt⟩:∃ x,x=res (fxW 0 2++enc 0 (decide (fx≥0) && decide ((0:Int)≥fx)) (.mk tn s nl l u)):=⟨_,rfl⟩
  rw[← hrt] at hok hnn hdf
  refine calls_of_wp hf hbody ?_
  generalize ha0:({ tmps:=#[Value.int .u8 (n:Int),Value.agg ([.int .i64 tn,sv,.bool nl,lv,uv]:List Value).toArray]++Array.replicate (fn.ntmps - (#[Value.int .u8 (n:Int),Value.agg ([.int .i64 tn,sv,.bool nl,lv,uv]:List Value).toArray]:Array Value).size) undef,defers:=[] }:Act)=a0
  have hz0:a0.tmps.size=43:=by subst ha0;simp[hN]
  have hd0:a0.defers=[]:=by subst ha0;rfl
  have g0_0:get a0 0 = .int .u8 (n:Int):=by subst ha0;exact gAr rfl
  have g0_1:get a0 1 = .agg ([.int .i64 tn,sv,.bool nl,lv,uv]:List Value).toArray:=by subst ha0;exact gAr rfl
  refine wT fun K1 hK1=>?_
  refine wC (wp_boxL (cs:=[.int .i64 tn,sv,.bool nl,lv,uv]) (eK g0_1) ?_)
  rintro w2 f2 sz2 r2 th2
  have hF3:Fr [] w w2:=f2
  refine wC (wAs (v:=.bool false) rfl ?_)
  refine wEn fun a4 ha4=>?_
  have hz4:=kS ha4 hz0
  have hd4:=kD ha4 hd0
  have g4_0:=kP ha4 g0_0
  have g4_3:get a4 3 = .pointer (some ⟨w.heap.size,0,none⟩):=kG ha4 hz0
  refine hK1 a4 w2 (tUp ?_)
  refine tId (wp_seq_k fun K5 hK5=>?_)
  refine wS fun K6 hK6=>?_
  refine wC (wp_loadFlat (cs:=[.int .i64 tn,sv,.bool nl,lv,uv]) (b:=w.heap.size) (o:=0) hFlT26 rfl (eK g4_3) r2 ?_)
  refine wC (wCr (R:=fun vz wz=>(∃ b:Bool,vz = .bool b)∧Fr [] w2 wz) (vs:=#[.agg ([.int .i64 tn,sv,.bool nl,lv,uv]:List Value).toArray]) hFit.enters (mX1 (eS hz4)) ((hFit.call w2 B _ _ (ht0.kept hF3 (by simp) (fun _ h=>h))).mono (by rintro e wz ⟨⟨b,rfl⟩,h⟩;exact ⟨_,rfl,⟨b,rfl⟩,h⟩)) ?_)
  rintro _ w7 ⟨⟨bb,rfl⟩,fr7⟩
  have hF8:Fr [] w w7:=hF3.tr fr7
  have hL8_w2:Fr [] w2 w7:=(Fr.refl [] w2).tr fr7
  have rb9:=fr7.range r2 .nil
  refine wC (wp_not (b:=bb) (eS hz4) ?_)
  refine wEn fun a10 ha10=>?_
  have hz10:=kS ha10 hz4
  have hd10:=kD ha10 hd4
  have g10_0:=kP ha10 g4_0
  have g10_3:=kP ha10 g4_3
  have g10_11:get a10 11 = .bool (!bb):=kG ha10 hz4
  refine hK6 a10 w7 ?_
  refine wp_cond_split (t := !bb) (eK g10_11) (fun hc11=>?_) (fun hc11=>?_)
  · refine wp_seq_k fun K12 hK12 => ?_
    refine wp_reg ?_
    refine wC (wAs (v:=.bool true) rfl ?_)
    refine wEn fun a13 ha13=>?_
    have hz13:=kS ha13 hz10
    have hd13:=kD ha13 hd10
    have g13_4:get a13 4 = .bool true:=kG ha13 hz10
    refine hK12 a13 w7 ?_
    refine wp_ret ?_
    exact ⟨hd13,_,rIs hres' g13_4,rfl,hF8⟩
  · refine wp_skip ?_
    refine hK5 a10 w7 (tUp ?_)
    refine wT fun K14 hK14=>?_
    refine wC (wCr (R:=fun vz wz=>∃ fsv,vz = .agg ([fsv,.int .i64 fx]:List Value).toArray∧Fr [] w7 wz∧FdsR wz (From w7.heap.size wz) fsv fs) (vs:=#[]) hSch.enters (by simp) ((hSch.call w7).mono (by rintro e wz ⟨v,rfl,h⟩;exact ⟨_,rfl,v,rfl,h⟩)) ?_)
    rintro _ w15 ⟨fsv,rfl,fr15,hfs⟩
    have hfs1:=hfs.one
    have hF16:Fr [] w w15:=hF8.tr fr15
    have hL16_w2:Fr [] w2 w15:=hL8_w2.tr fr15
    have rb17:=fr15.range rb9 .nil
    refine wC (wMv (v:=.int .u8 (n:Int)) (eK g10_0) ?_)
    refine wC (wCv (k1:=.u8) (i:=(n:Int)) hT5_u8 hT3_i64 (eS hz10) ?_)
    rw[show (IntKind.i64.wrap ((n:Int):Int))=((n:Int):Int) from by simp only[IntKind.wrap,IntKind.bits,IntKind.signed];simp;omega]
    refine wC (wp_rem (k1:=.i64) (i:=(n:Int)) (j:=1) (by decide) (eS hz10) (eCo _ _) ?_)
    rw[show Int.tmod (n:Int) 1=0 from by rw[Int.tmod_eq_emod_of_nonneg (by omega)];omega]
    rw[wCo]
    have hgs18:=hL16_w2.size
    have hgs19:=(Fr.refl [] w15).size
    have hgs20:=hF16.size
    refine wp_allocL hFlT30 ?_
    rintro w21 f21 sz21 r21 th21
    have hF22:Fr [] w w21:=hF16.tr f21
    have hL22_w2:Fr [] w2 w21:=hL16_w2.tr f21
    have hL22_w15:Fr [] w15 w21:=(Fr.refl [] w15).tr f21
    have rb23:=f21.range rb17 .nil
    refine wC (wp_storeL (cs:=[fsv,.int .i64 fx]) (o:=0) hFlT30 rfl (eS hz10) (eS hz10) (by intro u hu;simp at hu;rcases hu with rfl | rfl;exact hfs1;rfl) th21 ?_)
    rintro w24 f24 sz24 r24 th24
    have hF24:Fr [] w w24:=hF22.trans f24 (fun r hr=>.inl (by simp at hr;subst hr;have:=hF16.size;simp only;omega))
    have rb25:=f24.range rb23 (.cons (.inl (by simp only;omega)) .nil)
    have hL24_w2:Fr [] w2 w24:=hL22_w2.trans f24 (fun r hr=>.inl (by simp at hr;subst hr;have:=hL16_w2.size;simp only;omega))
    have hL24_w15:Fr [] w15 w24:=hL22_w15.trans f24 (fun r hr=>.inl (by simp at hr;subst hr;have:=(Fr.refl [] w15).size;simp only;omega))
    refine wC (wAs (v:=.int .i64 0) (by rw[eTm,pNo,nZ (by decide),sZ (zZ (zZ (zZ hz10))) (by decide)]) ?_)
    refine wEn fun a26 ha26=>?_
    have hz26:=kS ha26 hz10
    have hd26:=kD ha26 hd10
    have g26_3:=kP ha26 g10_3
    have g26_5:get a26 5 = .pointer (some ⟨w15.heap.size,0,none⟩):=kG ha26 hz10
    have g26_6:get a26 6 = .int .i64 0:=kG ha26 hz10
    refine hK14 a26 w24 (tUp ?_)
    refine wT fun K27 hK27=>?_
    refine wC (wp_loadFlat (cs:=[fsv,.int .i64 fx]) (b:=w15.heap.size) (o:=0) hFlT30 rfl (eK g26_5) r24 ?_)
    refine wC (wMv (v:=.int .i64 0) (eK g26_6) ?_)
    refine wC (wp_loadFlat (cs:=[.int .i64 tn,sv,.bool nl,lv,uv]) (b:=w.heap.size) (o:=0) hFlT26 rfl (eK g26_3) rb25 ?_)
    refine wC (wCr (R:=fun vz wz=>Fr [] w24 wz∧OctE wz (From w24.heap.size wz) vz (fxW 0 2++enc 0 (decide (fx≥0) && decide ((0:Int)≥fx)) (.mk tn s nl l u))) (vs:=#[.agg ([fsv,.int .i64 fx]:List Value).toArray,.int .i64 0,.agg ([.int .i64 tn,sv,.bool nl,lv,uv]:List Value).toArray]) hKp.enters (mX3 (eS hz26) (eS hz26) (eS hz26)) ((hKp.call w24 _ B 0 fx fsv _ _ (hfs.kept hL24_w15 (by simp) (fun _ h=>h)) (ht0.kept hF24 (by simp) (fun _ h=>h)) (fun b hb=>Nat.lt_of_lt_of_le hb.2 hL24_w15.size) (fun b hb=>Nat.lt_of_lt_of_le (hB b hb) hF24.size) (by omega)).mono (by rintro e wz ⟨v,rfl,h⟩;exact ⟨_,rfl,h⟩)) ?_)
    rintro ov w28 ⟨fr28,hoW⟩
    have hF29:Fr [] w w28:=hF24.tr fr28
    have hL29_w2:Fr [] w2 w28:=hL24_w2.tr fr28
    have hL29_w15:Fr [] w15 w28:=hL24_w15.tr fr28
    have hL29_w24:Fr [] w24 w28:=(Fr.refl [] w24).tr fr28
    have rb30:=fr28.range rb25 .nil
    have rb31:=fr28.range r24 .nil
    refine wC (wCr (R:=fun vz wz=>∃ dc:List Value,vz = .tuple #[.agg dc.toArray,.bool rt.2]∧Fr [] w28 wz∧RepT wz (From w28.heap.size wz) dc rt.1) (vs:=#[ov]) hDoor.enters (mX1 (eS hz26)) ((hDoor.call w28 _ ov (fxW 0 2++enc 0 (decide (fx≥0) && decide ((0:Int)≥fx)) (.mk tn s nl l u)) er ty uer hoW (octE_big hoW) (hF29.cell her .nil) hiface).mono (by rw[← hrt];rintro e wz ⟨cs,rfl,h⟩;exact ⟨_,rfl,cs,rfl,h⟩)) ?_)
    rintro _ w32 ⟨dc,rfl,fr32,hdt⟩
    rw[hok]
    have hdl:=hdt.length
    have hdo:=hdt.ones
    have hd0c:=(repT_n hdt).1
    rw[hnn] at hd0c
    have hF33:Fr [] w w32:=hF29.tr fr32
    have hL33_w2:Fr [] w2 w32:=hL29_w2.tr fr32
    have hL33_w15:Fr [] w15 w32:=hL29_w15.tr fr32
    have hL33_w24:Fr [] w24 w32:=hL29_w24.tr fr32
    have rb34:=fr32.range rb30 .nil
    have rb35:=fr32.range rb31 .nil
    refine wC (wMv (v:=.tuple #[.agg dc.toArray,.bool true]) (eS hz26) ?_)
    refine wC (wp_extract (vs:=#[.agg dc.toArray,.bool true]) (v:=.agg dc.toArray) (eS hz26) rfl ?_)
    refine wC (wp_extract (vs:=#[.agg dc.toArray,.bool true]) (v:=.bool true) (eS hz26) rfl ?_)
    rw[wCo]
    have hgs36:=hL33_w2.size
    have hgs37:=hL33_w15.size
    have hgs38:=hL33_w24.size
    have hgs39:=(Fr.refl [] w32).size
    have hgs40:=hF33.size
    refine wp_allocL hFlT35 ?_
    rintro w41 f41 sz41 r41 th41
    have hF42:Fr [] w w41:=hF33.tr f41
    have hL42_w15:Fr [] w15 w41:=hL33_w15.tr f41
    have hL42_w32:Fr [] w32 w41:=(Fr.refl [] w32).tr f41
    have rb43:=f41.range rb34 .nil
    have rb44:=f41.range rb35 .nil
    refine wC (wp_storeL (cs:=dc) (o:=0) hFlT35 hdl (eS hz26) (eS hz26) hdo th41 ?_)
    rintro w45 f45 sz45 r45 th45
    have hF45:Fr [] w w45:=hF42.trans f45 (fun r hr=>.inl (by simp at hr;subst hr;have:=hF33.size;simp only;omega))
    have rb46:=f45.range rb43 (.cons (.inl (by simp only;omega)) .nil)
    have rb47:=f45.range rb44 (.cons (.inl (by simp only;omega)) .nil)
    have hL45_w15:Fr [] w15 w45:=hL42_w15.trans f45 (fun r hr=>.inl (by simp at hr;subst hr;have:=hL33_w15.size;simp only;omega))
    have hL45_w32:Fr [] w32 w45:=hL42_w32.trans f45 (fun r hr=>.inl (by simp at hr;subst hr;have:=(Fr.refl [] w32).size;simp only;omega))
    refine wC (wAs (v:=.bool true) (by rw[eTm,pNo,nZ (by decide),sZ (zZ (zZ (zZ (zZ (zZ (zZ (zZ hz26))))))) (by decide)]) ?_)
    refine wEn fun a48 ha48=>?_
    have hz48:=kS ha48 hz26
    have hd48:=kD ha48 hd26
    have g48_3:=kP ha48 g26_3
    have g48_5:=kP ha48 g26_5
    have g48_6:=kP ha48 g26_6
    have g48_7:get a48 7 = .pointer (some ⟨w32.heap.size,0,none⟩):=kG ha48 hz26
    have g48_8:get a48 8 = .bool true:=kG ha48 hz26
    refine hK27 a48 w45 (tUp ?_)
    refine tId (wp_seq_k fun K49 hK49=>?_)
    have hfs8:=hfs.kept hL45_w15 (by simp) (fun _ h=>h)
    have hdt8:=hdt.kept hL45_w32 (by simp) (fun _ h=>h)
    refine wp_drawR (os:=[⟨some 24,.move (.tmp 8),t24,p24,e24,none⟩,⟨some 25,.move (.tmp 24),t25,p25,e25,none⟩,⟨some 26,.fieldAddr T35 (.tmp 7) 0,t26,p26,e26,some (1,true)⟩,⟨some 27,.load T2 (.tmp 26),t27,p27,e27,some (1,true)⟩,⟨some 28,.move (.tmp 6),t28,p28,e28,some (1,true)⟩,⟨some 29,.binOp .eql T2 (.tmp 27) (.tmp 28) T2,t29,p29,e29,some (1,true)⟩,⟨some 30,.pick (.tmp 25) (.tmp 29) (.const (.bool false)),t30,p30,e30,none⟩,⟨some 31,.move (.tmp 30),t31,p31,e31,none⟩,⟨some 32,.fieldAddr T30 (.tmp 5) 0,t32,p32,e32,some (7,true)⟩,⟨some 33,.load T28 (.tmp 32),t33,p33,e33,some (7,true)⟩,⟨some 34,.move (.tmp 6),t34,p34,e34,some (7,true)⟩,⟨some 35,.load T30 (.tmp 5),t35,p35,e35,some (7,true)⟩,⟨some 36,.move (.tmp 6),t36,p36,e36,some (7,true)⟩,⟨some 37,.call ⟨.value (.func f10),#[(.tmp 35),(.tmp 36)],ct4⟩,t37,p37,e37,some (7,true)⟩,⟨some 38,.load T26 (.tmp 3),t38,p38,e38,some (7,true)⟩,⟨some 39,.load T35 (.tmp 7),t39,p39,e39,some (7,true)⟩,⟨some 40,.call ⟨.value (.func f11),#[(.tmp 39)],ct5⟩,t40,p40,e40,some (7,true)⟩,⟨some 41,.call ⟨.value (.func f9),#[(.tmp 33),(.tmp 34),(.tmp 37),(.tmp 38),(.tmp 40)],ct6⟩,t41,p41,e41,some (7,true)⟩,⟨some 42,.pick (.tmp 31) (.tmp 41) (.const (.bool false)),t42,p42,e42,none⟩]) (rest:=[⟨some 4,.assign (.tmp 42),t43,p43,e43,none⟩]) [spC [] (.bool true),spC [0] (.bool true),spC [1] (.pointer (some ⟨w32.heap.size,0,none⟩)),spC [1,2] (.int .i64 0),spC [1] (.int .i64 0),spC [1,3,4] (.bool true),spC [1,5] (.bool true),spC [6] (.bool true),spC [7] (.pointer (some ⟨w15.heap.size,0,none⟩)),spC [7,8] (fsv),spC [7] (.int .i64 0),spC [7] (.agg ([fsv,.int .i64 fx]:List Value).toArray),spC [7] (.int .i64 0),spR [7,11,12] (fun x w'=>x = .bool (decide (fx≥0) && decide ((0:Int)≥fx))),spC [7] (.agg ([.int .i64 tn,sv,.bool nl,lv,uv]:List Value).toArray),spC [7] (.agg (dc).toArray),spR [7,15] (fun x w'=>∃ gc:List Value,x = .agg gc.toArray∧RepT w' (fun b=>w28.heap.size≤b∧b < w'.heap.size) gc rt.1),spR [7,9,10,13,14,16] (fun x w'=>x = .bool true),spC [7,17] (.bool true)] 24 [] hmx he5 (by simp[shape]) (by simp[plainO]) (by simp[spC,spR]) (by simp;omega) ⟨lCc _ _ _,lCc _ _ _,lCc _ _ _,lCc _ _ _,lCc _ _ _,lCc _ _ _,lCc _ _ _,lCc _ _ _,lCc _ _ _,lCc _ _ _,lCc _ _ _,lCc _ _ _,lCc _ _ _,(fun v w1 w2 f h=>h),lCc _ _ _,lCc _ _ _,(fun v w1 w2 f h=>by obtain ⟨gc,h1,h2⟩:=h;exact ⟨gc,h1,h2.kept f (by simp) (fun b hb=>⟨hb.1,Nat.lt_of_lt_of_le hb.2 f.size⟩)⟩),(fun v w1 w2 f h=>h),lCc _ _ _,trivial⟩ ?_ ?_
    · refine oCs ?_ ?_
      · refine op_c fun a' w' hk' hf' hd' K' hK' => ?_
        refine wMv (v:=.bool true) (by rw[eTm,hk'.get 8 (by omega),g48_8]) ?_
        exact hK'
      refine oCs ?_ ?_
      · refine op_c fun a' w' hk' hf' hd' K' hK' => ?_
        refine wMv (v:=.bool true) (by rw[eTm];exact hd'.c (nd':=[]) 0 (by simp) rfl) ?_
        exact hK'
      refine oCs ?_ ?_
      · refine op_gy rfl (by decide) (fun a w h => h.c (nd' := [0]) 1 (by simp [spC, spR]) rfl) ?_
        refine op_c fun a' w' hk' hf' hd' K' hK'=>?_
        refine wFa (b:=w32.heap.size) (i:=0) (hFlT35.fld (by decide)) (by rw[eTm,hk'.get 7 (by omega),g48_7]) ?_
        rw[show (0+0:Nat)=0 from rfl]
        exact hK'
      refine oCs ?_ ?_
      · refine op_gy rfl (by decide) (fun a w h => h.c (nd' := [0]) 1 (by simp [spC, spR]) rfl) ?_
        refine op_c fun a' w' hk' hf' hd' K' hK'=>?_
        refine wp_load (b:=w32.heap.size) (o:=0) (v:=.int .i64 0) hcT2 (by rw[eTm];exact hd'.c (nd':=[1]) 2 (by simp) rfl) (by have:=(hf'.range r45 .nil) 0 _ hd0c;simpa using this) ?_
        exact hK'
      refine oCs ?_ ?_
      · refine op_gy rfl (by decide) (fun a w h => h.c (nd' := [0]) 1 (by simp [spC, spR]) rfl) ?_
        refine op_c fun a' w' hk' hf' hd' K' hK'=>?_
        refine wMv (v:=.int .i64 0) (by rw[eTm,hk'.get 6 (by omega),g48_6]) ?_
        exact hK'
      refine oCs ?_ ?_
      · refine op_gy rfl (by decide) (fun a w h => h.c (nd' := [0]) 1 (by simp [spC, spR]) rfl) ?_
        refine op_c fun a' w' hk' hf' hd' K' hK'=>?_
        refine wp_eqlT (k1:=.i64) (i:=0) (j:=0) (by rfl) (by rw[eTm];exact hd'.c (nd':=[1,2]) 3 (by simp) rfl) (by rw[eTm];exact hd'.c (nd':=[1]) 4 (by simp) rfl) ?_
        exact hK'
      refine oCs ?_ ?_
      · refine op_c fun a' w' hk' hf' hd' K' hK' => ?_
        refine wp_pickYes (v:=.bool true) (by rw[eTm];exact hd'.c (nd':=[0]) 1 (by simp) rfl) (by rw[eTm];exact hd'.c (nd':=[1,3,4]) 5 (by simp) rfl) ?_
        exact hK'
      refine oCs ?_ ?_
      · refine op_c fun a' w' hk' hf' hd' K' hK' => ?_
        refine wMv (v:=.bool true) (by rw[eTm];exact hd'.c (nd':=[1,5]) 6 (by simp) rfl) ?_
        exact hK'
      refine oCs ?_ ?_
      · refine op_gy rfl (by decide) (fun a w h => h.c (nd' := [6]) 7 (by simp [spC, spR]) rfl) ?_
        refine op_c fun a' w' hk' hf' hd' K' hK'=>?_
        refine wFa (b:=w15.heap.size) (i:=0) (hFlT30.fld (by decide)) (by rw[eTm,hk'.get 5 (by omega),g48_5]) ?_
        rw[show (0+0:Nat)=0 from rfl]
        exact hK'
      refine oCs ?_ ?_
      · refine op_gy rfl (by decide) (fun a w h => h.c (nd' := [6]) 7 (by simp [spC, spR]) rfl) ?_
        refine op_c fun a' w' hk' hf' hd' K' hK'=>?_
        refine wL0 (j:=0) (v:=fsv) hcT28 (by rw[eTm];exact hd'.c (nd':=[7]) 8 (by simp) rfl) (hf'.range rb47 .nil) rfl ?_
        exact hK'
      refine oCs ?_ ?_
      · refine op_gy rfl (by decide) (fun a w h => h.c (nd' := [6]) 7 (by simp [spC, spR]) rfl) ?_
        refine op_c fun a' w' hk' hf' hd' K' hK'=>?_
        refine wMv (v:=.int .i64 0) (by rw[eTm,hk'.get 6 (by omega),g48_6]) ?_
        exact hK'
      refine oCs ?_ ?_
      · refine op_gy rfl (by decide) (fun a w h => h.c (nd' := [6]) 7 (by simp [spC, spR]) rfl) ?_
        refine op_c fun a' w' hk' hf' hd' K' hK'=>?_
        refine wp_loadFlat (cs:=[fsv,.int .i64 fx]) (b:=w15.heap.size) (o:=0) hFlT30 rfl (by rw[eTm,hk'.get 5 (by omega),g48_5]) (hf'.range rb47 .nil) ?_
        exact hK'
      refine oCs ?_ ?_
      · refine op_gy rfl (by decide) (fun a w h => h.c (nd' := [6]) 7 (by simp [spC, spR]) rfl) ?_
        refine op_c fun a' w' hk' hf' hd' K' hK'=>?_
        refine wMv (v:=.int .i64 0) (by rw[eTm,hk'.get 6 (by omega),g48_6]) ?_
        exact hK'
      refine oCs ?_ ?_
      · refine op_gy rfl (by decide) (fun a w h => h.c (nd' := [6]) 7 (by simp [spC, spR]) rfl) ?_
        refine op_r fun a' w' hk' hf' hd' K' hK'=>?_
        refine wCr (R:=fun vz wz=>vz = .bool (decide (fx≥0) && decide ((0:Int)≥fx))∧Fr [] w' wz) (vs:=#[.agg ([fsv,.int .i64 fx]:List Value).toArray,.int .i64 0]) hFlx.enters (by simp only[List.map_toArray,List.map_cons,List.map_nil];rw[show a'.eval (.tmp 35)=Value.agg ([fsv,.int .i64 fx]:List Value).toArray from (by rw[eTm];exact hd'.c (nd':=[7]) 11 (by simp) rfl),show a'.eval (.tmp 36)=Value.int .i64 0 from (by rw[eTm];exact hd'.c (nd':=[7]) 12 (by simp) rfl)]) ((hFlx.call w' fsv fx 0 hfs1).mono (by rintro e wz ⟨rfl,h⟩;exact ⟨_,rfl,rfl,h⟩)) ?_
        rintro _ w50 ⟨rfl,fr50⟩
        exact hK' _ w50 rfl fr50
      refine oCs ?_ ?_
      · refine op_gy rfl (by decide) (fun a w h => h.c (nd' := [6]) 7 (by simp [spC, spR]) rfl) ?_
        refine op_c fun a' w' hk' hf' hd' K' hK'=>?_
        refine wp_loadFlat (cs:=[.int .i64 tn,sv,.bool nl,lv,uv]) (b:=w.heap.size) (o:=0) hFlT26 rfl (by rw[eTm,hk'.get 3 (by omega),g48_3]) (hf'.range rb46 .nil) ?_
        exact hK'
      refine oCs ?_ ?_
      · refine op_gy rfl (by decide) (fun a w h => h.c (nd' := [6]) 7 (by simp [spC, spR]) rfl) ?_
        refine op_c fun a' w' hk' hf' hd' K' hK'=>?_
        refine wp_loadFlat (cs:=dc) (b:=w32.heap.size) (o:=0) hFlT35 hdl (by rw[eTm,hk'.get 7 (by omega),g48_7]) ((hf'.range r45 .nil)) ?_
        exact hK'
      refine oCs ?_ ?_
      · refine op_gy rfl (by decide) (fun a w h => h.c (nd' := [6]) 7 (by simp [spC, spR]) rfl) ?_
        refine op_r fun a' w' hk' hf' hd' K' hK'=>?_
        refine wCr (R:=fun vz wz=>∃ gc:List Value,vz = .agg gc.toArray∧Fr [] w' wz∧RepT wz (fun b=>w28.heap.size≤b∧b < wz.heap.size) gc rt.1) (vs:=#[.agg dc.toArray]) hGot.1 (by simp only[List.map_toArray,List.map_cons,List.map_nil];rw[show a'.eval (.tmp 39)=Value.agg (dc).toArray from (by rw[eTm];exact hd'.c (nd':=[7]) 15 (by simp) rfl)]) ((hGot.2 _ w' _ dc (hdt8.kept hf' (by simp) (fun _ h=>h)) (fun b hb=>by have:=hb.2;have:=hf'.size;omega)).mono (by rintro e wz ⟨gc,rfl,h1,h2⟩;exact ⟨_,rfl,gc,rfl,h1,h2.kept (Fr.refl [] _) (by simp) (fun b hb=>by have q1:=h1.size;have q2:=hf'.size;have q3:=hL45_w32.size;have q4:=fr32.size;rcases hb with ⟨h3,h4⟩ | ⟨h3,h4⟩ <;> exact ⟨by omega,by omega⟩)⟩)) ?_
        rintro _ w51 ⟨gc,rfl,fr51,hg51⟩
        exact hK' _ w51 ⟨gc,rfl,hg51⟩ fr51
      refine oCs ?_ ?_
      · refine op_gy rfl (by decide) (fun a w h => h.c (nd' := [6]) 7 (by simp [spC, spR]) rfl) ?_
        refine op_r fun a' w' hk' hf' hd' K' hK'=>?_
        obtain ⟨gc,hgc,hgt⟩:∃ gc:List Value,get a' 40 = .agg gc.toArray∧RepT w' (fun b=>w28.heap.size≤b∧b < w'.heap.size) gc rt.1:=hd'.at (d:=16) (by simp) rfl
        have hfx7:get a' 37 = .bool (decide (fx≥0) && decide ((0:Int)≥fx)):=hd'.at (d:=13) (by simp) rfl
        refine wCr (R:=fun vz wz=>vz = .bool true∧Fr [] w' wz) (vs:=#[fsv,.int .i64 0,.bool (decide (fx≥0) && decide ((0:Int)≥fx)),.agg ([.int .i64 tn,sv,.bool nl,lv,uv]:List Value).toArray,.agg gc.toArray]) hTold.enters (by simp only[List.map_toArray,List.map_cons,List.map_nil];rw[show a'.eval (.tmp 33)=fsv from (by rw[eTm];exact hd'.c (nd':=[7,8]) 9 (by simp) rfl),show a'.eval (.tmp 34)=Value.int .i64 0 from (by rw[eTm];exact hd'.c (nd':=[7]) 10 (by simp) rfl),show a'.eval (.tmp 37)=Value.bool (decide (fx≥0) && decide ((0:Int)≥fx)) from (by rw[eTm];exact hfx7),show a'.eval (.tmp 38)=Value.agg ([.int .i64 tn,sv,.bool nl,lv,uv]:List Value).toArray from (by rw[eTm];exact hd'.c (nd':=[7]) 14 (by simp) rfl),show a'.eval (.tmp 40)=Value.agg gc.toArray from (by rw[eTm];exact hgc)]) ((hTold.call w' _ B _ _ _ _ _ gc _ rt.1 (hfs8.kept hf' (by simp) (fun _ h=>h)) (ht0.kept (hF45.tr hf') (by simp) (fun _ h=>h)) hgt (fun b hb=>Nat.lt_of_lt_of_le hb.2 (Nat.le_trans hL45_w15.size hf'.size)) (fun b hb=>Nat.lt_of_lt_of_le (hB b hb) (hF45.tr hf').size) (fun b hb=>hb.2) hdf).mono (by rintro e wz ⟨rfl,h⟩;exact ⟨_,rfl,rfl,h⟩)) ?_
        rintro _ w52 ⟨rfl,fr52⟩
        exact hK' _ w52 rfl fr52
      refine oCs ?_ ?_
      · refine op_c fun a' w' hk' hf' hd' K' hK' => ?_
        refine wp_pickYes (v:=.bool true) (by rw[eTm];exact hd'.c (nd':=[6]) 7 (by simp) rfl) (by rw[eTm];exact hd'.c (nd':=[7,9,10,13,14,16]) 17 (by simp) rfl) ?_
        exact hK'
      exact opsOk_nil
    intro a53 w53 k53 f53 hd_53
    have hz53:a53.tmps.size=43:=k53.size.trans hz48
    have hd53:a53.defers=[]:=k53.defers.trans hd48
    have g53_42:get a53 42 = .bool true:=hd_53.c (nd':=[7,17]) 18 (by simp) rfl
    have hF54:Fr [] w w53:=hF45.tr f53
    have rb55:=f53.range rb46 .nil
    have rb56:=f53.range rb47 .nil
    have rb57:=f53.range r45 .nil
    refine wC (wAs (v:=.bool true) (eK g53_42) ?_)
    refine wEn fun a58 ha58=>?_
    have hz58:=kS ha58 hz53
    have hd58:=kD ha58 hd53
    have g58_4:get a58 4 = .bool true:=kG ha58 hz53
    refine hK49 a58 w53 (tUp ?_)
    refine wp_ret ?_
    exact ⟨hd58,_,rIs hres' g58_4,rfl,hF54⟩
end Go.Kq

namespace Go.Kq
open Go
section
variable {ver:Int} {fl:Bool} {y:T} {fr to nul tag df of:Int} {sub:List Fd}
theorem inqf_bool {k:Nat} (hn:nul < 0):InvQ (rdOne fun _ _=>gBool) ver fl (fun x=>RfN k (.mk 0 fr to nul tag df of sub) ver fl y (tBool x)) (fieldW (.mk 0 fr to nul tag df of sub) ver fl y):=by
  have h:InvQ (rdOne fun _ _=>gBool) ver fl (fun x=>TdF (.mk 0 fr to nul tag df of sub) (fun _ _ _ _=>False) ver fl y (tBool x)) (fieldW (.mk 0 fr to nul tag df of sub) ver fl y):=by
    rw[fieldW_eq,show Fd.kind (.mk 0 fr to nul tag df of sub)=0 from rfl,fieldV_bool]
    intro rest nl _
    have h2:y.n % 2=0∨y.n % 2=1:=by omega
    have hv:∀ i,i=y.n % 2→TdF (.mk 0 fr to nul tag df of sub) (fun _ _ _ _=>False) ver fl y (.mk i [] false [] []):=fun i hi=>by
      refine tdf_num ?_ ?_ ?_ ?_ ?_ hn ?_ <;> try (show (0:Int) ≠ _;decide)
      rw[hi];rfl
    rcases h2 with h2 | h2
    · exact ⟨.n 0,by simp[h2,rdOne,gBool],hv 0 h2.symm⟩
    · exact ⟨.n 1,by simp[h2,rdOne,gBool],hv 1 h2.symm⟩
  exact h.weak fun _ h=>rfn_num (by decide) (by decide) h
end
theorem tdk_plain {g:Rd} {flx:Int→Bool} {fs:List Fd} {gs:List (V→T)} {tell:V→T} {t:T} {Rf:Fd→Int→Bool→T→T→Prop} (hf:freeFs fs=true) (htell:∀ x,tell x = .mk 0 [] false (tellAll gs (x.items.drop 1)) (uOf gs (x.items.drop 1)))
    (h:InvT g 0 (flx 0) Rf fs gs t.l 0 (if flx 0 then unksW fs t else []) (bodyL fs 0 (flx 0) t.l 0++if flx 0 then uvW (unksW fs t).length++tagsW (unksW fs t) else [])) :
    (doorResK g flx tell (fxW 0 2++partW fs 0 (flx 0) t)).2=true∧(doorResK g flx tell (fxW 0 2++partW fs 0 (flx 0) t)).1.n=0∧TdG fs Rf 0 (flx 0) t (doorResK g flx tell (fxW 0 2++partW fs 0 (flx 0) t)).1:=by
  rw[← partW_flat (freeFs_tag hf)] at h
  obtain ⟨xs,h1,h2,h3⟩:=h [] false (by simp)
  rw[List.append_nil] at h1
  have hne:(fxW 0 2++partW fs 0 (flx 0) t).isEmpty=false:=by simp[fxW]
  have hr:rdNum .i16 2 ⟨fxW 0 2++partW fs 0 (flx 0) t,false,false⟩=(0,⟨partW fs 0 (flx 0) t,false,false⟩):=by
    rw[rdNum_app,show IntKind.i16.wrap (Lib.beNat (fxW 0 2):Nat)=0 from by rw[beNat_f2];decide]
  have e:doorResK g flx tell (fxW 0 2++partW fs 0 (flx 0) t)=(.mk 0 [] false (tellAll gs xs) (uOf gs xs),true):=by
    simp[doorResK,rdVer,hne,hr,h1,htell,consV,V.items,T.setN]
  rw[e]
  refine ⟨rfl,rfl,h2.len,fun j fd y hj hy=>?_,h3⟩
  have:=h2.at j fd y hj hy
  rwa [Nat.zero_add] at this
end Go.Kq
