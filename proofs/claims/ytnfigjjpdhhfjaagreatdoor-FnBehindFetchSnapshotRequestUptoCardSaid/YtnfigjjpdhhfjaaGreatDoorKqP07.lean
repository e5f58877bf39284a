/- A part of the library: rules of reasoning about the program's operations and what its shared functions do. -/
import Derived.Test.YtnfigjjpdhhfjaaGreatDoorKqP06
import Derived.Test.YtnfigjjpdhhfjaaGreatDoorKqP02
set_option linter.unusedVariables false
set_option linter.unusedSimpArgs false
namespace Go.Kq
open Go Go.Proofs
def RunZ (P:Program) (ge:Nat) (cx:Cx) (c:Code) (ox:Nat) (tx:Ty) (dx:V) (o:Nat) (tys:List Ty) (ds:List V) (f:Rd):Prop :=
  ∀ (e : Env) (pb po : Nat) (Q : Exit → Act → World → Prop) (a : Act) (w : World) (st : RSt) (x0 : V) (xs : List V) (st' : RSt),
    Z1N cx e pb po a→Mem e pb po ge w st→w.there pb (po+ox) tx.size→w.there pb (po+o) (Ty.sizes tys)→(∃ z,w.rangeAt pb (po+ox) z∧Rep w ZU tx z dx)→(∃ z,w.rangeAt pb (po+o) z∧Reps w ZU tys z ds) →
    f e.ver e.flex st=some (.l (x0::xs),st')→st'.bad=false →
    (∀ a' w',a'.tmps.size=cx.N→a'.defers=[]→get a' cx.tr = .nilIface→Fr [⟨e.rb,0,2⟩,⟨pb,po+ox,po+ox+tx.size⟩,⟨pb,po+o,po+o+Ty.sizes tys⟩] w w' →
      (∃ z,w'.rangeAt pb (po+ox) z∧Rep w' (Foot e.sb w.heap.size w'.heap.size) tx z x0)→(∃ z,w'.rangeAt pb (po+o) z∧Reps w' (Foot e.sb w.heap.size w'.heap.size) tys z xs)→Q .ret a' w') →
    c.wp P Q a w
theorem RunZ.kn {P:Program} {ge:Nat} {cx:Cx} {fc:FuncId} {m n ox o i1:Nat} {tx:Ty} {dx:V} {c:Code} {tys:List Ty} {ds:List V} {f:Rd} {t1 t2:TypeId} {p1 p2:String} {e1 e2:Array Edge} {a1:Array TypeId}
    (h:FldZ P ge cx m c ox tx dx o tys ds f) (hc:Z1z P ge fc) (hb:(decide (n < cx.N) && decide (cx.tr < cx.N) && cx.below m)=true) :
    RunZ P ge cx (.seq c (.seq (Code.region i1 ⟨[oC n fc #[.tmp cx.tb] a1 t1 p1 e1,⟨some cx.tr,.assign (.tmp n),t2,p2,e2,none⟩]⟩ false) .ret)) ox tx dx o tys ds f:=by
  intro e pb po Q a w st x0 xs st' hs hm htx ht hzx hz hf hbad hk;simp only[Bool.and_eq_true,decide_eq_true_eq] at hb;obtain ⟨⟨b1,b2⟩,b3⟩:=hb;refine tId (wp_seq_k fun K1 hK1=>?_);refine h e pb po K1 _ a w st x0 xs st' hs hm htx ht hzx hz hf ?_;intro a1 w1 k1 hrw hfr hz1 hz2;have s1:=hs.kept b3 k1;have hN1:=s1.size;refine hK1 a1 w1 (tUp ?_);refine tId (wp_seq_k fun K2 hK2=>?_);have hm1:Mem e pb po ge w1 st':=hm.kept hfr (by simp) hrw;refine Z4s (m:=0) (R:=fun x w'=>x = .nilIface∧w'=w1) hc.enters s1.b ((hc.call w1 e.rb e.sb st' e.er hrw hm1.er).mono (by rintro e' w' ⟨h1,h2⟩;exact ⟨_,h1,by rw[hbad];rfl,h2⟩)) (by omega) (by omega) (by omega) (by omega) ?_;rintro a2 x w' ⟨rfl,rfl⟩ k2 g2;refine hK2 a2 _ (wp_ret ?_);exact hk a2 _ (by rw[k2.size,hN1]) (by rw[k2.defers,s1.defers]) g2 hfr hz1 hz2
theorem RunZ.s {P:Program} {ge:Nat} {cx:Cx} {c:Code} {ox o:Nat} {tx:Ty} {dx:V} {tys:List Ty} {ds:List V} {f:Rd} (h:RunZ P ge cx c ox tx dx o tys ds f) (ho:o=ox+tx.size)
    (hf:IsL1 f):RunS P ge cx c ox (tx::tys) (dx::ds) f:=by
  intro e pb po Q a w st xs st' hs hm ht hz hx hbad hk;subst ho;have hsz:Ty.sizes (tx::tys)=tx.size+Ty.sizes tys:=by simp[Ty.sizes]
  simp only[hsz] at ht hk;obtain ⟨z,hz1,c1,c2,x1,r1,rfl,hxr,h1,h2⟩:=hz
  cases hxr
  rw[Z3,h1.length] at hz1;obtain ⟨x,ys,hxy⟩:=hf _ _ _ _ _ hx;obtain rfl:xs=x::ys:=by simpa using hxy
  refine h e pb po Q a w st x ys st' hs hm (Z8 ht (by omega) (by omega)) (Z8 ht (by omega) (by omega)) ⟨c1,hz1.1,h1⟩ ⟨c2,by rw[← Nat.add_assoc];exact hz1.2,h2⟩ hx hbad ?_;rintro a' w' hN' hd' hr' hfr ⟨z1,hz3,hz4⟩ ⟨z2,hz5,hz6⟩;refine hk a' w' hN' hd' hr' (hfr.mono ?_) ⟨z1++z2,?_,z1,z2,x,ys,rfl,rfl,hz4,hz6⟩
  · intro r hr;simp at hr
    rcases hr with rfl | rfl | rfl
    · exact .inr ⟨⟨e.rb,0,2⟩,by simp,rfl,by simp,by simp⟩
    · exact .inr ⟨⟨pb,po+ox,po+ox+(tx.size+Ty.sizes tys)⟩,by simp,rfl,by simp,by simp only;omega⟩
    exact .inr ⟨⟨pb,po+ox,po+ox+(tx.size+Ty.sizes tys)⟩,by simp,rfl,by simp only;omega,by simp only;omega⟩
  rw[Z3,hz4.length,Nat.add_assoc];exact ⟨hz3,hz5⟩
theorem RunZ.cons {P:Program} {ge:Nat} {cx:Cx} {m:Nat} {c c':Code} {ox o o':Nat} {tx ty:Ty} {dx dv:V} {f g:Rd} {ts:List Ty} {ds:List V}
    (h:FldY P ge cx m c o ty dv f) (h':RunZ P ge cx c' ox tx dx o' ts ds g) (ho:o'=o+ty.size) (hb:cx.below m=true) (hn:0 < ty.size) (hox:ox+tx.size≤o) (hg:IsL1 g) :
    RunZ P ge cx (.seq c c') ox tx dx o (ty::ts) (dv::ds) (Z1l f g):=by
  intro e pb po Q a w st x0 xs st' hs hm0 htx ht hzx hz hf0 hbad hk;obtain ⟨xa,s1,zz,hf1,hg1,hxs⟩:=Z3u hf0;obtain ⟨k0,ys,rfl⟩:=hg _ _ _ _ _ hg1;simp only[consK,V.l.injEq,List.cons.injEq] at hxs;obtain ⟨rfl,rfl⟩:=hxs;subst ho;have hsz:Ty.sizes (ty::ts)=ty.size+Ty.sizes ts:=by simp[Ty.sizes]
  simp only[hsz] at ht hk;obtain ⟨z,hz1,c1,c2,x,r,rfl,hxr,h1,h2⟩:=hz
  cases hxr
  obtain ⟨zx,hzx1,hzx2⟩:=hzx;rw[Z3] at hz1;have hl1:=h1.length;have hlx:=hzx2.length;refine tId (wp_seq_k fun K1 hK1=>?_);have hpb:pb < w.heap.size:=Z0s ht (by omega);have hrbw:e.rb < w.heap.size:=Zz (Zv.1 hm0.rw.2.2.choose_spec.1).1;refine h e pb po K1 _ a w st hs hm0 (Z8 ht (by omega) (by omega)) ⟨c1,hz1.1,h1⟩ ?_ (fun hn=>by rw[hf1] at hn;cases hn);rintro a1 w1 x st1 hf hka hrw hfr ⟨z1,hz3,hz4⟩;rw[hf1] at hf;simp only[Option.some.injEq,Prod.mk.injEq] at hf;obtain ⟨rfl,rfl⟩:=hf;refine hK1 a1 w1 (tUp ?_);have hm1:Mem e pb po ge w1 s1:=hm0.kept hfr (by simp) hrw;have hl3:=hz4.length;refine h' e pb po Q a1 w1 s1 x0 ys st' (hs.kept hb hka) hm1 (hfr.there htx) ?_ ⟨zx,?_,?_⟩ ⟨c2,?_,?_⟩ hg1 hbad ?_
  · have := hfr.there (Z8 ht (o' := po + o + ty.size) (n' := Ty.sizes ts) (by omega) (by omega))
    rwa [show po+(o+ty.size)=po+o+ty.size from by omega]
  · exact hfr.range hzx1 (.cons (.inl (fun h=>hm0.pr h.symm)) (.cons (.inr (.inl (by simp only;omega))) .nil))
  · exact Rep.kept hfr (fun _ _ h=>h) (fun _ h=>h) hzx2
  · have := hfr.range (cs := c2) (b := pb) (o := po + o + ty.size) (by have := hz1.2; rwa [hl1] at this) (.cons (.inl (fun h => hm0.pr h.symm)) (.cons (.inr (.inr (by simp))) .nil))
    rwa [show po+(o+ty.size)=po+o+ty.size from by omega]
  · exact Reps.kept hfr (fun _ _ h=>h) (fun _ h=>h) h2
  rintro a2 w2 hN2 hd2 hr2 hfr2 ⟨z5,hz5,hz6⟩ ⟨z7,hz7,hz8⟩;refine hk a2 w2 hN2 hd2 hr2 ?_ ⟨z5,hz5,Rep.kept (Fr.refl [] w2) (by simp) (fun b hb=>hb.mono hfr.size (Nat.le_refl _)) hz6⟩ ⟨z1++z7,?_,z1,z7,xa,ys,rfl,rfl,?_,Reps.kept (Fr.refl [] w2) (by simp) (fun b hb=>hb.mono hfr.size (Nat.le_refl _)) hz8⟩
  · refine (hfr.mono (l' := [⟨e.rb, 0, 2⟩, ⟨pb, po + ox, po + ox + tx.size⟩, ⟨pb, po + o, po + o + (ty.size + Ty.sizes ts)⟩]) ?_).trans hfr2 ?_
    · intro r hr;simp at hr
      rcases hr with rfl | rfl
      · exact .inr ⟨⟨e.rb,0,2⟩,by simp,rfl,by simp,by simp⟩
      exact .inr ⟨⟨pb,po+o,po+o+(ty.size+Ty.sizes ts)⟩,by simp,rfl,by simp,by simp only;omega⟩
    intro r hr;simp at hr
    rcases hr with rfl | rfl | rfl
    · exact .inr ⟨⟨e.rb,0,2⟩,by simp,rfl,by simp,by simp⟩
    · exact .inr ⟨⟨pb,po+ox,po+ox+tx.size⟩,by simp,rfl,by simp,by simp⟩
    exact .inr ⟨⟨pb,po+o,po+o+(ty.size+Ty.sizes ts)⟩,by simp,rfl,by simp only;omega,by simp only;omega⟩
  · rw [Z3];refine ⟨hfr2.range hz3 (.cons (.inl (fun h => hm0.pr h.symm)) (.cons (.inr (.inr (by simp only; omega))) (.cons (.inr (.inl (by simp only; omega))) .nil))), ?_⟩;rw [hl3]
    rwa [show po+(o+ty.size)=po+o+ty.size from by omega] at hz7
  refine Rep.kept hfr2 ?_ (fun b hb=>hb.mono (Nat.le_refl _) hfr2.size) hz4;intro r hr hF;simp at hr
  rcases hr with rfl | rfl | rfl
  · rcases hF with hF | ⟨hF, _⟩
    · exact hm0.rw.1 hF
    simp at hF;omega
  · rcases hF with hF | ⟨hF, _⟩
    · exact hm0.ps hF
    simp at hF;omega
  rcases hF with hF | ⟨hF,_⟩
  · exact hm0.ps hF
  simp at hF;omega
theorem Z8e {P:Program} {ge:Nat} {cx:Cx} {m id id2 n n1 v o:Nat} {f:FuncId} {S T k:Nat} {dv:V} {ct:Code} {ats:Array TypeId} {t1 t2 t3 t4 t5 t6 t7 t8:TypeId} {p1 p2 p3 p4 p5 p6 p7 p8:String} {e1 e2 e3 e4 e5 e6 e7 e8:Array Edge}
    (hf:UuidM P f) (hT:RowT P T zU) (hF:Zt P S k o=true)
    (hb:(decide (n < cx.N) && decide (v < n) && decide (m≤v) && decide (v < n1) && decide (n1+3 < cx.N) && cx.below m)=true) :
    FldT P ge cx m (Code.seq (Code.region id ⟨[oC n f #[.tmp cx.tb] ats t1 p1 e1,⟨some v,.alloc T,t2,p2,e2,none⟩,oS T v n t3 p3 e3]⟩ false) (.seq (Code.region id2 ⟨[⟨some n1,.move (.tmp cx.ts),t4,p4,e4,none⟩,oL (n1+1) T v t5 p5 e5,⟨some (n1+2),.nilCheck (.tmp n1),t6,p6,e6,none⟩,
        oF (n1+3) S (n1+2) k t7 p7 e7,oS T (n1+3) (n1+1) t8 p8 e8]⟩ false) ct)) ct o .uuid dv (Z05 fun _ _=>Z3z):=by
  intro e pb po Q a w st hs hm ht hz hk hq;simp only[Bool.and_eq_true,decide_eq_true_eq] at hb;obtain ⟨⟨⟨⟨⟨b1,b2⟩,b3⟩,b4⟩,b5⟩,b6⟩:=hb;have hsz:=hs.size;have hul:=Z6l st;have hgu:Z3z st=(.s ((Z9 16 st).1.getD Z2j),(Z3z st).2):=rfl;have hpw:pb < w.heap.size:=Z0s ht (by simp[Ty.size]);refine wS fun K1 hK1=>?_;rw[wCo];refine Ze (R:=fun x w'=>x = .agg (Z0 ((Z9 16 st).1.getD Z2j)).toArray∧RW w' e.rb e.sb (Z3z st).2∧Fr [⟨e.rb,0,2⟩] w w') hf.enters (vs:=#[.pointer (some ⟨e.rb,0,none⟩)])
    (by simp only[List.map_toArray,List.map_cons,List.map_nil,eTm];rw[hs.b])
    ((hf.call w e.rb e.sb st hm.rw).mono (by rintro e' w' ⟨rfl,h⟩;exact ⟨_,rfl,rfl,h⟩)) ?_
  rintro x w1 ⟨rfl,hrw,f1⟩;generalize hl:(Z9 16 st).1.getD Z2j=l at *;have hl16:l.length=16:=hul.1;have ho16:(Z0 l).length=16:=by rw[lOc,hl16]
  have szw1:=f1.size;refine wC (Z0d hT.zero ?_);rw[wCo];have fa:=Fr.alloc [] w1 (.cells (Value.agg zU.toArray).cells T);have tha:(w1.alloc (.cells (Value.agg zU.toArray).cells T)).there w1.heap.size 0 16:=Zx w1 zU.toArray T;have sza:=Zd w1 (.cells (Value.agg zU.toArray).cells T);generalize w1.alloc (.cells (Value.agg zU.toArray).cells T)=w2 at fa tha sza ⊢;refine Z1B hT (cs:=Z0 l) (b:=w1.heap.size) (o:=0) (by rw[ho16];rfl) (by rw[eTm,gQ]) (by rw[eTm,gR,gQ]) (Z1v l) (by rw[ho16];exact tha) ?_;rw[pNo,wNi];have fs:=Fr.sets w1.heap.size (Z0 l) w2 0;have rs:=World.rangeAt_setCells_same w2 w1.heap.size 0 (Z0 l) (by rw[ho16];exact tha);generalize w2.setCells w1.heap.size 0 (Z0 l)=w3 at fs rs ⊢;have f13:Fr [] w1 w3:=fa.trans fs (by intro r hr;simp at hr;subst hr;exact .inl (Nat.le_refl _));have sz13:=f13.size;have k1:Kept m a ((a.put (some n) (.agg (Z0 l).toArray)).put (some v) (.pointer (some ⟨w1.heap.size,0,none⟩))):=(Kept.put0 (by omega) _).put b3 _;have gv:get ((a.put (some n) (.agg (Z0 l).toArray)).put (some v) (.pointer (some ⟨w1.heap.size,0,none⟩))) v = .pointer (some ⟨w1.heap.size,0,none⟩):=gQ;generalize ((a.put (some n) (.agg (Z0 l).toArray)).put (some v) (.pointer (some ⟨w1.heap.size,0,none⟩)))=a1 at k1 gv ⊢;have hs1:=hs.kept b6 k1;have hz1:=hs1.size;refine hK1 a1 w3 ?_;refine wS fun K2 hK2=>?_;rw[wCo,wMw,eTm,hs1.s,wCo];refine Z1p hT (cs:=Z0 l) (b:=w1.heap.size) (o:=0) (by rw[ho16];rfl) (by rw[eTm,gR,gv]) rs ?_;refine wC (wNc (q:=⟨pb,po,none⟩) (by rw[eTm,gR,gQ]) ?_);refine wC (wFa (b:=pb) (i:=po) hF (by rw[eTm,gQ]) ?_);rw[wCo];have ht3:w3.there pb (po+o) 16:=f13.there (f1.there ht);refine Z1B hT (cs:=Z0 l) (b:=pb) (o:=po+o) (by rw[ho16];rfl) (by rw[eTm,gQ]) (by rw[eTm,gR,gR,gQ]) (Z1v l) (by rw[ho16];exact ht3) ?_;rw[pNo,wNi];have f4:=Fr.sets pb (Z0 l) w3 (po+o);have r4:=World.rangeAt_setCells_same w3 pb (po+o) (Z0 l) (by rw[ho16];exact ht3);generalize w3.setCells pb (po+o) (Z0 l)=w4 at f4 r4 ⊢;rw[ho16] at f4;have hrw3:RW w3 e.rb e.sb (Z3z st).2:=hrw.kept f13 (by simp);refine hK2 _ w4 (hk _ w4 (.s l) (Z3z st).2 (by simp only[Z05];rw[hgu]) (k1.trans ((((Kept.put0 (by omega) _).pt).pt).pt)) (hrw3.kept f4 (by intro r hr;simp at hr;subst hr;exact ⟨hm.pr,hm.ps⟩)) ?_ ⟨Z0 l,r4,l,hl16,rfl,rfl⟩);refine ((f1.mono (l':=[⟨e.rb,0,2⟩,⟨pb,po+o,po+o+Ty.uuid.size⟩]) ?_).tr f13.nil).trans f4 ?_
  · intro r hr;simp at hr;subst hr;exact .inr ⟨_,by simp,rfl,by simp,by simp⟩
  intro r hr;simp at hr;subst hr;exact .inr ⟨⟨pb,po+o,po+o+Ty.uuid.size⟩,by simp,rfl,by simp,by simp[Ty.size]⟩
end Go.Kq
