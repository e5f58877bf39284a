/- A part of the library: rules of reasoning about the program's operations and what its shared functions do. -/
import Derived.Test.YtnfcfigefdbkhaaGreatDoorKqP01
import Derived.Lib.SliceRun
import Derived.Deep.Upon
import Derived.Maps.RangeRun
import Derived.Lib.EndianBits
import Derived.ScopeJumps
set_option linter.unusedVariables false
set_option linter.unusedSimpArgs false
namespace Go.Kq
open Go Go.Proofs
variable {P:Program} {TT TL S Tf Ti:TypeId} {N sv st m n k o kf id:Nat}
def V.isNil:V→Bool | .nil=>true | _=>false
def V.items:V→List V | .l xs=>xs | _=>[]
def lCells (b:Bool) (lv:Value):List Value:=[.int .i64 0,.slice none 0 0,.bool b,lv,.slice none 0 0]
theorem arr_cell {w:World} {B:Nat→Prop} {t:Ty} {c:Value} {x:V} (h:Rep w B (.arr t) [c] x):∃ q cap,c = .slice q x.items.length cap∧q.isNone=x.isNil∧x.items.length≤4294967296 ∧
    (∀ a,q=some a→∃ b o,a=⟨b,o,none⟩∧B b∧∀ i y,x.items[i]?=some y→∃ es,w.rangeAt b (o+i * t.size) es∧es.length=t.size∧Rep w B t es y):=by
  rcases h with ⟨h,rfl⟩ | ⟨b,o,cap,xs,hb,h,hn4,rfl,h3⟩
  · simp at h;subst h;exact ⟨none,0,rfl,rfl,by simp[V.items],by simp⟩
  simp at h;subst h
  exact ⟨some ⟨b,o,none⟩,cap,rfl,rfl,hn4.2,fun a ha=>by obtain rfl:=Option.some.inj ha;exact ⟨b,o,rfl,hb,h3⟩⟩
def sliceN (P:Program) (s n:Nat):Bool:=match P.underlying s with
  | some (.slice e)=>(match P.info? e with | some i=>sliceOf P s e n i.bytes | none=>false)
  | _=>false
theorem sliceN_is {P:Program} {s n:Nat} (h:sliceN P s n=true):∃ e b,sliceOf P s e n b=true:=by
  unfold sliceN at h
  split at h <;> first | (simp at h;done) | skip
  rename_i e hu
  split at h <;> first | (simp at h;done) | skip
  exact ⟨_,_,h⟩
theorem tl_null {t:Ty} {TS TB:TypeId} {u6:TypeId} (hT:TreeTys P TT TL)
    {t0 t1 t2 t3 t4 t5 t6 t7 t8 t9:TypeId} {p0 p1 p2 p3 p4 p5 p6 p7 p8 p9:String} {e0 e1 e2 e3 e4 e5 e6 e7 e8 e9:Array Edge}
    (he:edgeOk 0 [e0,e1,e2,e3,e4,e5,e6,e7,e8,e9] [[],[0],[],[2],[3],[4],[5],[1],[7],[0,1,2,3,4,5,6,7,8]]=true)
    (hS:fieldOf P S kf o=true) (hf:scal P TS=true) (h1:slTy P TS=true) (hB:scal P TB=true)
    (hb:(decide (sv < n) && decide (st < n) && decide (m≤n) && decide (n+9≤N))=true) :
    TlG P N sv st m (Code.region id ⟨[oF n TT st 3 t0 p0 e0,oL (n+1) TL n t1 p1 e1,oM (n+2) sv t2 p2 e2,⟨some (n+3),.nilCheck (.tmp (n+2)),t3,p3,e3,none⟩,
      oF (n+4) S (n+3) kf t4 p4 e4,oL (n+5) TS (n+4) t5 p5 e5,⟨some (n+6),.binOp .eql TS (.tmp (n+5)) (.const (.slice none 0 0)) u6,t6,p6,e6,none⟩,⟨some (n+7),.indexAddr TL (.tmp (n+1)) (.const (.int .i64 k)),t7,p7,e7,none⟩,oF (n+8) TT (n+7) 2 t8 p8 e8,oS TB (n+8) (n+6) t9 p9 e9]⟩ true) k o (.arr t)
      (fun x=>.raw (lCells x.isNil (.slice none 0 0))) (fun _ y=>y = .raw zT):=by
  rintro e K Q a w ts x _ hN hd hsv hst hm hy rfl hx hk hK;simp only[Bool.and_eq_true,decide_eq_true_eq] at hb;obtain ⟨⟨⟨b1,b2⟩,b3⟩,b4⟩:=hb;obtain ⟨c,hc,hrc⟩:=hx.one rfl;obtain ⟨q,cap,rfl,hq,_,_⟩:=arr_cell hrc;refine wp_drawE (os:=[oF n TT st 3 t0 p0 e0,oL (n+1) TL n t1 p1 e1,oM (n+2) sv t2 p2 e2,⟨some (n+3),.nilCheck (.tmp (n+2)),t3,p3,e3,none⟩,
      oF (n+4) S (n+3) kf t4 p4 e4,oL (n+5) TS (n+4) t5 p5 e5,⟨some (n+6),.binOp .eql TS (.tmp (n+5)) (.const (.slice none 0 0)) u6,t6,p6,e6,none⟩,⟨some (n+7),.indexAddr TL (.tmp (n+1)) (.const (.int .i64 k)),t7,p7,e7,none⟩,oF (n+8) TT (n+7) 2 t8 p8 e8])
    (headSp e o++[spC [4] (.slice q x.items.length cap),spC [5] (.bool q.isNone),spC [1] (.pointer (some ⟨e.lb,0+(k:Int).toNat * 5,none⟩)),spC [7] (.pointer (some ⟨e.lb,0+(k:Int).toNat * 5+2,none⟩))]) n [] hT.mixed he (by simp[shape]) rfl
    (by simp[headSp,spC]) (by simp;omega) ⟨lCc _ _ _,lCc _ _ _,lCc _ _ _,lCc _ _ _,lCc _ _ _,lCc _ _ _,lCc _ _ _,lCc _ _ _,lCc _ _ _,trivial⟩ ?_ ?_
  · refine ⟨op_c fun a' w' hk' hf' hd' K' hK'=>?_,op_c fun a' w' hk' hf' hd' K' hK'=>?_,op_c fun a' w' hk' hf' hd' K' hK'=>?_,op_c fun a' w' hk' hf' hd' K' hK'=>?_,op_c fun a' w' hk' hf' hd' K' hK'=>?_,
      op_c fun a' w' hk' hf' hd' K' hK'=>?_,op_c fun a' w' hk' hf' hd' K' hK'=>?_,op_c fun a' w' hk' hf' hd' K' hK'=>?_,op_c fun a' w' hk' hf' hd' K' hK'=>?_,trivial⟩
    · exact wFa (hT.flat.field (by decide)) (by rw[eTm,hk'.get st b2,hst]) hK'
    · exact wp_load hT.scl (by rw[eTm];exact hd'.c 0 (by simp) rfl) ((hf'.range hm.tree .nil) 3 _ rfl) hK'
    · rw[wMw,eTm,hk'.get sv b1,hsv];exact hK'
    · exact wNc (by rw[eTm];exact hd'.c 2 (by simp) rfl) hK'
    · exact wFa hS (by rw[eTm];exact hd'.c 3 (by simp) rfl) hK'
    · exact wp_load hf (by rw[eTm];exact hd'.c 4 (by simp) rfl) (hf'.cell hc .nil) hK'
    · exact wp_eqNil h1 (by rw[eTm];exact hd'.c 5 (by simp) rfl) hK'
    · exact wp_indexAddr hT.sl (by rw[eTm];exact hd'.c 1 (by simp) rfl) rfl (by omega) (by omega) hK'
    exact wFa (hT.flat.field (by decide)) (by rw[eTm];exact hd'.c 7 (by simp) rfl) hK'
  intro a' w' hk' hf' hd';have h2:get a' (n+8) = .pointer (some ⟨e.lb,k * 5+2,none⟩):=by
    have:=hd'.c (nd':=[7]) (x:=.pointer (some ⟨e.lb,0+(k:Int).toNat * 5+2,none⟩)) 8 (by simp[headSp]) rfl;rw[this];simp
  have h3:get a' (n+6) = .bool x.isNil:=by rw[← hq];exact hd'.c (nd':=[5]) 6 (by simp[headSp]) rfl
  have hmw:=hm.kept0 hf';obtain ⟨es,h4,h5⟩:=hmw.els k _ hy;obtain ⟨rfl,_⟩:=h5;have hth:w'.there e.lb (k * 5) 5:=there_part hmw.thL (by omega) (by omega);refine wp_store hB (by rw[eTm,h2]) (by rw[eTm,h3]) rfl (there_part hth (by omega) (by omega)) ?_;have hs:=Fr.set w' e.lb (k * 5+2) (.bool x.isNil);have hcells:(w'.setCell ⟨e.lb,k * 5+2,none⟩ (.bool x.isNil)).rangeAt e.lb (k * 5) (lCells x.isNil (.slice none 0 0)):=by
    simp only[zT,range_cons] at h4;obtain ⟨c0,c1,c2,c3,c4,_⟩:=h4;simp only[lCells,range_cons];refine ⟨hs.cell c0 (.cons (.inr (.inl (by simp only;omega))) .nil),hs.cell c1 (.cons (.inr (.inl (by simp only;omega))) .nil),range_set (there_part hth (by omega) (by omega)),hs.cell c3 (.cons (.inr (.inr (by simp only;omega))) .nil),hs.cell c4 (.cons (.inr (.inr (by simp only;omega))) .nil),range_nil⟩
  refine hK _ _ (hk'.mono b3) ?_ ?_
  · refine (hf'.nil (l:=[⟨e.lb,k * 5,k * 5+5⟩])).trans hs ?_;intro r hr;simp at hr;subst hr;exact .inr ⟨⟨e.lb,k * 5,k * 5+5⟩,by simp,rfl,by simp,by simp only;omega⟩
  exact (hmw.cells (y:=.raw (lCells x.isNil (.slice none 0 0))) hk hs (by omega) (by omega) hcells ⟨rfl,rfl,by simp[lCells,Value.oneCell']⟩).up hs.size (Nat.le_refl _)
end Go.Kq

namespace Go.Kq
open Go Go.Proofs
def LOwn (w:World) (A:Nat→Prop) (lv:Value) (l:List T):Prop :=
  ∃ flat,Own w A 5 lv l.length flat∧∀ (i:Nat) (y:T),l[i]?=some y→RepT w (fun b=>A b∧blk lv ≠ some b) ((flat.drop (i * 5)).take 5) y
theorem LOwn.nil {w:World} {A:Nat→Prop}:LOwn w A (.slice none 0 0) []:=⟨[],Own.nil,by simp⟩
theorem LOwn.one {w:World} {A:Nat→Prop} {lv:Value} {l:List T} (h:LOwn w A lv l):lv.oneCell'=true:=by
  obtain ⟨_,h,_⟩:=h;exact h.one
theorem LOwn.things {w:World} {A:Nat→Prop} {lv:Value} {l:List T} (hbig:l.length≤4294967296) (h:LOwn w A lv l):Things w A lv l:=by
  obtain ⟨flat,⟨h1,h2 | ⟨g,o,cap,hg,rfl,hnc,_,hr,_⟩⟩,h3⟩:=h
  · exact .inl ⟨.inl h2.1,List.eq_nil_of_length_eq_zero h2.2⟩
  refine .inr ⟨g,o,cap,hg,rfl,⟨hnc,hbig⟩,fun i=>(flat.drop (i * 5)).take 5,fun i y hi=>range_part hr (i * 5) 5,fun i y hi=>(h3 i y hi).kept (Fr.refl [] w) (by simp) (fun b hb=>hb.1)⟩
theorem LOwn.kept {w w':World} {A A':Nat→Prop} {lv:Value} {l:List T} {r:List Rng} (h:LOwn w A lv l) (hf:Fr r w w') (hl:∀ x ∈ r,¬ A x.b) (hA:∀ b,A b→A' b):LOwn w' A' lv l:=by
  obtain ⟨flat,h1,h2⟩:=h;exact ⟨flat,h1.kept hf (fun x hx hb=>absurd hb (hl x hx)) hA,fun i y hi=>(h2 i y hi).kept hf (fun x hx hb=>hl x hx hb.1) (fun b hb=>⟨hA b hb.1,hb.2⟩)⟩
theorem flat_part {flat cs:List Value} {n i:Nat} (h:flat.length=n * 5) (hi:i < n):((flat++cs).drop (i * 5)).take 5=(flat.drop (i * 5)).take 5:=by
  rw[List.drop_append_of_le_length (by omega),List.take_append_of_le_length (by simp;omega)]
theorem flat_last {flat cs:List Value} {n:Nat} (h:flat.length=n * 5) (hc:cs.length=5):((flat++cs).drop (n * 5)).take 5=cs:=by
  rw[← h,List.drop_left,← hc,List.take_length]
theorem LOwn.app {w w':World} {A A' C:Nat→Prop} {lv lv':Value} {l:List T} {flat cs:List Value} {y:T} (h:∀ (i:Nat) (y:T),l[i]?=some y→RepT w (fun b=>A b∧blk lv ≠ some b) ((flat.drop (i * 5)).take 5) y) (ho:Own w A 5 lv l.length flat)
    (hf:Fr (spare lv 5) w w') (ho':Own w' A' 5 lv' (l.length+1) (flat++cs)) (hbk:blk lv'=blk lv∨blk lv'=some w.heap.size) (hA:∀ b,A b→A' b∧b < w.heap.size) (hy:RepT w C cs y) (hC:∀ b,C b→A b∧blk lv ≠ some b) :
    LOwn w' A' lv' (l++[y]):=by
  have hfl:=ho.1;have hm:∀ b,A b∧blk lv ≠ some b→A' b∧blk lv' ≠ some b:=by
    intro b ⟨h1,h2⟩;refine ⟨(hA b h1).1,?_⟩
    rcases hbk with h3 | h3
    · rw[h3];exact h2
    rw[h3];have:=(hA b h1).2;simp;omega
  have hn:∀ r ∈ spare lv 5,¬ (A r.b∧blk lv ≠ some r.b):=by
    intro r hr ⟨_,h2⟩;unfold spare at hr
    split at hr
    · simp at hr;subst hr;exact h2 rfl
    cases hr
  refine ⟨flat++cs,by rw[List.length_append];exact ho',fun i z hi=>?_⟩
  by_cases hil:i < l.length
  · rw[List.getElem?_append_left hil] at hi;rw[flat_part hfl hil];exact (h i z hi).kept hf hn hm
  rw[List.getElem?_append_right (by omega)] at hi;have hi0:i=l.length:=by
    rcases Nat.lt_or_ge (i - l.length) 1 with h1 | h1
    · omega
    rw[List.getElem?_eq_none (by simpa using h1)] at hi;simp at hi
  subst hi0;rw[Nat.sub_self] at hi;simp at hi
  subst hi;rw[flat_last hfl hy.length];exact hy.kept hf (fun r hr hc=>hn r hr (hC _ hc)) (fun b hb=>hm b (hC b hb))
theorem LOwn.setLast {w:World} {A:Nat→Prop} {lv:Value} {l:List T} {y y0:T} {cs:List Value} {C:Nat→Prop} (h:LOwn w A lv (l++[y0])) (hy:RepT w C cs y) (hC:∀ b,C b→A b∧blk lv ≠ some b) :
    ∃ g o cap,lv = .slice (some ⟨g,o,none⟩) (l.length+1) cap∧A g∧w.there g (o+l.length * 5) 5∧LOwn (w.setCells g (o+l.length * 5) cs) A lv (l++[y]):=by
  obtain ⟨flat,⟨h1,h2 | ⟨g,o,cap,hg,hv,hnc,hcm,hr,ht⟩⟩,h3⟩:=h
  · simp at h2
  simp only[List.length_append,List.length_cons,List.length_nil,Nat.zero_add] at h1 hv hnc;have hmul:(l.length+1) * 5≤cap * 5:=Nat.mul_le_mul_right _ hnc;have hth:w.there g (o+l.length * 5) 5:=there_part ht (by omega) (by omega);have hcl:=hy.length;have hf:=Fr.sets g cs w (o+l.length * 5);rw[hcl] at hf;have hbl:blk lv=some g:=by rw[hv];rfl
  have hn:∀ r ∈ [(⟨g,o+l.length * 5,o+l.length * 5+5⟩:Rng)],¬ (A r.b∧blk lv ≠ some r.b):=by
    intro r hr ⟨_,h2⟩;simp at hr;subst hr;exact h2 hbl
  have hfl:(flat.take (l.length * 5)).length=l.length * 5:=by simp;omega
  refine ⟨g,o,cap,hv,hg,hth,flat.take (l.length * 5)++cs,⟨by simp[hcl];omega,.inr ⟨g,o,cap,hg,by simpa using hv,by simpa using hnc,hcm,?_,hf.there ht⟩⟩,fun i z hi=>?_⟩
  · rw[range_append];have hp:=range_part hr 0 (l.length * 5);rw[List.drop_zero,Nat.add_zero] at hp;refine ⟨hf.range hp (.cons (.inr (.inl (by simp only[hfl];omega))) .nil),?_⟩;rw[hfl];exact World.rangeAt_setCells_same _ _ _ _ (by rw[hcl];exact hth)
  by_cases hil:i < l.length
  · rw[List.getElem?_append_left hil] at hi;rw[flat_part hfl hil];have:=h3 i z (by rw[List.getElem?_append_left hil];exact hi);have he:((flat.take (l.length * 5)).drop (i * 5)).take 5=(flat.drop (i * 5)).take 5:=by
      rw[List.drop_take,List.take_take];congr 1;omega
    rw[he];exact this.kept hf hn (fun _ h=>h)
  rw[List.getElem?_append_right (by omega)] at hi;have hi0:i=l.length:=by
    rcases Nat.lt_or_ge (i - l.length) 1 with h1 | h1
    · omega
    rw[List.getElem?_eq_none (by simpa using h1)] at hi;simp at hi
  subst hi0;rw[Nat.sub_self] at hi;simp at hi
  subst hi;rw[flat_last hfl hcl];exact hy.kept hf (fun r hr hc=>hn r hr (hC _ hc)) (fun b hb=>hC b hb)
def subE (e:Array Edge) (d:List Nat):Bool:=e.all fun x => !Region.binds .any x || d.contains x.on
theorem need_listed {ops:Array Oper} {listed:Array Bool} {i:Nat} {o:Oper} {d:List Nat} (hi:i ∈ Region.ready .any ops listed) (ho:ops[i]?=some o) (h:needE o.after d=true):∀ j ∈ d,listed.getD j false=true:=by
  obtain ⟨_,o',h1,h2⟩:=mem_ready.1 hi;rw[ho] at h1;obtain rfl:=Option.some.inj h1;intro j hj;simp only[needE,List.all_eq_true] at h;obtain ⟨e,he,h3⟩:=Array.any_eq_true'.1 (h j hj);simp only[Bool.and_eq_true,beq_iff_eq] at h3;rw[← h3.2];exact h2 e he h3.1
theorem ready_of {ops:Array Oper} {listed:Array Bool} {i:Nat} {o:Oper} {d:List Nat} (hl:listed.getD i true=false) (ho:ops[i]?=some o) (h:subE o.after d=true) (hd:∀ j ∈ d,listed.getD j false=true):i ∈ Region.ready .any ops listed:=by
  refine mem_ready.2 ⟨hl,o,ho,fun e he hb=>?_⟩;simp only[subE,Array.all_eq_true_iff_forall_mem] at h;have:=h e he;simp only[hb,Bool.not_true,Bool.false_or,List.contains_eq_mem,decide_eq_true_eq] at this;exact hd _ this
theorem wpOp_plain {P:Program} {Q:Exit→Act→World→Prop} {ops:Array Oper} {i:Nat} {o:Oper} {K:Act→World→Prop} {a:Act} {w:World} (ho:ops[i]?=some o) (hg:o.guard=none) (h:OW P o a w K Q):wpOp P ops Q i K a w:=by
  have hw:Region.wanted o (yielded ops a.tmps)=true:=by simp[Region.wanted,hg]
  simp only[wpOp,ho,hw,if_true];exact .inl h.sem
theorem wpAny_step {P:Program} {Q:Exit→Act→World→Prop} {ops:Array Oper} {fuel:Nat} {listed:Array Bool} {a:Act} {w:World} {j:Nat} (hj:j ∈ Region.ready .any ops listed)
    (h:∀ i ∈ Region.ready .any ops listed,wpOp P ops Q i (wpAny P .any ops Q fuel (listed.setIfInBounds i true)) a w):wpAny P .any ops Q (fuel+1) listed a w :=
  ⟨fun h0=>(by rw[h0] at hj;cases hj),h⟩
theorem ready_un {ops:Array Oper} {listed:Array Bool} {i:Nat} (h:i ∈ Region.ready .any ops listed):listed.getD i true=false:=(mem_ready.1 h).1
theorem r_flag {P:Program} {a:Act} {w:World} {K:Act→World→Prop} {Q:Exit→Act→World→Prop} {id n m:Nat} {TB:TypeId} {t0 t1 t2 t3:TypeId} {p0 p1 p2 p3:String} {e0 e1 e2 e3:Array Edge}
    (hmx:P.follows .mixedOrders=true) (hz:zeroOf P TB (.bool false)) (hs:scal P TB=true)
    (he:(subE e0 [] && needE e1 [0] && subE e1 [0] && needE e2 [0] && subE e2 [0] && needE e3 [0,1,2] && subE e3 [0,1,2])=true)
    (hn:n+1 < a.tmps.size) (hm:m≤n)
    (hk:∀ a' w' b,Kept m a a'→Fr [] w w'→get a' (n+1) = .bool b→K a' w') :
    (Code.region id ⟨[⟨some n,.alloc TB,t0,p0,e0,none⟩,⟨none,.store TB (.tmp n) (.const (.bool true)),t1,p1,e1,none⟩,⟨none,.store TB (.tmp n) (.const (.bool false)),t2,p2,e2,none⟩,oL (n+1) TB n t3 p3 e3]⟩ true).wp P (Exit.then K Q) a w:=by
  simp only[Bool.and_eq_true] at he;obtain ⟨⟨⟨⟨⟨⟨s0,n1⟩,s1⟩,n2⟩,s2⟩,n3⟩,s3⟩:=he;refine wp_region_any hmx ?_;generalize hops:(⟨[⟨some n,.alloc TB,t0,p0,e0,none⟩,⟨none,.store TB (.tmp n) (.const (.bool true)),t1,p1,e1,none⟩,⟨none,.store TB (.tmp n) (.const (.bool false)),t2,p2,e2,none⟩,oL (n+1) TB n t3 p3 e3]⟩:Array Oper)=ops;have o0:ops[0]?=some ⟨some n,.alloc TB,t0,p0,e0,none⟩:=by subst hops;rfl
  have o1:ops[1]?=some ⟨none,.store TB (.tmp n) (.const (.bool true)),t1,p1,e1,none⟩:=by subst hops;rfl
  have o2:ops[2]?=some ⟨none,.store TB (.tmp n) (.const (.bool false)),t2,p2,e2,none⟩:=by subst hops;rfl
  have o3:ops[3]?=some (oL (n+1) TB n t3 p3 e3):=by subst hops;rfl
  have hsz:ops.size=4:=by subst hops;rfl
  have hlt:∀ {listed:Array Bool} {i},i ∈ Region.ready .any ops listed→i=0∨i=1∨i=2∨i=3:=by
    intro listed i hi;obtain ⟨_,o,h,_⟩:=mem_ready.1 hi;have:=(Array.getElem?_eq_some_iff.1 h).1;omega
  have nn1:∀ {listed:Array Bool},1 ∈ Region.ready .any ops listed→listed.getD 0 false=true:=fun h=>need_listed h o1 n1 0 (by simp);have nn2:∀ {listed:Array Bool},2 ∈ Region.ready .any ops listed→listed.getD 0 false=true:=fun h=>need_listed h o2 n2 0 (by simp);have nn3:∀ {listed:Array Bool},3 ∈ Region.ready .any ops listed→listed.getD 1 false=true∧listed.getD 2 false=true:=fun h=>⟨need_listed h o3 n3 1 (by simp),need_listed h o3 n3 2 (by simp)⟩;rw[hsz];have hd:=Fr.drew [] w;generalize hwd:({ w with drawn:=w.drawn+1 }:World)=wd;have hwd0:Fr [] w wd:=by subst hwd;exact hd
  have hsd:wd.heap.size=w.heap.size:=by subst hwd;rfl
  -- the end
  have last:∀ (a':Act) (w':World),Kept m a a'→Fr [] w w'→get a' n = .pointer (some ⟨w.heap.size,0,none⟩)→(∃ b,w'.cell? ⟨w.heap.size,0,none⟩=some (.bool b)) →
      wpAny P .any ops (Exit.then K Q) 1 #[true,true,true,false] a' w':=by
    intro a' w' k' f' g' ⟨b,hb⟩;have hs':=k'.size;refine wpAny_step (j:=3) (ready_of rfl o3 s3 (by decide)) fun i hi=>?_;have hu:=ready_un hi
    rcases hlt hi with rfl | rfl | rfl | rfl <;> first | (simp at hu;done) | skip
    refine wpOp_plain o3 rfl (wp_load hs (by rw[eTm,g']) hb ?_);refine wpAny_done ?_ ?_ 0
    · rw [List.eq_nil_iff_forall_not_mem];intro j hj;have hu := ready_un hj
      rcases hlt hj with rfl | rfl | rfl | rfl <;> simp at hu
    exact hk _ _ b (k'.put (by omega) _) f' (gQ)
  have fset:∀ (w':World) (b:Bool),Fr [] w w'→w'.there w.heap.size 0 1→Fr [] w (w'.setCell ⟨w.heap.size,0,none⟩ (.bool b)):=by
    intro w' b f' ht;refine f'.trans (Fr.set w' w.heap.size 0 (.bool b)) ?_;intro r hr;simp at hr;subst hr;exact .inl (Nat.le_refl _)
  have mid1:∀ (a':Act) (w':World),Kept m a a'→Fr [] w w'→get a' n = .pointer (some ⟨w.heap.size,0,none⟩)→w'.there w.heap.size 0 1→wpAny P .any ops (Exit.then K Q) 2 #[true,true,false,false] a' w':=by
    intro a' w' k' f' g' ht;refine wpAny_step (j:=2) (ready_of rfl o2 s2 (by decide)) fun i hi=>?_;have hu:=ready_un hi
    rcases hlt hi with rfl | rfl | rfl | rfl <;> first | (simp at hu;done) | skip
    · exact wpOp_plain o2 rfl (wp_store hs (by rw[eTm,g']) rfl rfl ht (last _ _ k' (fset _ _ f' ht) g' ⟨_,range_set ht⟩))
    have:=(nn3 hi).2;simp at this
  have mid2:∀ (a':Act) (w':World),Kept m a a'→Fr [] w w'→get a' n = .pointer (some ⟨w.heap.size,0,none⟩)→w'.there w.heap.size 0 1→wpAny P .any ops (Exit.then K Q) 2 #[true,false,true,false] a' w':=by
    intro a' w' k' f' g' ht;refine wpAny_step (j:=1) (ready_of rfl o1 s1 (by decide)) fun i hi=>?_;have hu:=ready_un hi
    rcases hlt hi with rfl | rfl | rfl | rfl <;> first | (simp at hu;done) | skip
    · exact wpOp_plain o1 rfl (wp_store hs (by rw[eTm,g']) rfl rfl ht (last _ _ k' (fset _ _ f' ht) g' ⟨_,range_set ht⟩))
    have:=(nn3 hi).1;simp at this
  refine wpAny_step (j:=0) (ready_of rfl o0 s0 (by simp)) fun i hi=>?_
  rcases hlt hi with rfl | rfl | rfl | rfl
  · refine wpOp_plain o0 rfl (wp_alloc hz ?_);have hal := Fr.alloc [] wd (.cells (Value.bool false).cells TB);have hth : (wd.alloc (.cells (Value.bool false).cells TB)).there w.heap.size 0 1 := by rw [← hsd]; exact there_new wd #[.bool false] TB
    have g1:get (a.put (some n) (.pointer (some ⟨wd.heap.size,0,none⟩))) n = .pointer (some ⟨w.heap.size,0,none⟩):=by rw[gQ,hsd]
    refine wpAny_step (j:=1) (ready_of rfl o1 s1 (by decide)) fun i hi=>?_;have hu:=ready_un hi
    rcases hlt hi with rfl | rfl | rfl | rfl <;> first | (simp at hu;done) | skip
    · exact wpOp_plain o1 rfl (wp_store hs (by rw[eTm,g1]) rfl rfl hth (mid1 _ _ (Kept.put0 hm _) (fset _ _ (hwd0.tr hal) hth) g1 ((Fr.set _ _ _ _).there hth)))
    · exact wpOp_plain o2 rfl (wp_store hs (by rw[eTm,g1]) rfl rfl hth (mid2 _ _ (Kept.put0 hm _) (fset _ _ (hwd0.tr hal) hth) g1 ((Fr.set _ _ _ _).there hth)))
    have:=(nn3 hi).1;simp at this
  · have:=nn1 hi;simp at this
  · have:=nn2 hi;simp at this
  have:=(nn3 hi).1;simp at this
end Go.Kq

namespace Go.Kq
open Go Go.Proofs
structure TellM (P:Program) (f:FuncId) (ty:Ty) (g:V→T):Prop where
  enters:Enters P f
  call:∀ w pb po c x B,w.rangeAt pb po c→Rep w B ty c x→(∀ b,B b→b < w.heap.size)→pb < w.heap.size →
    Calls P f #[.pointer (some ⟨pb,po,none⟩)] w fun e w'=>∃ cs:List Value,e = .returned (.agg cs.toArray)∧Fr [] w w'∧RepT w' (fun b=>w.heap.size≤b∧b < w'.heap.size) cs (g x)
theorem LOwn.spares {w w':World} {A A':Nat→Prop} {lv:Value} {l:List T} (h:LOwn w A lv l) (hf:Fr (spare lv 5) w w') (hA:∀ b,A b→A' b):LOwn w' A' lv l:=by
  obtain ⟨flat,h1,h2⟩:=h;refine ⟨flat,h1.kept hf ?_ hA,fun i y hi=>(h2 i y hi).kept hf ?_ (fun b hb=>⟨hA b hb.1,hb.2⟩)⟩
  · intro r hr _ g o cap hv _;rw [hv, spare_some] at hr;simp at hr; subst hr
    exact .inr (by simp)
  intro r hr ⟨_,hn⟩;unfold spare at hr
  split at hr
  · simp at hr;subst hr;exact hn rfl
  cases hr
theorem LOwn.spare_in {w:World} {A:Nat→Prop} {lv:Value} {l:List T} (h:LOwn w A lv l):∀ r ∈ spare lv 5,A r.b:=by
  obtain ⟨_,h,_⟩:=h;exact h.spare_in
theorem LOwn.blk_in {w:World} {A:Nat→Prop} {lv:Value} {l:List T} (h:LOwn w A lv l) {b:Nat} (hb:blk lv=some b):A b:=by
  obtain ⟨_,⟨_,h | ⟨g,o,cap,hg,h,_⟩⟩,_⟩:=h
  · rw[h.1] at hb;simp[blk] at hb
  rw[h] at hb;simp[blk] at hb;subst hb;exact hg
def AppStep (P:Program) (N sv st si m:Nat) (c:Code) (k o:Nat) (t:Ty) (g:V→T):Prop :=
  ∀ (e : TEnv) (K : Act → World → Prop) (Q : Exit → Act → World → Prop) (a : Act) (w : World) (ts : List Slot) (s1 : Nat) (b : Bool) (lv : Value) (l : List T) (x : V) (j : Nat) (y : V),
    a.tmps.size=N→get a sv = .pointer (some ⟨e.pb,e.po,none⟩)→get a st = .pointer (some ⟨e.tb,0,none⟩)→get a si = .int .i64 j →
    TM w e (.slice none 0 0) ts s1→ts[k]?=some (.raw (lCells b lv))→LOwn w (From s1 w) lv l→FldAt w e o (.arr t) x→x.items[j]?=some y→k < e.n→l.length < 4294967296 →
    (∀ a' w' lv',Kept m a a'→(∃ r:List Rng,(∀ x ∈ r,s1≤x.b)∧Fr (⟨e.lb,k * 5,k * 5+5⟩::r) w w')→TM w' e (.slice none 0 0) (ts.set k (.raw (lCells b lv'))) s1→LOwn w' (From s1 w') lv' (l++[g y])→K a' w') →
    c.wp P (Exit.then K Q) a w
theorem TM.setL {w:World} {e:TEnv} {ts:List Slot} {k hi:Nat} {b:Bool} {lv lv':Value} (h:TM w e (.slice none 0 0) ts hi) (hk:k < e.n) (hy:ts[k]?=some (.raw (lCells b lv))) (h1:lv'.oneCell'=true) :
    TM (w.setCell ⟨e.lb,k * 5+3,none⟩ lv') e (.slice none 0 0) (ts.set k (.raw (lCells b lv'))) hi∧Fr [⟨e.lb,k * 5,k * 5+5⟩] w (w.setCell ⟨e.lb,k * 5+3,none⟩ lv'):=by
  have hs:=Fr.set w e.lb (k * 5+3) lv';have hth:w.there e.lb (k * 5) 5:=there_part h.thL (by omega) (by omega);obtain ⟨es,h4,rfl,_⟩:=h.els k _ hy;refine ⟨h.cells (y:=.raw (lCells b lv')) (cs:=lCells b lv') hk hs (by omega) (by omega) ?_ ⟨rfl,rfl,by simp[lCells,Value.oneCell'] at h1 ⊢;exact h1⟩,hs.mono ?_⟩
  · simp only[lCells,range_cons] at h4 ⊢;obtain ⟨c0,c1,c2,c3,c4,_⟩:=h4;exact ⟨hs.cell c0 (.cons (.inr (.inl (by simp only;omega))) .nil),hs.cell c1 (.cons (.inr (.inl (by simp only;omega))) .nil),hs.cell c2 (.cons (.inr (.inl (by simp only;omega))) .nil),range_set (there_part hth (by omega) (by omega)),hs.cell c4 (.cons (.inr (.inr (by simp only;omega))) .nil),range_nil⟩
  intro r hr;simp at hr;subst hr;exact .inr ⟨⟨e.lb,k * 5,k * 5+5⟩,by simp,rfl,by simp,by simp only;omega⟩
variable {P:Program} {TT TL S TS:TypeId} {N sv st si m n k o kf id id2:Nat}
theorem app_call2 {t:Ty} {f:FuncId} {g:V→T} {ats:Array TypeId} (hT:TreeTys P TT TL) (hf:TellM P f t g)
    {t0 t1 t2 t3 t4 t5 t6 t7 t8 t9 t10 t11 t12 t13 t14 t15 t16 t17 t18:TypeId} {p0 p1 p2 p3 p4 p5 p6 p7 p8 p9 p10 p11 p12 p13 p14 p15 p16 p17 p18:String} {e0 e1 e2 e3 e4 e5 e6 e7 e8 e9 e10 e11 e12 e13 e14 e15 e16 e17 e18:Array Edge}
    (he:edgeOk 0 [e0,e1,e2,e3,e4,e5,e6,e7,e8,e9,e10,e11,e12,e13,e14,e15,e16,e17,e18] [[],[0],[],[2],[3],[4],[5],[],[7],[8],[9],[],[10,11],[12],[13],[6,14],[1],[16],[0,1,2,3,4,5,6,7,8,9,10,11,12,13,14,15,16,17]]=true)
    (hS:fieldOf P S kf o=true) (hTS0:sliceN P TS t.size=true) (hscl:scal P TS=true)
    (hb:(decide (sv < n) && decide (st < n) && decide (si < n) && decide (m≤n) && decide (n+18≤N))=true) :
    AppStep P N sv st si m (Code.region id ⟨[oF n TT st 3 t0 p0 e0,oL (n+1) TL n t1 p1 e1,oF (n+2) TT st 3 t2 p2 e2,oL (n+3) TL (n+2) t3 p3 e3,⟨some (n+4),.indexAddr TL (.tmp (n+3)) (.const (.int .i64 k)),t4,p4,e4,none⟩,oF (n+5) TT (n+4) 3 t5 p5 e5,oL (n+6) TL (n+5) t6 p6 e6,
      oM (n+7) sv t7 p7 e7,⟨some (n+8),.nilCheck (.tmp (n+7)),t8,p8,e8,none⟩,oF (n+9) S (n+8) kf t9 p9 e9,oL (n+10) TS (n+9) t10 p10 e10,
      oM (n+11) si t11 p11 e11,⟨some (n+12),.indexAddr TS (.tmp (n+10)) (.tmp (n+11)),t12,p12,e12,none⟩,oC (n+13) f #[.tmp (n+12)] ats t13 p13 e13,⟨some (n+14),.buildSlice TL 1 #[(0,.tmp (n+13))],t14,p14,e14,none⟩,⟨some (n+15),.call ⟨.builtin .append,#[.tmp (n+6),.tmp (n+14)],#[TL,TL]⟩,t15,p15,e15,none⟩,⟨some (n+16),.indexAddr TL (.tmp (n+1)) (.const (.int .i64 k)),t16,p16,e16,none⟩,oF (n+17) TT (n+16) 3 t17 p17 e17,oS TL (n+17) (n+15) t18 p18 e18]⟩ true) k o t g:=by
  intro e K Q a w ts s1 b lv l x j y hN hsv hst hsi hm hy hlo hx hj hk hll hK;obtain ⟨et,es,hTS⟩:=sliceN_is hTS0;simp only[Bool.and_eq_true,decide_eq_true_eq] at hb;obtain ⟨⟨⟨⟨b1,b2⟩,b3⟩,b4⟩,b5⟩:=hb;obtain ⟨c,hc,hrc⟩:=hx.one rfl;obtain ⟨q,cap,rfl,hq,_,hel⟩:=arr_cell hrc;have hjl:j < x.items.length:=(List.getElem?_eq_some_iff.1 hj).1;obtain ⟨qa,rfl⟩:∃ qa,q=some qa:=by
    cases q with
    | some qa=>exact ⟨qa,rfl⟩
    | none=>cases x <;> simp[V.isNil] at hq;simp[V.items] at hjl
  obtain ⟨sb,so,rfl,hB,hels⟩:=hel _ rfl;obtain ⟨ce,hce,hcl,hre⟩:=hels j y hj;have hBs:=hm.bs sb hB;have hs01:e.s0≤s1:=hm.s0;have hs1:s1≤w.heap.size:=hm.top;have hsp:∀ r ∈ spare lv 5,From s1 w r.b:=hlo.spare_in;have hpb:e.pb < e.s0:=hm.ps;have hfp:∀ w',Fr (spare lv 5) w w'→w'.cell? ⟨e.pb,e.po+o,none⟩=some (.slice (some ⟨sb,so,none⟩) x.items.length cap):=fun w' hf'=>hf'.cell hc (fun r hr=>.inl (by have:=hsp r hr;unfold From at this;omega));have hzero:=hT.zero;refine wp_drawE (os:=[oF n TT st 3 t0 p0 e0,oL (n+1) TL n t1 p1 e1,oF (n+2) TT st 3 t2 p2 e2,oL (n+3) TL (n+2) t3 p3 e3,⟨some (n+4),.indexAddr TL (.tmp (n+3)) (.const (.int .i64 k)),t4,p4,e4,none⟩,oF (n+5) TT (n+4) 3 t5 p5 e5,oL (n+6) TL (n+5) t6 p6 e6,
      oM (n+7) sv t7 p7 e7,⟨some (n+8),.nilCheck (.tmp (n+7)),t8,p8,e8,none⟩,oF (n+9) S (n+8) kf t9 p9 e9,oL (n+10) TS (n+9) t10 p10 e10,
      oM (n+11) si t11 p11 e11,⟨some (n+12),.indexAddr TS (.tmp (n+10)) (.tmp (n+11)),t12,p12,e12,none⟩,oC (n+13) f #[.tmp (n+12)] ats t13 p13 e13,⟨some (n+14),.buildSlice TL 1 #[(0,.tmp (n+13))],t14,p14,e14,none⟩,⟨some (n+15),.call ⟨.builtin .append,#[.tmp (n+6),.tmp (n+14)],#[TL,TL]⟩,t15,p15,e15,none⟩,⟨some (n+16),.indexAddr TL (.tmp (n+1)) (.const (.int .i64 k)),t16,p16,e16,none⟩,oF (n+17) TT (n+16) 3 t17 p17 e17])
    [spC [] (.pointer (some ⟨e.tb,0+3,none⟩)),spC [0] (.slice (some ⟨e.lb,0,none⟩) e.n e.n),spC [] (.pointer (some ⟨e.tb,0+3,none⟩)),spC [2] (.slice (some ⟨e.lb,0,none⟩) e.n e.n),
      spC [3] (.pointer (some ⟨e.lb,0+(k:Int).toNat * 5,none⟩)),spC [4] (.pointer (some ⟨e.lb,0+(k:Int).toNat * 5+3,none⟩)),spC [5] lv,
      spC [] (.pointer (some ⟨e.pb,e.po,none⟩)),spC [7] (.pointer (some ⟨e.pb,e.po,none⟩)),spC [8] (.pointer (some ⟨e.pb,e.po+o,none⟩)),spC [9] (.slice (some ⟨sb,so,none⟩) x.items.length cap),
      spC [] (.int .i64 j),spC [10,11] (.pointer (some ⟨sb,so+(j:Int).toNat * t.size,none⟩)),spR [12] (fun v w'=>∃ cs:List Value,v = .agg cs.toArray∧RepT w' (From w.heap.size w') cs (g y)),
      spR [13] (fun v w'=>∃ (b:Nat) (cs:List Value),v = .slice (some ⟨b,0,none⟩) 1 1∧w.heap.size≤b∧w'.rangeAt b 0 cs∧RepT w' (From w.heap.size w') cs (g y)),
      spW [6,14] (fun v w'=>LOwn w' (From s1 w') v (l++[g y])),
      spC [1] (.pointer (some ⟨e.lb,0+(k:Int).toNat * 5,none⟩)),spC [16] (.pointer (some ⟨e.lb,0+(k:Int).toNat * 5+3,none⟩))] n (spare lv 5) hT.mixed he (by simp[shape]) rfl
    (by simp[spC,spR,spW]) (by simp;omega)
    ⟨lCc _ _ _,lCc _ _ _,lCc _ _ _,lCc _ _ _,lCc _ _ _,lCc _ _ _,lCc _ _ _,lCc _ _ _,lCc _ _ _,lCc _ _ _,lCc _ _ _,lCc _ _ _,lCc _ _ _,?_,?_,?_,lCc _ _ _,lCc _ _ _,trivial⟩ ?_ ?_
  · rintro v w1 w2 hf12 ⟨cs,h1,h2⟩;exact ⟨cs,h1,h2.kept hf12 (fun r hr hF=>by have:=hsp r hr;unfold From at this hF;omega) (From.mono hf12.size)⟩
  · rintro v w1 w2 hf12 ⟨b,cs,h1,h2,h3,h4⟩;exact ⟨b,cs,h1,h2,hf12.range h3 (fun r hr=>.inl (by have:=hsp r hr;unfold From at this;omega)),h4.kept hf12 (fun r hr hF=>by have:=hsp r hr;unfold From at this hF;omega) (From.mono hf12.size)⟩
  · intro v w1 w2 hf12 h1;have hf12:Fr [] w1 w2:=hf12;have h1:LOwn w1 (From s1 w1) v (l++[g y]):=h1;exact h1.kept hf12 (by simp) (From.mono hf12.size)
  · refine ⟨op_c fun a' w' hk' hf' hd' K' hK'=>?_,op_c fun a' w' hk' hf' hd' K' hK'=>?_,op_c fun a' w' hk' hf' hd' K' hK'=>?_,op_c fun a' w' hk' hf' hd' K' hK'=>?_,op_c fun a' w' hk' hf' hd' K' hK'=>?_,
      op_c fun a' w' hk' hf' hd' K' hK'=>?_,op_c fun a' w' hk' hf' hd' K' hK'=>?_,op_c fun a' w' hk' hf' hd' K' hK'=>?_,op_c fun a' w' hk' hf' hd' K' hK'=>?_,op_c fun a' w' hk' hf' hd' K' hK'=>?_,
      op_c fun a' w' hk' hf' hd' K' hK'=>?_,op_c fun a' w' hk' hf' hd' K' hK'=>?_,op_c fun a' w' hk' hf' hd' K' hK'=>?_,op_r fun a' w' hk' hf' hd' K' hK'=>?_,op_r fun a' w' hk' hf' hd' K' hK'=>?_,
      op_w fun a' w' hk' hf' hd' K' hK'=>?_,op_c fun a' w' hk' hf' hd' K' hK'=>?_,op_c fun a' w' hk' hf' hd' K' hK'=>?_,trivial⟩
    · exact wFa (hT.flat.field (by decide)) (by rw[eTm,hk'.get st b2,hst]) hK'
    · exact wp_load hT.scl (by rw[eTm];exact hd'.c 0 (by simp) rfl) ((hm.kept hf' (fun r hr=>(hsp r hr).1)).tree 3 _ rfl) hK'
    · exact wFa (hT.flat.field (by decide)) (by rw[eTm,hk'.get st b2,hst]) hK'
    · exact wp_load hT.scl (by rw[eTm];exact hd'.c 2 (by simp) rfl) ((hm.kept hf' (fun r hr=>(hsp r hr).1)).tree 3 _ rfl) hK'
    · exact wp_indexAddr hT.sl (by rw[eTm];exact hd'.c 3 (by simp) rfl) rfl (by omega) (by omega) hK'
    · exact wFa (hT.flat.field (by decide)) (by rw[eTm];exact hd'.c 4 (by simp) rfl) hK'
    · obtain ⟨es, h4, rfl, _⟩ := (hm.kept hf' (fun r hr => (hsp r hr).1)).els k _ hy;refine wp_load hT.scl (by rw [eTm]; exact hd'.c 5 (by simp) rfl) ?_ hK';have := h4 3 lv rfl
      simpa using this
    · rw[wMw,eTm,hk'.get sv b1,hsv];exact hK'
    · exact wNc (by rw[eTm];exact hd'.c 7 (by simp) rfl) hK'
    · exact wFa hS (by rw[eTm];exact hd'.c 8 (by simp) rfl) hK'
    · exact wp_load hscl (by rw[eTm];exact hd'.c 9 (by simp) rfl) (hfp w' hf') hK'
    · rw[wMw,eTm,hk'.get si b3,hsi];exact hK'
    · exact wp_indexAddr hTS (by rw[eTm];exact hd'.c 10 (by simp) rfl) (by rw[eTm];exact hd'.c 11 (by simp) rfl) (by omega) (by omega) hK'
    · have hx12:get a' (n+12) = .pointer (some ⟨sb,so+j * t.size,none⟩):=by
        have:=hd'.c (nd':=[10,11]) (x:=.pointer (some ⟨sb,so+(j:Int).toNat * t.size,none⟩)) 12 (by simp) rfl;rw[this];simp
      have hwf:=hf'.size;refine wp_calls hf.enters (vs:=#[.pointer (some ⟨sb,so+j * t.size,none⟩)]) (by simp[eTm,hx12]) (R:=fun v w2=>∃ cs:List Value,v = .agg cs.toArray∧Fr [] w' w2∧RepT w2 (From w'.heap.size w2) cs (g y)) ?_ ?_
      · have hB0 : ∀ b, e.B b → b < w'.heap.size := fun b hb => by have := hm.bs b hb; omega
        refine (hf.call w' sb (so+j * t.size) ce y e.B (hf'.range hce ?_) (hre.kept hf' ?_ (fun _ h=>h)) hB0 (hB0 sb hB)).mono ?_
        · intro r hr;left;have:=hsp r hr;unfold From at this;omega
        · intro r hr hBr;have:=hsp r hr;unfold From at this;have:=hm.bs _ hBr;omega
        rintro e' w2 ⟨cs,rfl,h1,h2⟩;exact ⟨_,rfl,cs,rfl,h1,h2⟩
      rintro v w2 ⟨cs,rfl,h1,h2⟩;exact hK' _ _ ⟨cs,rfl,h2.kept (Fr.refl [] w2) (by simp) (fun b hb=>⟨by have:=hb.1;omega,hb.2⟩)⟩ h1
    · obtain ⟨cs,h1,h2⟩:=hd'.at (d:=13) (by simp) rfl;have hwf:=hf'.size;refine wp_slice1 hT.sl hzero rfl (by omega) (cs:=cs) (by rw[eTm,h1];rfl) h2.length fun _=>?_;have hal:=Fr.alloc [] w' (.cells cs.toArray TT);exact hK' _ _ ⟨_,cs,rfl,hwf,range_new w' cs.toArray TT (0,0),h2.kept hal (by simp) (From.mono hal.size)⟩ hal
    · obtain ⟨bb, cs, h1, h2, h3, h4⟩ := hd'.at (d := 14) (by simp) rfl;have hlv : get a' (n + 6) = lv := hd'.c 6 (by simp) rfl;have hwf := hf'.size;obtain ⟨flat, ho1, ho2⟩ := hlo.spares hf' (A' := From s1 w') (From.mono hf'.size);have hc4 := h4.length;refine wp_append (A := From s1 w') (z := zT) hT.sl hzero rfl (by rw [eTm, hlv]) (by rw [eTm, h1]) ho1 (by omega) (news := cs) (by omega) h3 h4.ones (by omega) (by simp only [maxLen]; omega) ?_;intro v' w2 hf2 ho' hbk;refine hK' _ _ ?_ hf2;have hf2s := hf2.size;refine LOwn.app (A' := From s1 w2) ho2 ho1 hf2 ?_ hbk (fun b hb => ⟨From.mono hf2s b hb, hb.2⟩) h4 ?_
      · obtain ⟨ha, hb⟩ := ho';refine ⟨ha, hb.imp (fun h => h) ?_⟩;rintro ⟨g', o', cap', hg', hrest⟩;refine ⟨g', o', cap', ?_, hrest⟩
        rcases hg' with hg' | hg'
        · exact From.mono hf2s _ hg'
        exact ⟨by have:=hg'.1;omega,hg'.2⟩
      intro b hb;refine ⟨⟨by have:=hb.1;omega,hb.2⟩,fun hbl=>?_⟩;have:=(hlo.blk_in hbl).2;have:=hb.1;omega
    · exact wp_indexAddr hT.sl (by rw[eTm];exact hd'.c 1 (by simp) rfl) rfl (by omega) (by omega) hK'
    exact wFa (hT.flat.field (by decide)) (by rw[eTm];exact hd'.c 16 (by simp) rfl) hK'
  intro a' w' hk' hf' hd';have h17:get a' (n+17) = .pointer (some ⟨e.lb,k * 5+3,none⟩):=by
    have:=hd'.c (nd':=[16]) (x:=.pointer (some ⟨e.lb,0+(k:Int).toNat * 5+3,none⟩)) 17 (by simp) rfl;rw[this];simp
  have h15:LOwn w' (From s1 w') (get a' (n+15)) (l++[g y]):=hd'.at (d:=15) (by simp) rfl;have hmw:=hm.kept hf' (fun r hr=>(hsp r hr).1);have hth:w'.there e.lb (k * 5) 5:=there_part hmw.thL (by omega) (by omega);refine wp_store hT.scl (by rw[eTm,h17]) rfl h15.one (there_part hth (by omega) (by omega)) ?_;obtain ⟨h5,h6⟩:=hmw.setL hk hy h15.one;refine hK _ _ _ (hk'.mono b4) ⟨spare lv 5,fun r hr=>(hsp r hr).1,?_⟩ h5 (h15.kept h6 ?_ (From.mono h6.size))
  · refine (hf'.mono (l':=⟨e.lb,k * 5,k * 5+5⟩::spare lv 5) (fun r hr=>Rng.in_self (List.mem_cons_of_mem _ hr))).trans h6 ?_;intro r hr;simp at hr;subst hr;exact Rng.in_self (by simp)
  intro r hr hF;simp at hr;subst hr;have:=hF.1;have:=hm.ls;simp only at *;omega
end Go.Kq

namespace Go.Kq
open Go Go.Proofs
variable {P:Program} {TT TL S TS:TypeId} {N sv st si m n k o kf id id2:Nat}
theorem app_call1 {t:Ty} {f:FuncId} {g:V→T} {ats:Array TypeId} (hT:TreeTys P TT TL) (hf:TellM P f t g) {zt:Array Value} (hzt:zt.toList=zT)
    {t0 t1 t2 t3 t4 t5 t6 t7 t8 t9 t10 t11 t12 t13 t14 t15 t16 t17 t18 t19:TypeId} {p0 p1 p2 p3 p4 p5 p6 p7 p8 p9 p10 p11 p12 p13 p14 p15 p16 p17 p18 p19:String} {e0 e1 e2 e3 e4 e5 e6 e7 e8 e9 e10 e11 e12 e13 e14 e15 e16 e17 e18 e19:Array Edge}
    (he:edgeOk 0 [e0,e1,e2,e3,e4,e5,e6,e7,e8,e9,e10,e11,e12,e13,e14,e15,e16,e17] [[],[0],[1],[2],[3],[],[5],[6],[7],[],[8,9],[10],[4],[],
      [0,1,2,3,4,5,6,7,8,9,10,11,12,13],[0,1,2,3,4,5,6,7,8,9,10,11,12,13,14],[0,1,2,3,4,5,6,7,8,9,10,11,12,13,14,15],[0,1,2,3,4,5,6,7,8,9,10,11,12,13,14,15,16]]=true)
    (hS:fieldOf P S kf o=true) (hTS0:sliceN P TS t.size=true) (hscl:scal P TS=true)
    (hb:(decide (sv < n) && decide (st < n) && decide (si < n) && decide (m≤n) && decide (n+18≤N))=true) :
    AppStep P N sv st si m (.seq (Code.region id ⟨[oF n TT st 3 t0 p0 e0,oL (n+1) TL n t1 p1 e1,⟨some (n+2),.indexAddr TL (.tmp (n+1)) (.const (.int .i64 k)),t2,p2,e2,none⟩,oF (n+3) TT (n+2) 3 t3 p3 e3,oL (n+4) TL (n+3) t4 p4 e4,
      oM (n+5) sv t5 p5 e5,⟨some (n+6),.nilCheck (.tmp (n+5)),t6,p6,e6,none⟩,oF (n+7) S (n+6) kf t7 p7 e7,oL (n+8) TS (n+7) t8 p8 e8,
      oM (n+9) si t9 p9 e9,⟨some (n+10),.indexAddr TS (.tmp (n+8)) (.tmp (n+9)),t10,p10,e10,none⟩,oC (n+11) f #[.tmp (n+10)] ats t11 p11 e11,⟨some (n+12),.call ⟨.builtin .len,#[.tmp (n+4)],#[TL]⟩,t12,p12,e12,none⟩,⟨some (n+13),.buildSlice TL 1 #[(0,.const (.agg zt))],t13,p13,e13,none⟩,⟨some (n+14),.call ⟨.builtin .append,#[.tmp (n+4),.tmp (n+13)],#[TL,TL]⟩,t14,p14,e14,none⟩,⟨some (n+15),.indexAddr TL (.tmp (n+1)) (.const (.int .i64 k)),t15,p15,e15,none⟩,oF (n+16) TT (n+15) 3 t16 p16 e16,oS TL (n+16) (n+14) t17 p17 e17]⟩ true)
      (Code.region id2 ⟨[⟨some (n+17),.indexAddr TL (.tmp (n+14)) (.tmp (n+12)),t18,p18,e18,none⟩,oS TT (n+17) (n+11) t19 p19 e19]⟩ false)) k o t g:=by
  intro e K Q a w ts s1 b lv l x j y hN hsv hst hsi hm hy hlo hx hj hk hll hK;obtain ⟨et,es,hTS⟩:=sliceN_is hTS0;simp only[Bool.and_eq_true,decide_eq_true_eq] at hb;obtain ⟨⟨⟨⟨b1,b2⟩,b3⟩,b4⟩,b5⟩:=hb;obtain ⟨c,hc,hrc⟩:=hx.one rfl;obtain ⟨q,cap,rfl,hq,_,hel⟩:=arr_cell hrc;have hjl:j < x.items.length:=(List.getElem?_eq_some_iff.1 hj).1;obtain ⟨qa,rfl⟩:∃ qa,q=some qa:=by
    cases q with
    | some qa=>exact ⟨qa,rfl⟩
    | none=>cases x <;> simp[V.isNil] at hq;simp[V.items] at hjl
  obtain ⟨sb,so,rfl,hB,hels⟩:=hel _ rfl;obtain ⟨ce,hce,hcl,hre⟩:=hels j y hj;have hBs:=hm.bs sb hB;have hs01:e.s0≤s1:=hm.s0;have hs1:s1≤w.heap.size:=hm.top;have hpb:e.pb < e.s0:=hm.ps;have hzero:=hT.zero;have hloc:=hlo;obtain ⟨flat0,ho0,hel0⟩:=hloc;have hlvq:∃ lq lcap,lv = .slice lq l.length lcap:=by
    obtain ⟨_,h | ⟨g',o',cap',_,h,_⟩⟩:=ho0
    · exact ⟨none,0,by rw[h.1,h.2]⟩
    exact ⟨_,_,h⟩
  obtain ⟨lq,lcap,hlv0⟩:=hlvq;have hztc:(Value.agg zt).cells=zT.toArray:=by show zt=zT.toArray;rw[← hzt]
  refine wp_seq_k fun K1 hK1=>?_;refine wp_drawR (os:=[oF n TT st 3 t0 p0 e0,oL (n+1) TL n t1 p1 e1,⟨some (n+2),.indexAddr TL (.tmp (n+1)) (.const (.int .i64 k)),t2,p2,e2,none⟩,oF (n+3) TT (n+2) 3 t3 p3 e3,oL (n+4) TL (n+3) t4 p4 e4,
      oM (n+5) sv t5 p5 e5,⟨some (n+6),.nilCheck (.tmp (n+5)),t6,p6,e6,none⟩,oF (n+7) S (n+6) kf t7 p7 e7,oL (n+8) TS (n+7) t8 p8 e8,
      oM (n+9) si t9 p9 e9,⟨some (n+10),.indexAddr TS (.tmp (n+8)) (.tmp (n+9)),t10,p10,e10,none⟩,oC (n+11) f #[.tmp (n+10)] ats t11 p11 e11,⟨some (n+12),.call ⟨.builtin .len,#[.tmp (n+4)],#[TL]⟩,t12,p12,e12,none⟩,⟨some (n+13),.buildSlice TL 1 #[(0,.const (.agg zt))],t13,p13,e13,none⟩])
    (rest:=[⟨some (n+14),.call ⟨.builtin .append,#[.tmp (n+4),.tmp (n+13)],#[TL,TL]⟩,t14,p14,e14,none⟩,⟨some (n+15),.indexAddr TL (.tmp (n+1)) (.const (.int .i64 k)),t15,p15,e15,none⟩,oF (n+16) TT (n+15) 3 t16 p16 e16,oS TL (n+16) (n+14) t17 p17 e17])
    [spC [] (.pointer (some ⟨e.tb,0+3,none⟩)),spC [0] (.slice (some ⟨e.lb,0,none⟩) e.n e.n),
      spC [1] (.pointer (some ⟨e.lb,0+(k:Int).toNat * 5,none⟩)),spC [2] (.pointer (some ⟨e.lb,0+(k:Int).toNat * 5+3,none⟩)),spC [3] lv,
      spC [] (.pointer (some ⟨e.pb,e.po,none⟩)),spC [5] (.pointer (some ⟨e.pb,e.po,none⟩)),spC [6] (.pointer (some ⟨e.pb,e.po+o,none⟩)),spC [7] (.slice (some ⟨sb,so,none⟩) x.items.length cap),
      spC [] (.int .i64 j),spC [8,9] (.pointer (some ⟨sb,so+(j:Int).toNat * t.size,none⟩)),spR [10] (fun v w'=>∃ cs:List Value,v = .agg cs.toArray∧RepT w' (From w.heap.size w') cs (g y)),
      spC [4] (.int .i64 l.length),spR [] (fun v w'=>∃ (b:Nat),v = .slice (some ⟨b,0,none⟩) 1 1∧w.heap.size≤b∧w'.rangeAt b 0 zT)] n [] hT.mixed he (by simp[shape]) rfl
    (by simp[spC,spR]) (by simp;omega)
    ⟨lCc _ _ _,lCc _ _ _,lCc _ _ _,lCc _ _ _,lCc _ _ _,lCc _ _ _,lCc _ _ _,lCc _ _ _,lCc _ _ _,lCc _ _ _,lCc _ _ _,?_,lCc _ _ _,?_,trivial⟩ ?_ ?_
  · rintro v w1 w2 hf12 ⟨cs,h1,h2⟩;have hf12:Fr [] w1 w2:=hf12;exact ⟨cs,h1,h2.kept hf12 (by simp) (From.mono hf12.size)⟩
  · rintro v w1 w2 hf12 ⟨b,h1,h2,h3⟩;have hf12:Fr [] w1 w2:=hf12;exact ⟨b,h1,h2,hf12.range h3 .nil⟩
  · refine ⟨op_c fun a' w' hk' hf' hd' K' hK'=>?_,op_c fun a' w' hk' hf' hd' K' hK'=>?_,op_c fun a' w' hk' hf' hd' K' hK'=>?_,op_c fun a' w' hk' hf' hd' K' hK'=>?_,op_c fun a' w' hk' hf' hd' K' hK'=>?_,
      op_c fun a' w' hk' hf' hd' K' hK'=>?_,op_c fun a' w' hk' hf' hd' K' hK'=>?_,op_c fun a' w' hk' hf' hd' K' hK'=>?_,op_c fun a' w' hk' hf' hd' K' hK'=>?_,op_c fun a' w' hk' hf' hd' K' hK'=>?_,
      op_c fun a' w' hk' hf' hd' K' hK'=>?_,op_r fun a' w' hk' hf' hd' K' hK'=>?_,op_c fun a' w' hk' hf' hd' K' hK'=>?_,op_r fun a' w' hk' hf' hd' K' hK'=>?_,trivial⟩
    · exact wFa (hT.flat.field (by decide)) (by rw[eTm,hk'.get st b2,hst]) hK'
    · exact wp_load hT.scl (by rw[eTm];exact hd'.c 0 (by simp) rfl) ((hm.kept hf' (by simp)).tree 3 _ rfl) hK'
    · exact wp_indexAddr hT.sl (by rw[eTm];exact hd'.c 1 (by simp) rfl) rfl (by omega) (by omega) hK'
    · exact wFa (hT.flat.field (by decide)) (by rw[eTm];exact hd'.c 2 (by simp) rfl) hK'
    · obtain ⟨es, h4, rfl, _⟩ := (hm.kept hf' (by simp)).els k _ hy;refine wp_load hT.scl (by rw [eTm]; exact hd'.c 3 (by simp) rfl) ?_ hK';have := h4 3 lv rfl
      simpa using this
    · rw[wMw,eTm,hk'.get sv b1,hsv];exact hK'
    · exact wNc (by rw[eTm];exact hd'.c 5 (by simp) rfl) hK'
    · exact wFa hS (by rw[eTm];exact hd'.c 6 (by simp) rfl) hK'
    · exact wp_load hscl (by rw[eTm];exact hd'.c 7 (by simp) rfl) (hf'.cell hc .nil) hK'
    · rw[wMw,eTm,hk'.get si b3,hsi];exact hK'
    · exact wp_indexAddr hTS (by rw[eTm];exact hd'.c 8 (by simp) rfl) (by rw[eTm];exact hd'.c 9 (by simp) rfl) (by omega) (by omega) hK'
    · have hx12:get a' (n+10) = .pointer (some ⟨sb,so+j * t.size,none⟩):=by
        have:=hd'.c (nd':=[8,9]) (x:=.pointer (some ⟨sb,so+(j:Int).toNat * t.size,none⟩)) 10 (by simp) rfl;rw[this];simp
      have hwf:=hf'.size;refine wp_calls hf.enters (vs:=#[.pointer (some ⟨sb,so+j * t.size,none⟩)]) (by simp[eTm,hx12]) (R:=fun v w2=>∃ cs:List Value,v = .agg cs.toArray∧Fr [] w' w2∧RepT w2 (From w'.heap.size w2) cs (g y)) ?_ ?_
      · have hB0 : ∀ b, e.B b → b < w'.heap.size := fun b hb => by have := hm.bs b hb; omega
        refine (hf.call w' sb (so+j * t.size) ce y e.B (hf'.range hce .nil) (hre.kept hf' (by simp) (fun _ h=>h)) hB0 (hB0 sb hB)).mono ?_;rintro e' w2 ⟨cs,rfl,h1,h2⟩;exact ⟨_,rfl,cs,rfl,h1,h2⟩
      rintro v w2 ⟨cs,rfl,h1,h2⟩;exact hK' _ _ ⟨cs,rfl,h2.kept (Fr.refl [] w2) (by simp) (fun b hb=>⟨by have:=hb.1;omega,hb.2⟩)⟩ h1
    · have hlv:get a' (n+4)=lv:=hd'.c 4 (by simp) rfl;exact wp_len hT.sl (by rw[eTm,hlv,hlv0]) hK'
    have hwf:=hf'.size;refine wp_slice1 hT.sl hzero rfl (by omega) (cs:=zT) (by rw[eCo,hztc]) rfl fun _=>?_;have hal:=Fr.alloc [] w' (.cells zT.toArray TT);exact hK' _ _ ⟨_,rfl,hwf,range_new w' zT.toArray TT (0,0)⟩ hal
  intro a' w' hk' hf' hd';obtain ⟨cs,hv11,hr11⟩:=hd'.at (d:=11) (by simp) rfl;obtain ⟨bb,hv13,hbb,hz13⟩:=hd'.at (d:=13) (by simp) rfl;have hlv:get a' (n+4)=lv:=hd'.c (nd':=[3]) 4 (by simp) rfl;have g1:get a' (n+1) = .slice (some ⟨e.lb,0,none⟩) e.n e.n:=hd'.c (nd':=[0]) 1 (by simp) rfl;have g12:get a' (n+12) = .int .i64 l.length:=hd'.c (nd':=[4]) 12 (by simp) rfl;have hsz:=hk'.size;have hwf:=hf'.size;have hmw:=hm.kept hf' (by simp);have hlo':=hlo.kept hf' (by simp) (A':=From s1 w') (From.mono hwf);have hloc:=hlo';obtain ⟨flat,ho1,ho2⟩:=hloc;have hlb:∀ b,blk lv=some b→b < w.heap.size:=fun b hb=>(hlo.blk_in hb).2;refine wC (wp_append (A:=From s1 w') (z:=zT) hT.sl hzero rfl (by rw[eTm,hlv]) (by rw[eTm,hv13]) ho1 (by omega) (news:=zT) rfl hz13 (repT_zero (w:=w') (A:=fun _=>False)).ones (by omega) (by simp only[maxLen];omega) ?_);intro v' w2 hf2 ho' hbk;have hf2s:=hf2.size;have hsp:∀ r ∈ spare lv 5,From s1 w' r.b:=hlo'.spare_in;have hsp2:∀ r ∈ spare lv 5,r.b < w.heap.size:=fun r hr=>(hlo.spare_in r hr).2;have hlo2:LOwn w2 (From s1 w2) v' (l++[.zero]):=by
    refine LOwn.app (A':=From s1 w2) ho2 ho1 hf2 ?_ hbk (fun b hb=>⟨From.mono hf2s b hb,hb.2⟩) (C:=fun _=>False) repT_zero (fun _ h=>h.elim);obtain ⟨ha,hb⟩:=ho';refine ⟨ha,hb.imp (fun h=>h) ?_⟩;rintro ⟨g',o',cap',hg',hrest⟩;refine ⟨g',o',cap',?_,hrest⟩
    rcases hg' with hg' | hg'
    · exact From.mono hf2s _ hg'
    exact ⟨by have:=hg'.1;omega,hg'.2⟩
  have hr2:RepT w2 (fun b=>From w.heap.size w2 b∧blk v' ≠ some b) cs (g y):=by
    refine hr11.kept hf2 (fun r hr hF=>by have:=hsp2 r hr;have:=hF.1;omega) (fun b hb=>⟨From.mono hf2s b hb,fun hbl=>?_⟩)
    rcases hbk with h | h
    · rw[h] at hbl;have:=hlb b hbl;have:=hb.1;omega
    rw[h] at hbl;simp at hbl;have:=hb.2;omega
  have hm2:=hmw.kept hf2 (fun r hr=>(hsp r hr).1);rw[wCo];have hn15:n+14 < a'.tmps.size:=by omega
  refine wp_indexAddr hT.sl (by rw[eTm,gR,g1]) rfl (by omega) (by omega) ?_;refine wC (wFa (hT.flat.field (k:=3) (by decide)) (by rw[eTm,gQ]) ?_);rw[wCo];have hth:w2.there e.lb (k * 5) 5:=there_part hm2.thL (by omega) (by omega);refine wp_store hT.scl (b:=e.lb) (o:=k * 5+3) (v:=v') (by rw[eTm,gQ];simp) (by rw[eTm,gR,gR,gPs hn15]) hlo2.one (there_part hth (by omega) (by omega)) ?_;obtain ⟨h5,h6⟩:=hm2.setL hk hy hlo2.one;have h6s:=h6.size;generalize w2.setCell ⟨e.lb,k * 5+3,none⟩ v'=w3 at h5 h6 h6s ⊢;generalize ha3:((a'.put (some (n+14)) v').put (some (n+15)) (.pointer (some ⟨e.lb,0+(k:Int).toNat * 5,none⟩))).put (some (n+16)) (.pointer (some ⟨e.lb,0+(k:Int).toNat * 5+3,none⟩))=a3;have k3:Kept (n+14) a' a3:=by subst ha3;exact ((Kept.put0 (Nat.le_refl _) _).put (by omega) _).put (by omega) _
  have g14:get a3 (n+14)=v':=by subst ha3;rw[gR,gR,gPs hn15]
  have hlbs:e.lb < s1:=by have:=hm.ls;omega
  have hnlb:∀ r ∈ [(⟨e.lb,k * 5,k * 5+5⟩:Rng)],∀ s,s1≤s→¬ s≤r.b:=by
    intro r hr s hs;simp at hr;subst hr;simp only;omega
  have hlo3:=hlo2.kept h6 (A':=From s1 w3) (fun r hr hF=>hnlb r hr s1 (Nat.le_refl _) hF.1) (From.mono h6s);have hr3:RepT w3 (fun b=>From w.heap.size w3 b∧blk v' ≠ some b) cs (g y):=hr2.kept h6 (fun r hr hF=>hnlb r hr _ hs1 hF.1.1) (fun b hb=>⟨From.mono h6s b hb.1,hb.2⟩);rw[wNi];refine hK1 (a3.put none undef) w3 ?_;rw[pNo];obtain ⟨g',o',cap',hv',hg',hth',hlo4⟩:=hlo3.setLast hr3 (fun b hb=>⟨⟨by have:=hb.1.1;omega,hb.1.2⟩,hb.2⟩);have hs3:=k3.size;refine wp_reg ?_;refine wC (wp_indexAddr (k1:=.i64) (i:=l.length) hT.sl (by rw[eTm,g14,hv']) (by rw[eTm,k3.get (n+12) (by omega),g12]) (by omega) (by omega) ?_);rw[wCo];have hcl5:=hr3.length;refine wp_storeFlat hT.flat (cs:=cs) (b:=g') (o:=o'+l.length * 5) (by rw[hcl5];rfl) (by rw[eTm,gQ];simp) (by rw[eTm,gR,k3.get (n+11) (by omega),hv11]) hr3.ones (by rw[hcl5];exact hth') ?_;have hf4:=Fr.sets g' cs w3 (o'+l.length * 5);rw[hcl5] at hf4;have hgs:s1≤g':=hg'.1;have hsz4:=hf4.size;refine hK _ _ v' ?_ ⟨spare lv 5++[⟨g',o'+l.length * 5,o'+l.length * 5+5⟩],?_,?_⟩ (h5.kept hf4 (by intro r hr;simp at hr;subst hr;exact hgs)) (hlo4.kept (Fr.refl [] _) (by simp) (From.mono hsz4))
  · exact ((hk'.mono b4).trans (k3.mono (by omega))).trans ((Kept.put0 (by omega) _))
  · intro r hr
    rcases List.mem_append.1 hr with h | h
    · exact (hsp r h).1
    simp at h;subst h;exact hgs
  have f1:Fr (⟨e.lb,k * 5,k * 5+5⟩::(spare lv 5++[⟨g',o'+l.length * 5,o'+l.length * 5+5⟩])) w w2:=(hf'.nil (l:=_)).tr (hf2.mono (fun r hr=>Rng.in_self (List.mem_cons_of_mem _ (List.mem_append_left _ hr))));have f2:Fr (⟨e.lb,k * 5,k * 5+5⟩::(spare lv 5++[⟨g',o'+l.length * 5,o'+l.length * 5+5⟩])) w w3:=f1.trans h6 (by intro r hr;simp at hr;subst hr;exact Rng.in_self (by simp));refine f2.trans hf4 ?_;intro r hr;simp at hr;subst hr;exact Rng.in_self (by simp)
end Go.Kq

namespace Go.Kq
open Go Go.Proofs
variable {P:Program} {TT TL S TS:TypeId} {N sv st si m n k o kf:Nat}
theorem TM.said {w:World} {e:TEnv} {uv:Value} {ts:List Slot} {hi k:Nat} {cs:List Value} {t:T} (h:TM w e uv ts hi) (hk:k < e.n) (hy:ts[k]?=some (.raw cs)) (hr:RepT w (fun b=>e.s0≤b∧b < hi) cs t):TM w e uv (ts.set k (.done t)) hi:=by
  obtain ⟨es,h4,rfl,_⟩:=h.els k _ hy;exact h.cells (lo:=k * 5) (up:=k * 5) hk (Fr.refl _ w) (Nat.le_refl _) (by omega) h4 hr
theorem set_set {α:Type} {l:List α} {k:Nat} {x y:α}:(l.set k x).set k y=l.set k y:=by simp
theorem tl_loop {t:Ty} {g:V→T} {TB:TypeId} (hT:TreeTys P TT TL) {c1 c2:Code} {b0 b1 r4 r5 r6 r7 r11 m2 n':Nat}
    {t0 t1 t2 t3 t4 t5 t6 t7 t8 t9 t10 t11 t12 t13 t14:TypeId} {p0 p1 p2 p3 p4 p5 p6 p7 p8 p9 p10 p11 p12 p13 p14:String} {e0 e1 e2 e3 e4 e5 e6 e7 e8 e9 e10 e11 e12 e13 e14:Array Edge} {T5 U5 T11 U11:TypeId}
    (h1:AppStep P N sv st si m2 c1 k o t g) (h2:AppStep P N sv st si m2 c2 k o t g)
    (hzb:zeroOf P TB (.bool false)) (hsb:scal P TB=true)
    (hfl:(subE e9 [] && needE e10 [0] && subE e10 [0] && needE e11 [0] && subE e11 [0] && needE e12 [0,1,2] && subE e12 [0,1,2])=true)
    (hS:fieldOf P S kf o=true) (hTS0:sliceN P TS t.size=true) (hscl:scal P TS=true)
    (hb:(decide (sv < m) && decide (st < m) && decide (m≤si) && decide (si < n) && decide (m≤n) && decide (n+9 < N) && decide (n+9 < m2) && decide (m2≤n') && decide (n' < N))=true) :
    TlG P N sv st m (.seq (Code.region r4 ⟨[oM n sv t0 p0 e0, ⟨some (n + 1), .nilCheck (.tmp n), t1, p1, e1, none⟩, oF (n + 2) S (n + 1) kf t2 p2 e2, oL (n + 3) TS (n + 2) t3 p3 e3, ⟨some (n + 4), .call ⟨.builtin .len, #[.tmp (n + 3)], #[TS]⟩, t4, p4, e4, none⟩, ⟨some (n + 5), .move (.const (.int .i64 0)), t5, p5, e5, none⟩]⟩ false) (.block b0 (.loop (.seq (Code.region r5 ⟨[⟨some (n + 6), .binOp .lss T5 (.tmp (n + 5)) (.tmp (n + 4)) U5, t6, p6, e6, none⟩]⟩ false) (.seq (.cond (.tmp (n + 6)) .skip (.exit b0)) (.seq (.block b1 (.seq (Code.region r6 ⟨[oM (n + 7) (n + 5) t7 p7 e7, oT si (n + 7) t8 p8 e8]⟩ false) (.seq (Code.region r7 ⟨[⟨some (n + 8), .alloc TB, t9, p9, e9, none⟩, ⟨none, .store TB (.tmp (n + 8)) (.const (.bool true)), t10, p10, e10, none⟩, ⟨none, .store TB (.tmp (n + 8)) (.const (.bool false)), t11, p11, e11, none⟩, oL (n + 9) TB (n + 8) t12 p12 e12]⟩ true) (.cond (.tmp (n + 9)) c1 c2))))
            (Code.region r11 ⟨[⟨some n',.binOp .add T11 (.tmp (n+5)) (.const (.int .i64 1)) U11,t13,p13,e13,none⟩,⟨some (n+5),.move (.tmp n'),t14,p14,e14,none⟩]⟩ false))))))) k o (.arr t)
      (fun x=>.done (.mk 0 [] x.isNil (x.items.map g) [])) (fun x y=>y = .raw (lCells x.isNil (.slice none 0 0))):=by
  rintro e K Q a w ts x _ hN hd hsv hst hm hy rfl hx hk hK;obtain ⟨et,es,hTS⟩:=sliceN_is hTS0;simp only[Bool.and_eq_true,decide_eq_true_eq] at hb;obtain ⟨⟨⟨⟨⟨⟨⟨⟨q1,q2⟩,q3⟩,q4⟩,q5⟩,q6⟩,q7⟩,q8⟩,q9⟩:=hb;obtain ⟨c,hc,hrc⟩:=hx.one rfl;obtain ⟨q,cap,rfl,hq,hbig,_⟩:=arr_cell hrc;refine wS fun K1 hK1=>?_;rw[wCo,wMw,eTm,hsv,wCo];refine wNc (q:=⟨e.pb,e.po,none⟩) (by rw[eTm,gQ]) ?_;refine wC (wFa (b:=e.pb) (i:=e.po) hS (by rw[eTm,gQ]) ?_);refine wC (wp_load hscl (by rw[eTm,gQ]) hc ?_);refine wC (wp_len (q:=q) (len:=x.items.length) (cap:=cap) hTS (by rw[eTm,gQ]) ?_);rw[wCo,wMw,eCo,wNi];generalize ha1:(((((a.put (some n) (.pointer (some ⟨e.pb,e.po,none⟩))).put (some (n+1)) (.pointer (some ⟨e.pb,e.po,none⟩))).put (some (n+2)) (.pointer (some ⟨e.pb,e.po+o,none⟩))).put (some (n+3)) (.slice q x.items.length cap)).put (some (n+4)) (.int .i64 x.items.length)).put (some (n+5)) (.int .i64 0)=a1;have k1:Kept m a a1:=by subst ha1;exact (((((Kept.put0 (by omega) _).put (by omega) _).put (by omega) _).put (by omega) _).put (by omega) _).put (by omega) _
  have gl1:get a1 (n+4) = .int .i64 x.items.length:=by subst ha1;rw[gR,gQ]
  have gi1:get a1 (n+5) = .int .i64 0:=by subst ha1;rw[gQ]
  have hz1:=k1.size;refine hK1 a1 w ?_;have hs01:e.s0≤w.heap.size:=hm.s0;refine wp_block (wp_loop (fun a' w'=>∃ (j:Nat) (lv:Value),j≤x.items.length∧Kept m a a'∧get a' (n+4) = .int .i64 x.items.length∧get a' (n+5) = .int .i64 j ∧
      TM w' e (.slice none 0 0) (ts.set k (.raw (lCells x.isNil lv))) w.heap.size∧LOwn w' (From w.heap.size w') lv ((x.items.take j).map g)∧∃ r:List Rng,(∀ z ∈ r,w.heap.size≤z.b)∧Fr (⟨e.lb,k * 5,k * 5+5⟩::r) w w')
    (fun a' _=>x.items.length - idxOf (get a' (n+5))) ?_ ?_)
  · refine ⟨0, .slice none 0 0, Nat.zero_le _, k1, gl1, gi1, ?_, ?_, [], by simp, Fr.refl _ _⟩
    · obtain ⟨es,h4,h5⟩:=hm.els k _ hy;exact hm.cells (y:=.raw (lCells x.isNil (.slice none 0 0))) (lo:=k * 5) (up:=k * 5) hk (Fr.refl _ w) (Nat.le_refl _) (by omega) h4 h5
    simpa using LOwn.nil
  rintro a2 w2 ⟨j,lv,hj,k2,gl2,gi2,hm2,hlo2,r,hr,hf2⟩;have hz2:=k2.size;refine wS fun K2 hK2=>?_;refine wC (wp_lss (k1:=.i64) (i:=j) (j:=x.items.length) (by rw[eTm,gi2]) (by rw[eTm,gl2]) ?_);rw[wNi];have k3:Kept (n+6) a2 (a2.put (some (n+6)) (.bool (decide ((j:Int) < x.items.length)))):=Kept.put0 (Nat.le_refl _) _;have g6:get (a2.put (some (n+6)) (.bool (decide ((j:Int) < x.items.length)))) (n+6) = .bool (decide ((j:Int) < x.items.length)):=gQ;generalize a2.put (some (n+6)) (.bool (decide ((j:Int) < x.items.length)))=a3 at k3 g6 ⊢;have hz3:=k3.size;have gl3:=(k3.get (n+4) (by omega)).trans gl2;have gi3:=(k3.get (n+5) (by omega)).trans gi2;refine hK2 a3 w2 ?_;refine wp_seq_k fun K3 hK3=>?_;refine wp_cond_split (t:=decide ((j:Int) < x.items.length)) (by rw[eTm,g6]) ?_ ?_
  · intro hlt;have hjl : j < x.items.length := by simpa using hlt
    refine wp_skip (hK3 a3 w2 ?_);refine wp_seq_k fun K4 hK4=>?_
    -- the body, by either form
    have body:∀ (a4:Act) (w4:World) (Q':Exit→Act→World→Prop) (c:Code),AppStep P N sv st si m2 c k o t g→Kept (n+6) a3 a4∨Kept si a3 a4∧get a4 (n+4) = .int .i64 x.items.length∧get a4 (n+5) = .int .i64 j→a4.tmps.size=a3.tmps.size→Kept m a3 a4→get a4 si = .int .i64 j→Fr [] w2 w4 →
        get a4 (n+4) = .int .i64 x.items.length→get a4 (n+5) = .int .i64 j→c.wp P (Exit.then K4 Q') a4 w4:=by
      intro a4 w4 Q' c hstep _ hz4 k4 gs4 hf4 gl4 gi4;have hf24:Fr (⟨e.lb,k * 5,k * 5+5⟩::r) w w4:=hf2.tr (Fr.nil hf4);have hle4:=hf24.size;have hps:=hm.ps;have hlbs:=hm.ls;have hx4:FldAt w4 e o (.arr t) x:=hx.kept hf24 (by
        intro y hy
        rcases List.mem_cons.1 hy with rfl | hy
        · exact ⟨fun h=>hm.pl h.symm,fun h=>(hm.bs _ h).2.1 rfl⟩
        · have:=hr y hy;exact ⟨by omega,fun h=>by have:=(hm.bs _ h).1;omega⟩)
      have hlen:((x.items.take j).map g).length=j:=by simp;omega
      have hkl:k < ts.length:=by rw[hm.len];exact hk
      refine hstep e K4 Q' a4 w4 _ w.heap.size x.isNil lv _ x j (x.items[j]) (by omega) ((k4.get sv q1).trans ((k3.get sv (by omega)).trans ((k2.get sv q1).trans hsv)))
        ((k4.get st q2).trans ((k3.get st (by omega)).trans ((k2.get st q2).trans hst))) gs4 (hm2.kept hf4 (by simp)) (List.getElem?_set_self hkl) (hlo2.kept hf4 (by simp) (From.mono hf4.size)) hx4 (by simp[hjl]) hk (by omega) ?_
      rintro a5 w5 lv' k5 ⟨r',hr',hf5⟩ hm5 hlo5;refine hK4 a5 w5 ?_;have hz5:=k5.size;refine wp_reg ?_;refine wC (wp_add (k1:=.i64) (i:=j) (j:=1) (by rw[eTm,k5.get (n+5) (by omega),gi4]) rfl ?_);rw[wCo,wMw,eTm,gQ,wNi];have hwr:IntKind.i64.wrap ((j:Int)+1)=((j+1:Nat):Int):=by
        simp[IntKind.wrap,IntKind.bits,IntKind.signed];omega
      rw[hwr];refine ⟨⟨j+1,lv',hjl,?_,?_,?_,?_,?_,r++r',?_,?_⟩,?_⟩
      · exact (((k2.trans (k3.mono (by omega))).trans k4).trans (k5.mono (by omega))).trans ((Kept.put0 (by omega) _).put (by omega) _)
      · rw[gR,gR,k5.get (n+4) (by omega),gl4]
      · rw[gQ]
      · rw[set_set] at hm5;exact hm5
      · have:(x.items.take (j+1)).map g=(x.items.take j).map g++[g (x.items[j])]:=by
          rw[List.take_succ_eq_append_getElem hjl,List.map_append];rfl
        rw[this];exact hlo5
      · intro z hz
        rcases List.mem_append.1 hz with h | h
        · exact hr z h
        exact hr' z h
      · refine (hf24.mono (l' := ⟨e.lb, k * 5, k * 5 + 5⟩ :: (r ++ r')) ?_).trans hf5 ?_
        · intro z hz
          rcases List.mem_cons.1 hz with rfl | h
          · exact Rng.in_self (by simp)
          exact Rng.in_self (List.mem_cons_of_mem _ (List.mem_append_left _ h))
        intro z hz
        rcases List.mem_cons.1 hz with rfl | h
        · exact Rng.in_self (by simp)
        exact Rng.in_self (List.mem_cons_of_mem _ (List.mem_append_right _ h))
      rw[gQ,gi2];simp[idxOf];omega
    refine wp_block (wp_mono (show Code.wp P _ (Exit.then K4 (Exit.inBlock b1 (Exit.then K4 _))) a3 w2 from ?_) (fun _ _ _=>inBlock_then));refine wS fun K5 hK5=>?_;rw[wCo,wMw,eTm,gi3,wCo,wAg,eTm,gQ,wNi];generalize ha4:(a3.put (some (n+7)) (.int .i64 j)).put (some si) (.int .i64 j)=a4;have k4:Kept si a3 a4:=by subst ha4;exact (Kept.put0 (by omega) _).put (Nat.le_refl _) _
    have gs4:get a4 si = .int .i64 j:=by subst ha4;exact gQ
    have gl4:get a4 (n+4) = .int .i64 x.items.length:=by subst ha4;rw[gR,gR,gl3]
    have gi4:get a4 (n+5) = .int .i64 j:=by subst ha4;rw[gR,gR,gi3]
    have hz4:=k4.size;refine hK5 a4 w2 ?_;refine wp_seq_k fun K6 hK6=>?_;refine r_flag (m:=n+8) hT.mixed hzb hsb hfl (by omega) (Nat.le_refl _) fun a5 w5 b k5 f5 g5=>hK6 a5 w5 ?_;have hz5:=k5.size;refine wp_cond_split (t:=b) (by rw[eTm,g5]) ?_ ?_
    · intro _;exact body a5 w5 _ c1 h1 (.inr ⟨k4.trans (k5.mono (by omega)),(k5.get _ (by omega)).trans gl4,(k5.get _ (by omega)).trans gi4⟩) (by omega) ((k4.mono q3).trans (k5.mono (by omega))) ((k5.get _ (by omega)).trans gs4) f5 ((k5.get _ (by omega)).trans gl4) ((k5.get _ (by omega)).trans gi4)
    intro _;exact body a5 w5 _ c2 h2 (.inr ⟨k4.trans (k5.mono (by omega)),(k5.get _ (by omega)).trans gl4,(k5.get _ (by omega)).trans gi4⟩) (by omega) ((k4.mono q3).trans (k5.mono (by omega))) ((k5.get _ (by omega)).trans gs4) f5 ((k5.get _ (by omega)).trans gl4) ((k5.get _ (by omega)).trans gi4)
  intro hge;have hjl:j=x.items.length:=by
    have:¬ ((j:Int) < x.items.length):=by simpa using hge
    omega
  subst hjl;refine wp_exit ?_;show Exit.inBlock b0 (Exit.then K Q) (.exit b0) a3 w2
  simp only[Exit.inBlock,if_true];rw[List.take_length] at hlo2;have hle:=hf2.size;have hkl:k < ts.length:=by rw[hm.len];exact hk
  refine hK a3 w2 (k2.trans (k3.mono (by omega))) (hf2.mono ?_) ?_
  · intro z hz
    rcases List.mem_cons.1 hz with rfl | h
    · exact Rng.in_self (by simp)
    exact .inl (hr z h)
  have:=(hm2.up hle (Nat.le_refl _)).said hk (List.getElem?_set_self hkl) (t:=.mk 0 [] x.isNil (x.items.map g) []) ?_
  · rw[set_set] at this;exact this
  rw[repT_iff];exact ⟨_,_,_,rfl,by omega,.nil,(LOwn.things (by simpa using hbig) hlo2).kept (Fr.refl [] w2) (by simp) (fun b hb=>⟨by have:=hb.1;omega,hb.2⟩),.inl ⟨.inl rfl,rfl⟩⟩
end Go.Kq

namespace Go.Kq
open Go
def kvSet:List (Nat × V)→Nat→V→List (Nat × V)
  | [],k,x=>[(k,x)]
  | p::r,k,x=>if p.1=k then (k,x)::r else p::kvSet r k x
theorem kvSet_keys:∀ (kv:List (Nat × V)) (k:Nat) (x:V),(kvSet kv k x).map (·.1)=if k ∈ kv.map (·.1) then kv.map (·.1) else kv.map (·.1)++[k]
  | [],k,x=>by simp[kvSet]
  | p :: r, k, x => by
    unfold kvSet
    by_cases h:p.1=k
    · simp[h]
    have ih:=kvSet_keys r k x;rw[if_neg h,List.map_cons,ih]
    by_cases hk:k ∈ r.map (·.1)
    · rw[if_pos hk,if_pos (by simp only[List.map_cons];exact List.mem_cons_of_mem _ hk)];rfl
    rw[if_neg hk,if_neg (by simp only[List.map_cons,List.mem_cons,not_or];exact ⟨fun e=>h e.symm,hk⟩)];rfl
theorem kvSet_nodup {kv:List (Nat × V)} {k:Nat} {x:V} (h:(kv.map (·.1)).Nodup):((kvSet kv k x).map (·.1)).Nodup:=by
  rw[kvSet_keys]
  split
  · exact h
  rename_i hk
  rw[List.nodup_append];exact ⟨h,by simp,fun a ha b hb e=>by simp at hb;subst hb;exact hk (e ▸ ha)⟩
theorem kvSet_set:∀ {kv:List (Nat × V)} {j k:Nat} {x y:V},(kv.map (·.1)).Nodup→kv[j]?=some (k,x)→kvSet kv k y=kv.set j (k,y)
  | [],j,k,x,y,_,h=>by simp at h
  | p::r,0,k,x,y,_,h=>by simp at h;subst h;simp[kvSet]
  | p :: r, j + 1, k, x, y, hn, h => by
    simp only[List.map_cons,List.nodup_cons] at hn;have hm:(k,x) ∈ r:=List.mem_of_getElem? (by simpa using h);have hne:p.1 ≠ k:=fun e=>hn.1 (by rw[e];exact List.mem_map.2 ⟨_,hm,rfl⟩);rw[kvSet,if_neg hne,kvSet_set hn.2 (by simpa using h)];rfl
theorem kvSet_push:∀ {kv:List (Nat × V)} {k:Nat} {y:V},(∀ p ∈ kv,p.1 ≠ k)→kvSet kv k y=kv++[(k,y)]
  | [],k,y,_=>rfl
  | p::r,k,y,h=>by rw[kvSet,if_neg (h p (by simp)),kvSet_push (fun q hq=>h q (by simp[hq]))];rfl
def tagKv:V→List (Nat × V)
  | .t kv=>kv
  | _=>[]
def tagSet (x:V) (k:Nat) (y:V):V:=.t (kvSet (tagKv x) k y)
theorem nodup_sub_len:∀ {l m:List Nat},l.Nodup→(∀ x ∈ l,x ∈ m)→l.length≤m.length
  | [],m,_,_=>by simp
  | x :: l, m, hn, hs => by
    have hx:=hs x (by simp);have:=nodup_sub_len (l:=l) (m:=m.erase x) (List.nodup_cons.1 hn).2 (fun y hy=>by
      have hne:y ≠ x:=fun e=>(List.nodup_cons.1 hn).1 (e ▸ hy);exact (List.mem_erase_of_ne hne).2 (hs y (by simp[hy])))
    rw[List.length_erase_of_mem hx] at this;have:=List.length_pos_of_mem hx;simp only[List.length_cons];omega
theorem nodup_lt_len:∀ {n:Nat} {l:List Nat},l.Nodup→(∀ x ∈ l,x < n)→l.length≤n:=by
  intro n l hn hl;have:=nodup_sub_len (m:=List.range n) hn (fun x hx=>List.mem_range.2 (hl x hx))
  simpa using this
theorem perm_of_same:∀ {l m:List Nat},l.Nodup→m.Nodup→(∀ x,x ∈ l↔x ∈ m)→l.Perm m
  | [], m, _, _, h => by
    cases m with
    | nil=>exact List.Perm.refl _
    | cons y r=>exact absurd ((h y).2 (by simp)) (by simp)
  | x :: l, m, hl, hm, h => by
    have hx:x ∈ m:=(h x).1 (by simp);refine (List.Perm.cons x (perm_of_same (List.nodup_cons.1 hl).2 (hm.erase x) (fun y=>?_))).trans (List.perm_cons_erase hx).symm
    constructor
    · intro hy;have hne:y ≠ x:=fun e=>(List.nodup_cons.1 hl).1 (e ▸ hy);exact (List.mem_erase_of_ne hne).2 ((h y).1 (by simp[hy]))
    intro hy;have hne:y ≠ x:=fun e=>by subst e;exact (List.Nodup.mem_erase_iff hm).1 hy |>.1 rfl
    have:=(h y).2 (List.mem_of_mem_erase hy)
    simpa [hne] using this
theorem sorted_eq:∀ {l m:List Nat},l.Perm m→l.Pairwise (· ≤ ·)→m.Pairwise (· ≤ ·)→l=m
  | [],m,h,_,_=>(List.Perm.nil_eq h)
  | x::l,[],h,_,_=>absurd h.length_eq (by simp)
  | x :: l, y :: m, h, h1, h2 => by
    have hxy:x=y:=by
      have hx:x ∈ y::m:=h.mem_iff.1 (by simp);have hy:y ∈ x::l:=h.mem_iff.2 (by simp);have a1:y≤x:=by
        rcases List.mem_cons.1 hx with e | e
        · omega
        exact (List.pairwise_cons.1 h2).1 x e
      have a2:x≤y:=by
        rcases List.mem_cons.1 hy with e | e
        · omega
        exact (List.pairwise_cons.1 h1).1 y e
      omega
    subst hxy;rw[sorted_eq (List.Perm.cons_inv h) (List.pairwise_cons.1 h1).2 (List.pairwise_cons.1 h2).2]
def insKv (p:Nat × V):List (Nat × V)→List (Nat × V)
  | []=>[p]
  | q::r=>if p.1≤q.1 then p::q::r else q::insKv p r
def sortKv (kv:List (Nat × V)):List (Nat × V):=kv.foldr insKv []
theorem insKv_perm (p:Nat × V):∀ l,(insKv p l).Perm (p::l)
  | []=>List.Perm.refl _
  | q :: r => by
    unfold insKv
    split
    · exact List.Perm.refl _
    exact ((insKv_perm p r).cons q).trans (List.Perm.swap p q r)
theorem sortKv_perm:∀ kv,(sortKv kv).Perm kv
  | []=>List.Perm.refl _
  | p::r=>(insKv_perm p _).trans ((sortKv_perm r).cons p)
theorem insKv_sorted (p:Nat × V):∀ l,l.Pairwise (fun a b=>a.1≤b.1)→(insKv p l).Pairwise (fun a b=>a.1≤b.1)
  | [],_=>by simp[insKv]
  | q :: r, h => by
    obtain ⟨h1,h2⟩:=List.pairwise_cons.1 h;unfold insKv
    split
    · rename_i hpq
      refine List.pairwise_cons.2 ⟨fun a ha=>?_,h⟩
      rcases List.mem_cons.1 ha with rfl | ha
      · exact hpq
      exact Nat.le_trans hpq (h1 a ha)
    rename_i hpq
    refine List.pairwise_cons.2 ⟨fun a ha=>?_,insKv_sorted p r h2⟩
    rcases List.mem_cons.1 ((insKv_perm p r).mem_iff.1 ha) with rfl | ha
    · omega
    exact h1 a ha
theorem sortKv_sorted:∀ kv,(sortKv kv).Pairwise (fun a b=>a.1≤b.1)
  | []=>List.Pairwise.nil
  | p::r=>insKv_sorted p _ (sortKv_sorted r)
theorem sortKv_keys {kv:List (Nat × V)} {ks:List Nat} (hp:ks.Perm (kv.map (·.1))) (hs:ks.Pairwise (· ≤ ·)):(sortKv kv).map (·.1)=ks:=by
  refine sorted_eq (((sortKv_perm kv).map _).trans hp.symm) ?_ hs;exact List.pairwise_map.2 (sortKv_sorted kv)
def V.octs:V→List UInt8
  | .s y=>y
  | _=>[]
def tagsT (x:V):List (Nat × List UInt8):=(sortKv (tagKv x)).map fun p=>(p.1,p.2.octs)
end Go.Kq

namespace Go.Kq
open Go Go.Proofs
def slots (l:List T) (n:Nat):List Slot:=l.map .done++List.replicate (n - l.length) (.raw zT)
theorem slots_at {l:List T} {n:Nat} (h:l.length < n):(slots l n)[l.length]?=some (.raw zT):=by
  unfold slots;rw[List.getElem?_append_right (by simp),List.length_map,Nat.sub_self,List.getElem?_replicate,if_pos (by omega)]
theorem slots_set {l:List T} {n:Nat} {t:T} (h:l.length < n):(slots l n).set l.length (.done t)=slots (l++[t]) n:=by
  unfold slots;rw[List.set_append_right _ _ (by simp)];simp only[List.length_map,Nat.sub_self,List.map_append,List.map_cons,List.map_nil,List.append_assoc,List.length_append,List.length_cons,List.length_nil,Nat.zero_add]
  congr 1
  rw[show n - l.length=(n - (l.length+1))+1 from by omega,List.replicate_succ]
  rfl
def cellsAt (w:World) (b o n:Nat):List Value:=(List.range n).map fun j=>(w.cell? ⟨b,o+j,none⟩).getD undef
theorem range_cellsAt {w:World} {b o:Nat} {es:List Value} (h:w.rangeAt b o es):es=cellsAt w b o es.length:=by
  apply List.ext_getElem?
  intro j;unfold cellsAt;rw[List.getElem?_map]
  by_cases hj:j < es.length
  · rw[List.getElem?_range hj];have:=h j es[j] (by simp[hj]);simp[this,hj]
  rw[List.getElem?_eq_none (by omega),List.getElem?_eq_none (by simp;omega)];rfl
def tellAll:List (V→T)→List V→List T
  | g::gs,x::xs=>g x::tellAll gs xs
  | _,_=>[]
def uOf:List (V→T)→List V→List (Nat × List UInt8)
  | _::gs,_::xs=>uOf gs xs
  | [],x::_=>tagsT x
  | _,_=>[]
def TRun (P:Program) (N sv st tr m:Nat) (c:Code) (k o:Nat) (tys:List Ty) (gs:List (V→T)):Prop :=
  ∀ (e : TEnv) (Q : Exit → Act → World → Prop) (a : Act) (w : World) (l : List T) (xs : List V) (rb : Nat), e.n ≤ 4294967296 →
    a.tmps.size=N→a.defers=[]→get a sv = .pointer (some ⟨e.pb,e.po,none⟩)→get a st = .pointer (some ⟨e.tb,0,none⟩)→get a tr = .pointer (some ⟨rb,0,none⟩) →
    w.there rb 0 5→rb < e.s0→rb ≠ e.lb→rb ≠ e.tb→rb ≠ e.pb→¬ e.B rb →
    TM w e (.slice none 0 0) (slots l e.n) w.heap.size→l.length=k→k+gs.length=e.n→(∃ z,w.rangeAt e.pb (e.po+o) z∧Reps w e.B tys z xs) →
    (∀ a' w' cs,a'.defers=[]→get a' tr = .pointer (some ⟨rb,0,none⟩)→Fr [⟨e.lb,0,e.n * 5⟩,⟨rb,0,5⟩,⟨e.tb,0,5⟩] w w'→w'.rangeAt rb 0 cs→RepT w' (fun b=>b=e.lb∨e.A w' b) cs (.mk 0 [] false (l++tellAll gs xs) (uOf gs xs))→Q .ret a' w') →
    c.wp P Q a w
theorem frame_place {e:TEnv} {rb k:Nat} {w w1 w2:World} (hk:k < e.n) (h:Fr [⟨e.lb,k * 5,k * 5+5⟩] w w1) (h2:Fr [⟨e.lb,0,e.n * 5⟩,⟨rb,0,5⟩,⟨e.tb,0,5⟩] w1 w2):Fr [⟨e.lb,0,e.n * 5⟩,⟨rb,0,5⟩,⟨e.tb,0,5⟩] w w2:=by
  refine (h.mono ?_).tr h2;intro r hr;simp at hr;subst hr;exact .inr ⟨⟨e.lb,0,e.n * 5⟩,by simp,rfl,by simp,by simp only;omega⟩
theorem TRun.cons {P:Program} {N sv st tr m:Nat} {c c':Code} {k o o':Nat} {ty:Ty} {tys:List Ty} {g:V→T} {gs:List (V→T)} (h:Tl P N sv st m c k o ty g) (h':TRun P N sv st tr m c' (k+1) o' tys gs) (ho:o'=o+ty.size)
    (hb:(decide (sv < m) && decide (st < m) && decide (tr < m))=true) :
    TRun P N sv st tr m (.seq c c') k o (ty::tys) (g::gs):=by
  intro e Q a w l xs rb hen hN hd hsv hst htr hth hrs hrl hrt hrp hrB hm hl hn ⟨z,hz1,hz2⟩ hK;subst ho;simp only[Bool.and_eq_true,decide_eq_true_eq] at hb;obtain ⟨⟨b1,b2⟩,b3⟩:=hb;obtain ⟨c1,c2,x,r,rfl,rfl,hr1,hr2⟩:=hz2;rw[range_append] at hz1;have hlen:=hr1.length;simp only[List.length_cons] at hn;have hkn:k < e.n:=by omega
  subst hl;refine tId (wp_seq_k fun K1 hK1=>?_);refine h e K1 _ a w _ x _ hN hd hsv hst hm (slots_at hkn) trivial ⟨c1,hz1.1,hr1⟩ hkn fun a1 w1 k1 f1 m1=>hK1 a1 w1 (tUp ?_);rw[slots_set hkn] at m1;have hnB:∀ r ∈ [(⟨e.lb,l.length * 5,l.length * 5+5⟩:Rng)],¬ e.B r.b:=by
    intro r hr hB;simp at hr;subst hr;exact (hm.bs _ hB).2.1 rfl
  refine h' e Q a1 w1 _ r rb hen (k1.size.trans hN) (k1.defers.trans hd) ((k1.get _ b1).trans hsv) ((k1.get _ b2).trans hst) ((k1.get _ b3).trans htr) (f1.there hth) hrs hrl hrt hrp hrB m1 (by simp) (by omega) ⟨c2,?_,Reps.kept f1 hnB (fun _ h=>h) hr2⟩ ?_
  · have:=hz1.2;rw[hlen,show e.po+o+ty.size=e.po+(o+ty.size) from by omega] at this;exact f1.range this (.cons (.inl fun h=>hm.pl h.symm) .nil)
  intro a2 w2 cs hd2 htr2 f2 hc hr;refine hK a2 w2 cs hd2 htr2 (frame_place hkn f1 f2) hc ?_;rw[List.append_assoc] at hr;exact hr
theorem TRun.cons2 {P:Program} {N sv st tr m:Nat} {c1 c2 c':Code} {k o o':Nat} {t:Ty} {tys:List Ty} {g:V→T} {gs:List (V→T)}
    (h1:TlG P N sv st m c1 k o (.arr t) (fun x=>.raw (lCells x.isNil (.slice none 0 0))) (fun _ y=>y = .raw zT))
    (h2:TlG P N sv st m c2 k o (.arr t) (fun x=>.done (.mk 0 [] x.isNil (x.items.map g) [])) (fun x y=>y = .raw (lCells x.isNil (.slice none 0 0))))
    (h':TRun P N sv st tr m c' (k+1) o' tys gs) (ho:o'=o+1)
    (hb:(decide (sv < m) && decide (st < m) && decide (tr < m))=true) :
    TRun P N sv st tr m (.seq c1 (.seq c2 c')) k o (.arr t::tys) ((fun x=>.mk 0 [] x.isNil (x.items.map g) [])::gs):=by
  intro e Q a w l xs rb hen hN hd hsv hst htr hth hrs hrl hrt hrp hrB hm hl hn ⟨z,hz1,hz2⟩ hK;subst ho;simp only[Bool.and_eq_true,decide_eq_true_eq] at hb;obtain ⟨⟨b1,b2⟩,b3⟩:=hb;obtain ⟨d1,d2,x,r,rfl,rfl,hr1,hr2⟩:=hz2;rw[range_append] at hz1;have hlen:=hr1.length;simp only[List.length_cons] at hn;have hkn:k < e.n:=by omega
  subst hl;refine tId (wp_seq_k fun K1 hK1=>?_);have hnB:∀ r ∈ [(⟨e.lb,l.length * 5,l.length * 5+5⟩:Rng)],¬ e.B r.b:=by
    intro r hr hB;simp at hr;subst hr;exact (hm.bs _ hB).2.1 rfl
  have hnl:∀ r ∈ [(⟨e.lb,l.length * 5,l.length * 5+5⟩:Rng)],r.b ≠ e.pb∧¬ e.B r.b:=by
    intro r hr;refine ⟨?_,hnB r hr⟩;simp at hr;subst hr;exact fun h=>hm.pl h.symm
  have hx:FldAt w e o (.arr t) x:=⟨d1,hz1.1,hr1⟩;have hksl:l.length < (slots l e.n).length:=by rw[hm.len];exact hkn
  refine h1 e K1 _ a w _ x _ hN hd hsv hst hm (slots_at hkn) rfl hx hkn fun a1 w1 k1 f1 m1=>hK1 a1 w1 (tUp ?_);refine tId (wp_seq_k fun K2 hK2=>?_);refine h2 e K2 _ a1 w1 _ x _ (k1.size.trans hN) (k1.defers.trans hd) ((k1.get _ b1).trans hsv) ((k1.get _ b2).trans hst) m1 (List.getElem?_set_self hksl) rfl (hx.kept f1 hnl) hkn fun a2 w2 k2 f2 m2=>hK2 a2 w2 (tUp ?_);rw[set_set,slots_set hkn] at m2;have f12:Fr [⟨e.lb,l.length * 5,l.length * 5+5⟩] w w2:=f1.tr f2;have kk:=k1.trans k2;refine h' e Q a2 w2 _ r rb hen (kk.size.trans hN) (kk.defers.trans hd) ((kk.get _ b1).trans hsv) ((kk.get _ b2).trans hst) ((kk.get _ b3).trans htr) (f12.there hth) hrs hrl hrt hrp hrB m2 (by simp) (by omega) ⟨d2,?_,Reps.kept f12 hnB (fun _ h=>h) hr2⟩ ?_
  · have:=hz1.2;rw[hlen,show e.po+o+(Ty.arr t).size=e.po+(o+1) from by simp[Ty.size];omega] at this;exact f12.range this (.cons (.inl fun h=>hm.pl h.symm) .nil)
  intro a3 w3 cs hd2 htr2 f3 hc hr;refine hK a3 w3 cs hd2 htr2 (frame_place hkn f12 f3) hc ?_;rw[List.append_assoc] at hr;exact hr
theorem results_cell {P:Program} {fn:Func} {t:Nat} {T:TypeId} {z:List Value} {a:Act} {w:World} {b o:Nat} {cs:List Value} (h:fn.results = #[.cell t T]) (hT:Flat P T z) (hl:cs.length=z.length) (ha:get a t = .pointer (some ⟨b,o,none⟩)) (hc:w.rangeAt b o cs) :
    (results fn a.tmps).run P w = .ok (.agg cs.toArray) w:=by
  obtain ⟨_,hs,fs,hu,_⟩:=hT;have hr:=run_loadVar_mid (P:=P) w b o T cs _ hc hu rfl (by rw[hs,hl]);have ha':a.tmps[t]?.getD undef = .pointer (some ⟨b,o,none⟩):=by rw[← Array.getD_eq_getD_getElem?];exact ha
  simp only[results,h];simp[ha',asAddr,hr]
theorem zeroCells_made (n:Nat):(madeCells zT.toArray (n * 5)).toList=zeros zT n:=by
  simp[madeCells,zeros,zT]
theorem r_newTree {P:Program} {TT TL:TypeId} {a:Act} {w:World} {K:Act→World→Prop} {Q:Exit→Act→World→Prop} {i1 n st m k:Nat} (hT:TreeTys P TT TL)
    {t1 t2 t3 t4:TypeId} {p1 p2 p3 p4:String} {e1 e2 e3 e4:Array Edge} (hn:n+1 < a.tmps.size) (hstn:st < n) (hm:m≤st) (hk2:k≤4294967296)
    (hk:∀ a' w' lb tb,Kept m a a'→get a' st = .pointer (some ⟨tb,0,none⟩)→lb=w.heap.size→tb=w.heap.size+1→w.heap.size+2≤w'.heap.size→Fr [] w w'→w'.rangeAt lb 0 (zeros zT k)→w'.there lb 0 (k * 5) →
      w'.rangeAt tb 0 [.int .i64 0,.slice none 0 0,.bool false,.slice (some ⟨lb,0,none⟩) k k,.slice none 0 0]→w'.there tb 0 5→K a' w') :
    (Code.region i1 ⟨[⟨some n,.makeSlice TL (.const (.int .i64 k)) (.const (.int .i64 k)),t1,p1,e1,none⟩,⟨some (n+1),.build TT #[(3,.tmp n)],t2,p2,e2,none⟩,⟨some st,.alloc TT,t3,p3,e3,none⟩,oS TT st (n+1) t4 p4 e4]⟩ false).wp P (Exit.then K Q) a w:=by
  have key:∀ (w2 w3:World) (ob:Obj),w2=w.alloc (.cells (madeCells zT.toArray (k * 5)) TT)→w3=w2.alloc (.cells (Value.agg zT.toArray).cells TT)→∀ (a4:Act) (cs:List Value),Kept m a a4→cs=[.int .i64 0,.slice none 0 0,.bool false,.slice (some ⟨w.heap.size,0,none⟩) k k,.slice none 0 0]→get a4 st = .pointer (some ⟨w2.heap.size,0,none⟩) →
      w3.there w2.heap.size 0 5∧K a4 (w3.setCells w2.heap.size 0 cs):=by
    intro w2 w3 _ hw2 hw3 a4 cs k4 hcs g4;have f2:=Fr.alloc [] w (.cells (madeCells zT.toArray (k * 5)) TT);have rg2:=range_new w (madeCells zT.toArray (k * 5)) TT (0,0);have th2:=there_new w (madeCells zT.toArray (k * 5)) TT;have hs:(madeCells zT.toArray (k * 5)).size=k * 5:=by simp[madeCells]
    have sz2:=size_alloc w (.cells (madeCells zT.toArray (k * 5)) TT);rw[hs] at th2;rw[zeroCells_made] at rg2;rw[← hw2] at f2 rg2 th2 sz2;have f3:=Fr.alloc [] w2 (.cells (Value.agg zT.toArray).cells TT);have th3:=there_new w2 zT.toArray TT;have sz3:=size_alloc w2 (.cells (Value.agg zT.toArray).cells TT);have th3:w3.there w2.heap.size 0 5:=by rw[hw3];exact th3
    rw[← hw3] at f3 sz3;refine ⟨th3,?_⟩;have hcl:cs.length=5:=by rw[hcs];rfl
    have f4:=Fr.sets w2.heap.size cs w3 0;have rg4:=World.rangeAt_setCells_same (w:=w3) w2.heap.size 0 cs (by rw[hcl];exact th3);have sz4:=f4.size;have hnl:∀ r ∈ [(⟨w2.heap.size,0,0+cs.length⟩:Rng)],r.b ≠ w.heap.size:=by intro r hr;simp at hr;subst hr;simp only;omega
    have f34:Fr [⟨w2.heap.size,0,0+cs.length⟩] w2 (w3.setCells w2.heap.size 0 cs):=(f3.nil (l:=_)).tr f4;have f4n:Fr [] w (w3.setCells w2.heap.size 0 cs):=by
      refine f2.trans f34 ?_;intro r hr;simp at hr;subst hr;left;simp only;omega
    refine hk a4 _ w.heap.size w2.heap.size k4 g4 rfl sz2 (by omega) f4n (f34.range rg2 (fun r hr=>.inl (hnl r hr))) (f34.there th2) ?_ (f4.there th3);rw[← hcs];exact rg4
  refine wp_reg ?_;refine wC (wp_make hT.sl hT.zero (by omega) (by omega) ?_);refine wC (wp_build1 hT.flat (by decide) (v:=.slice (some ⟨w.heap.size,0,none⟩) k k) (by rw[eTm,gQ]) rfl ?_);refine wC (wp_alloc hT.flat.zero ?_);rw[wCo];have h1:=key _ _ (.cells #[] TT) rfl rfl
    ((((a.put (some n) (.slice (some ⟨w.heap.size,0,none⟩) k k)).put (some (n+1)) (.agg (zT.set 3 (.slice (some ⟨w.heap.size,0,none⟩) k k)).toArray)).put (some st) (.pointer (some ⟨(w.alloc (.cells (madeCells zT.toArray (k * 5)) TT)).heap.size,0,none⟩))).put none undef)
    (zT.set 3 (.slice (some ⟨w.heap.size,0,none⟩) k k)) (((Kept.put0 (by omega) _).put (by omega) _).put hm _) rfl (gQ)
  refine wp_storeFlat hT.flat (cs:=zT.set 3 (.slice (some ⟨w.heap.size,0,none⟩) k k)) (b:=(w.alloc (.cells (madeCells zT.toArray (k * 5)) TT)).heap.size) (o:=0) rfl (by rw[eTm,gQ]) (by rw[eTm,gR,gQ]) (by simp[zT,Value.oneCell']) h1.1 ?_;exact h1.2
theorem tell_root {P:Program} {TT TL:TypeId} {f:FuncId} {fn:Func} {N st tr n m o0:Nat} {i0 i1:Nat} {c:Code} {pre tys:List Ty} {gs:List (V→T)} (hT:TreeTys P TT TL)
    {t0 t1 t2 t3 t4:TypeId} {p0 p1 p2 p3 p4:String} {e0 e1 e2 e3 e4:Array Edge} {k:Nat}
    (hf:P.funcs[f]?=some fn) (hname:(fn.name == "runtime.NumGoroutine")=false) (hres:fn.results = #[.cell tr TT]) (hN:fn.ntmps=N)
    (hbody:fn.body=some (.seq (Code.region i0 ⟨[⟨some tr,.alloc TT,t0,p0,e0,none⟩]⟩ false) (.seq (Code.region i1 ⟨[⟨some n,.makeSlice TL (.const (.int .i64 k)) (.const (.int .i64 k)),t1,p1,e1,none⟩,⟨some (n+1),.build TT #[(3,.tmp n)],t2,p2,e2,none⟩,⟨some st,.alloc TT,t3,p3,e3,none⟩,oS TT st (n+1) t4 p4 e4]⟩ false) c)))
    (h:TRun P N 0 st tr m c 0 o0 tys gs) (hk:gs.length=k) (ho:o0=Ty.sizes pre) (hk2:k≤4294967296)
    (hb:(decide (0 < tr) && decide (tr < st) && decide (st < n) && decide (n+1 < N))=true) :
    TellM P f (.st (pre++tys)) (fun x=>.mk 0 [] false (tellAll gs (x.items.drop pre.length)) (uOf gs (x.items.drop pre.length))):=by
  simp only[Bool.and_eq_true,decide_eq_true_eq] at hb;obtain ⟨⟨⟨b1,b2⟩,b3⟩,b4⟩:=hb;refine ⟨enters_of hf hname hbody,?_⟩;intro w pb po cz x B hcz hrz hB hpb;refine calls_of_wp hf hbody ?_;generalize ha0:({ tmps:=#[Value.pointer (some ⟨pb,po,none⟩)]++Array.replicate (fn.ntmps - #[Value.pointer (some ⟨pb,po,none⟩)].size) undef,defers:=[] }:Act)=a0;have hsz:a0.tmps.size=N:=by subst ha0;simp[hN];omega
  have hd0:a0.defers=[]:=by subst ha0;rfl
  have q0:get a0 0 = .pointer (some ⟨pb,po,none⟩):=by subst ha0;exact gAr rfl
  refine wT fun K1 hK1=>?_;refine wC (wp_alloc hT.flat.zero ?_);rw[wNi];have f1:=Fr.alloc [] w (.cells (Value.agg zT.toArray).cells TT);have th1:(w.alloc (.cells (Value.agg zT.toArray).cells TT)).there w.heap.size 0 5:=there_new w zT.toArray TT;have sz1:=size_alloc w (.cells (Value.agg zT.toArray).cells TT);generalize hw1:w.alloc (.cells (Value.agg zT.toArray).cells TT)=w1 at f1 th1 sz1 ⊢;refine hK1 _ w1 (tUp ?_);refine tId (wp_seq_k fun K2 hK2=>?_);have hsz1:(a0.put (some tr) (.pointer (some ⟨w.heap.size,0,none⟩))).tmps.size=N:=by simp only[sPu];exact hsz
  have g1:get (a0.put (some tr) (.pointer (some ⟨w.heap.size,0,none⟩))) tr = .pointer (some ⟨w.heap.size,0,none⟩):=gQ;have k1:Kept tr a0 (a0.put (some tr) (.pointer (some ⟨w.heap.size,0,none⟩))):=Kept.put0 (Nat.le_refl _) _;generalize a0.put (some tr) (.pointer (some ⟨w.heap.size,0,none⟩))=a1 at hsz1 g1 k1 ⊢;refine r_newTree (m:=st) hT (by omega) b3 (Nat.le_refl _) hk2 fun a4 w4 lb tb k14 gst hlb htb hsz4 f24 rg2 th2 rg4 th4=>hK2 a4 w4 (tUp ?_);have k4:Kept tr a0 a4:=k1.trans (k14.mono (by omega));have gtr:=(k14.get tr b2).trans g1;have f4n:Fr [] w w4:=f1.tr f24;have hle4:=f4n.size
  -- the struct and its fields
  obtain ⟨xs,rfl,hrs⟩:=hrz;have split:∀ {w:World} {B:Nat→Prop} (pre tys:List Ty) (cz:List Value) (xs:List V),Reps w B (pre++tys) cz xs→∃ c1 c2,cz=c1++c2∧c1.length=Ty.sizes pre∧Reps w B tys c2 (xs.drop pre.length):=by
    intro w B pre
    induction pre with
    | nil=>intro tys cz xs h;exact ⟨[],cz,rfl,rfl,by simpa using h⟩
    | cons t pre ih =>
      intro tys cz xs h;obtain ⟨c1,c2,y,r,rfl,rfl,h1,h2⟩:=h;obtain ⟨d1,d2,rfl,h3,h4⟩:=ih tys c2 r h2;exact ⟨c1++d1,d2,by simp,by simp[h3,h1.length,Ty.sizes],by simpa using h4⟩
  obtain ⟨c1,c2,rfl,hcl,hrs2⟩:=split pre tys cz xs hrs;rw[range_append] at hcz;have hz5:zT.length=5:=rfl;refine h ⟨pb,po,tb,lb,k,w4.heap.size,B⟩ _ a4 w4 [] (xs.drop pre.length) w.heap.size hk2 (by rw[k4.size,hsz]) (by rw[k4.defers,hd0]) ((k4.get 0 (by omega)).trans q0) gst gtr (f24.there th1) (by simp only;omega) (by simp only;omega) (by simp only;omega) (by simp only;omega) (fun h=>by have:=hB _ h;omega)
    ⟨rg4,th4,th2,by simp[slots],by simp only;omega,by simp only;omega,by simp only;omega,fun b hb=>by have:=hB b hb;simp only;exact ⟨by omega,by omega,by omega⟩,by simp only;omega,by simp only;omega,by simp only;omega,Nat.le_refl _,Nat.le_refl _,?_⟩
    rfl (by simp only;omega) ⟨c2,?_,Reps.kept f4n (by simp) (fun _ h=>h) hrs2⟩ ?_
  · intro i y hy;simp only [slots, List.map_nil, List.nil_append, List.length_nil, Nat.sub_zero] at hy;rw [List.getElem?_replicate] at hy
    split at hy
    · rename_i hik
      simp at hy;subst hy
      have:=zeros_part rg2 i hik;rw[hz5] at this;exact ⟨zT,this,rfl,rfl,by simp[zT,Value.oneCell']⟩
    simp at hy
  · simp only;have:=hcz.2;rw[hcl,← ho] at this;exact f4n.range this .nil
  intro a5 w5 cs hd5 htr5 f5 hc5 hr5;have hl5:=hr5.length;refine ⟨hd5,_,results_cell hres hT.flat (by rw[hl5];rfl) htr5 hc5,cs,rfl,?_,?_⟩
  · refine f4n.trans f5 ?_;intro r hr; simp at hr
    rcases hr with rfl | rfl | rfl <;> left <;> simp only <;> omega
  have hle5:=f5.size;refine hr5.kept (Fr.refl [] w5) (by simp) ?_;intro b hb
  rcases hb with rfl | hb
  · omega
  exact ⟨by have:=hb.1;simp only at this;omega,hb.2⟩
end Go.Kq

namespace Go.Kq
open Go Go.Proofs
variable {P:Program} {a:Act} {w:World} {K:Act→World→Prop} {Q:Exit→Act→World→Prop} {d:Option Tmp} {t:TypeId} {p:String} {af:Array Edge} {g:Option (Nat × Bool)}
theorem Things.slice {w:World} {A:Nat→Prop} {v:Value} {l:List T} (h:Things w A v l):∃ q cap,v = .slice q l.length cap:=by
  rcases h with ⟨rfl | ⟨a,rfl⟩,rfl⟩ | ⟨b,o,cap,_,rfl,_⟩
  · exact ⟨none,0,rfl⟩
  · exact ⟨some a,0,rfl⟩
  exact ⟨_,_,rfl⟩
theorem TagsR.slice {w:World} {A:Nat→Prop} {v:Value} {l:List (Nat × List UInt8)} (h:TagsR w A v l):∃ q cap,v = .slice q l.length cap:=by
  rcases h with ⟨rfl | ⟨a,rfl⟩,rfl⟩ | ⟨b,o,cap,_,rfl,_⟩
  · exact ⟨none,0,rfl⟩
  · exact ⟨some a,0,rfl⟩
  exact ⟨_,_,rfl⟩
end Go.Kq

namespace Go.Kq
open Go Go.Proofs
theorem Things.at {w:World} {A:Nat→Prop} {v:Value} {l:List T} (h:Things w A v l) {j:Nat} (hj:j < l.length):∃ b o cap es,v = .slice (some ⟨b,o,none⟩) l.length cap∧w.rangeAt b (o+j * 5) es∧RepT w A es (l[j]):=by
  rcases h with ⟨_,rfl⟩ | ⟨b,o,cap,_,rfl,_,es,h1,h2⟩
  · simp at hj
  exact ⟨b,o,cap,es j,rfl,h1 j l[j] (by simp[hj]),h2 j l[j] (by simp[hj])⟩
theorem TagsR.at {w:World} {A:Nat→Prop} {v:Value} {u:List (Nat × List UInt8)} (h:TagsR w A v u) {j:Nat} (hj:j < u.length):∃ b o cap xv,v = .slice (some ⟨b,o,none⟩) u.length cap∧w.rangeAt b (o+j * 2) [.int .u32 (u[j]).1,xv]∧OctE w A xv (u[j]).2:=by
  rcases h with ⟨_,rfl⟩ | ⟨b,o,cap,_,rfl,_,h1⟩
  · simp at hj
  obtain ⟨xv,_,h2,h3⟩:=h1 j (u[j]).1 (u[j]).2 (by simp[hj]);exact ⟨b,o,cap,xv,rfl,h2,h3⟩
theorem Things.big {w:World} {A:Nat→Prop} {v:Value} {l:List T} (h:Things w A v l):l.length≤4294967296:=by
  rcases h with ⟨_,rfl⟩ | ⟨_,_,_,_,_,h,_⟩
  · simp
  exact h.2
theorem TagsR.big {w:World} {A:Nat→Prop} {v:Value} {u:List (Nat × List UInt8)} (h:TagsR w A v u):u.length≤4294967296:=by
  rcases h with ⟨_,rfl⟩ | ⟨_,_,_,_,_,h,_⟩
  · simp
  exact h.2
end Go.Kq

namespace Go.Kq
open Go Go.Proofs
theorem T.ind {M:T→Prop} (h:∀ n s nl l u,(∀ y ∈ l,M y)→M (.mk n s nl l u)):∀ t,M t
  | .mk n s nl l u=>h n s nl l u fun y hy=>T.ind h y
termination_by t=>SizeOf.sizeOf t
decreasing_by
  have:=List.sizeOf_lt_of_mem hy;simp
  omega
end Go.Kq

namespace Go.Kq
open Go Go.Proofs
def GotCall (P:Program) (f:FuncId) (y:T):Prop :=
  ∀ (w:World) (A:Nat→Prop) (c:List Value),RepT w A c y→(∀ b,A b→b < w.heap.size)→Calls P f #[.agg c.toArray] w fun e w'=>∃ c':List Value,e = .returned (.agg c'.toArray)∧Fr [] w w'∧RepT w' (fun b=>A b∨From w.heap.size w' b) c' y
structure GE where
  b1:Nat
  rb:Nat
  ob:Nat
  s0:Nat
  s1:Nat
  A:Nat→Prop
structure GM (w:World) (e:GE) (c1:List Value) (n:Int) (sv:Value) (nl:Bool) (lv uv:Value):Prop where
  r1:w.rangeAt e.b1 0 c1
  ro:w.rangeAt e.ob 0 [.int .i64 n,sv,.bool nl,lv,uv]
  to:w.there e.ob 0 5
  tr:w.there e.rb 0 5
  a0:∀ b,e.A b→b < e.s0
  ob0:e.s0≤e.ob
  ob1:e.ob < e.s1
  rb0:e.s0≤e.rb
  rb1:e.rb < e.s1
  b10:e.s0≤e.b1
  b11:e.b1 < e.s1
  n1:e.b1 ≠ e.ob
  n2:e.rb ≠ e.ob
  top:e.s1≤w.heap.size
theorem GM.kept {w w':World} {e:GE} {c1:List Value} {n:Int} {sv:Value} {nl:Bool} {lv uv:Value} {r:List Rng} (h:GM w e c1 n sv nl lv uv) (hf:Fr r w w') (hr:∀ x ∈ r,e.s1≤x.b):GM w' e c1 n sv nl lv uv:=by
  obtain ⟨h1,h2,h3,h4,h5,h6,h7,h8,h9,h10,h11,h12,h13,h14⟩:=h;exact ⟨hf.range h1 (fun x hx=>.inl (by have:=hr x hx;omega)),hf.range h2 (fun x hx=>.inl (by have:=hr x hx;omega)),hf.there h3,hf.there h4,h5,h6,h7,h8,h9,h10,h11,h12,h13,Nat.le_trans h14 hf.size⟩
theorem GM.setL {w:World} {e:GE} {c1:List Value} {n:Int} {sv:Value} {nl:Bool} {lv uv:Value} (h:GM w e c1 n sv nl lv uv) (x:Value):GM (w.setCell ⟨e.ob,3,none⟩ x) e c1 n sv nl x uv∧Fr [⟨e.ob,0,5⟩] w (w.setCell ⟨e.ob,3,none⟩ x):=by
  have hf:=Fr.set w e.ob 3 x;obtain ⟨h1,h2,h3,h4,h5,h6,h7,h8,h9,h10,h11,h12,h13,h14⟩:=h;refine ⟨⟨hf.range h1 (.cons (.inl (fun h=>h12 h.symm)) .nil),?_,hf.there h3,hf.there h4,h5,h6,h7,h8,h9,h10,h11,h12,h13,Nat.le_trans h14 hf.size⟩,hf.mono ?_⟩
  · simp only[range_cons] at h2 ⊢;obtain ⟨c0,c1,c2,c3,c4,_⟩:=h2;exact ⟨hf.cell c0 (.cons (.inr (.inl (by simp))) .nil),hf.cell c1 (.cons (.inr (.inl (by simp))) .nil),hf.cell c2 (.cons (.inr (.inl (by simp))) .nil),range_set (there_part h3 (by omega) (by omega)),hf.cell c4 (.cons (.inr (.inr (by simp))) .nil),range_nil⟩
  intro r hr;simp at hr;subst hr;exact .inr ⟨⟨e.ob,0,5⟩,by simp,rfl,by simp,by simp⟩
theorem GM.setU {w:World} {e:GE} {c1:List Value} {n:Int} {sv:Value} {nl:Bool} {lv uv:Value} (h:GM w e c1 n sv nl lv uv) (x:Value):GM (w.setCell ⟨e.ob,4,none⟩ x) e c1 n sv nl lv x∧Fr [⟨e.ob,0,5⟩] w (w.setCell ⟨e.ob,4,none⟩ x):=by
  have hf:=Fr.set w e.ob 4 x;obtain ⟨h1,h2,h3,h4,h5,h6,h7,h8,h9,h10,h11,h12,h13,h14⟩:=h;refine ⟨⟨hf.range h1 (.cons (.inl (fun h=>h12 h.symm)) .nil),?_,hf.there h3,hf.there h4,h5,h6,h7,h8,h9,h10,h11,h12,h13,Nat.le_trans h14 hf.size⟩,hf.mono ?_⟩
  · simp only[range_cons] at h2 ⊢;obtain ⟨c0,c1,c2,c3,c4,_⟩:=h2;exact ⟨hf.cell c0 (.cons (.inr (.inl (by simp))) .nil),hf.cell c1 (.cons (.inr (.inl (by simp))) .nil),hf.cell c2 (.cons (.inr (.inl (by simp))) .nil),hf.cell c3 (.cons (.inr (.inl (by simp))) .nil),range_set (there_part h3 (by omega) (by omega)),range_nil⟩
  intro r hr;simp at hr;subst hr;exact .inr ⟨⟨e.ob,0,5⟩,by simp,rfl,by simp,by simp⟩
def GE.C (e:GE) (w:World) (b:Nat):Prop:=e.A b∨From e.s1 w b
theorem GE.C_mono {e:GE} {w w':World} (h:w.heap.size≤w'.heap.size) (b:Nat) (hb:e.C w b):e.C w' b:=hb.imp (fun h=>h) (From.mono h b)
def GL (w:World) (e:GE) (lv:Value) (l:List T):Prop:=LOwn w (e.C w) lv l∧∀ b,blk lv=some b→e.s1≤b
theorem spare_blk {v:Value} {sz:Nat}:∀ r ∈ spare v sz,blk v=some r.b:=by
  intro r hr;unfold spare at hr
  split at hr
  · simp at hr;subst hr;rfl
  cases hr
theorem got_app {P:Program} {T27 T32 T35 bs:TypeId} {f11:FuncId} {a0:Array TypeId} {i5:Nat}
    {t22 t23 t24 t25 t26 t27 t28 t29:TypeId} {p22 p23 p24 p25 p26 p27 p28 p29:String} {e22 e23 e24 e25 e26 e27 e28 e29:Array Edge}
    (hT:Flat P T35 zT) (hT27:Flat P T27 zT) (hz0:zeroIs P T35 zT) (hT32:scal P T32=true) (hT32s:sliceOf P T32 T35 5 bs=true) (hbs:bs≤1024) (hmx:P.follows .mixedOrders=true) (henter:Enters P f11)
    (he:edgeOk 0 [e22,e23,e24,e25,e26,e27,e28,e29] [[],[0],[],[2],[3],[1,4],[],[0,1,2,3,4,5,6]]=true)
    {a:Act} {w:World} {K:Act→World→Prop} {Q:Exit→Act→World→Prop} {e:GE} {c1:List Value} {n:Int} {sv:Value} {nl:Bool} {lv uv:Value} {l:List T} {y:T} {xb:Nat} {es:List Value}
    (hsz:a.tmps.size=49) (g3:get a 3 = .pointer (some ⟨e.ob,0,none⟩)) (g5:get a 5 = .pointer (some ⟨xb,0,none⟩)) (hm:GM w e c1 n sv nl lv uv) (hl:GL w e lv l) (hll:l.length < 4294967296)
    (hxb:w.rangeAt xb 0 es) (hes:RepT w e.A es y) (hxs:e.s1≤xb) (hxl:∀ b,blk lv=some b→b ≠ xb) (hcall:GotCall P f11 y)
    (hk:∀ a' w' lv',Kept 22 a a'→(∃ r:List Rng,(∀ x ∈ r,e.s1≤x.b)∧Fr (⟨e.ob,0,5⟩::r) w w')→GM w' e c1 n sv nl lv' uv→GL w' e lv' (l++[y])→K a' w') :
    (Code.region i5 ⟨[oF 22 T35 3 3 t22 p22 e22,oL 23 T32 22 t23 p23 e23,oL 24 T27 5 t24 p24 e24,oC 25 f11 #[(.tmp 24)] a0 t25 p25 e25,⟨some 26,.buildSlice T32 1 #[(0,.tmp 25)],t26,p26,e26,none⟩,⟨some 27,.call ⟨.builtin .append,#[(.tmp 23),(.tmp 26)],#[T32,T32]⟩,t27,p27,e27,none⟩,oF 28 T35 3 3 t28 p28 e28,oS T32 28 27 t29 p29 e29]⟩ true).wp P (Exit.then K Q) a w:=by
  obtain ⟨hlo,hbl⟩:=hl;have hs1:=hm.top;have hs01:e.s0≤e.s1:=Nat.le_trans hm.ob0 (Nat.le_of_lt hm.ob1);have hAw:∀ b,e.A b→b < w.heap.size:=fun b hb=>by have:=hm.a0 b hb;omega
  have hCw:∀ w':World,w.heap.size≤w'.heap.size→∀ b,e.C w b→b < w'.heap.size:=fun w' h b hb=>by
    rcases hb with hb | hb
    · have:=hAw b hb;omega
    exact Nat.lt_of_lt_of_le hb.2 h
  have hblw:∀ b,blk lv=some b→e.s1≤b∧b < w.heap.size:=fun b hb=>⟨hbl b hb,hCw w (Nat.le_refl _) b (hlo.blk_in hb)⟩;have hsp:∀ r ∈ spare lv 5,e.s1≤r.b∧r.b < w.heap.size:=fun r hr=>hblw _ (spare_blk r hr);have hnA:∀ r ∈ spare lv 5,¬ e.A r.b:=fun r hr hA=>by have:=hm.a0 _ hA;have:=(hsp r hr).1;omega
  have hnC:∀ r ∈ spare lv 5,∀ w1:World,¬ (e.A r.b∨From w.heap.size w1 r.b):=fun r hr w1 hF=>by
    rcases hF with hF | hF
    · exact hnA r hr hF
    have:=(hsp r hr).2;have:=hF.1;omega
  refine wp_drawE (os:=[oF 22 T35 3 3 t22 p22 e22,oL 23 T32 22 t23 p23 e23,oL 24 T27 5 t24 p24 e24,oC 25 f11 #[(.tmp 24)] a0 t25 p25 e25,⟨some 26,.buildSlice T32 1 #[(0,.tmp 25)],t26,p26,e26,none⟩,⟨some 27,.call ⟨.builtin .append,#[(.tmp 23),(.tmp 26)],#[T32,T32]⟩,t27,p27,e27,none⟩,oF 28 T35 3 3 t28 p28 e28])
    [spC [] (.pointer (some ⟨e.ob,0+3,none⟩)),spC [0] lv,spC [] (.agg es.toArray),spR [2] (fun v w'=>∃ cs:List Value,v = .agg cs.toArray∧RepT w' (fun b=>e.A b∨From w.heap.size w' b) cs y),
      spR [3] (fun v w'=>∃ (b:Nat) (cs:List Value),v = .slice (some ⟨b,0,none⟩) 1 1∧w.heap.size≤b∧w'.rangeAt b 0 cs∧RepT w' (fun b=>e.A b∨From w.heap.size w' b) cs y),
      spW [1,4] (fun v w'=>GL w' e v (l++[y])),spC [] (.pointer (some ⟨e.ob,0+3,none⟩))] 22 (spare lv 5) hmx he (by simp[shape]) rfl (by simp[spC,spR,spW]) (by simp;omega)
    ⟨lCc _ _ _,lCc _ _ _,lCc _ _ _,?_,?_,?_,lCc _ _ _,trivial⟩ ?_ ?_
  · rintro v w1 w2 hf12 ⟨cs,h1,h2⟩;exact ⟨cs,h1,h2.kept hf12 (fun r hr=>hnC r hr w1) (fun b hb=>hb.imp (fun h=>h) (From.mono hf12.size b))⟩
  · rintro v w1 w2 hf12 ⟨b,cs,h1,h2,h3,h4⟩;exact ⟨b,cs,h1,h2,hf12.range h3 (fun r hr=>.inl (by have:=(hsp r hr).2;omega)),h4.kept hf12 (fun r hr=>hnC r hr w1) (fun b hb=>hb.imp (fun h=>h) (From.mono hf12.size b))⟩
  · intro v w1 w2 hf12 h1;have hf12:Fr [] w1 w2:=hf12;have h1:GL w1 e v (l++[y]):=h1;exact ⟨h1.1.kept hf12 (by simp) (GE.C_mono hf12.size),h1.2⟩
  · refine ⟨op_c fun a' w' hk' hf' hd' K' hK' => ?_, op_c fun a' w' hk' hf' hd' K' hK' => ?_, op_c fun a' w' hk' hf' hd' K' hK' => ?_, op_r fun a' w' hk' hf' hd' K' hK' => ?_, op_r fun a' w' hk' hf' hd' K' hK' => ?_, op_w fun a' w' hk' hf' hd' K' hK' => ?_, op_c fun a' w' hk' hf' hd' K' hK' => ?_, trivial⟩
    · exact wFa (hT.field (by decide)) (by rw[eTm,hk'.get 3 (by omega),g3]) hK'
    · exact wp_load hT32 (by rw[eTm];exact hd'.c 0 (by simp) rfl) ((hm.kept hf' (fun r hr=>(hsp r hr).1)).ro 3 _ rfl) hK'
    · exact wp_loadFlat hT27 (cs:=es) (by rw[hes.length];rfl) (by rw[eTm,hk'.get 5 (by omega),g5]) (hf'.range hxb (fun r hr=>.inl (hxl _ (spare_blk r hr)))) hK'
    · have hwf:=hf'.size;refine wp_calls henter (vs:=#[.agg es.toArray]) (by simp[eTm,hd'.c 2 (by simp) rfl]) (R:=fun v w2=>∃ cs:List Value,v = .agg cs.toArray∧Fr [] w' w2∧RepT w2 (fun b=>e.A b∨From w'.heap.size w2 b) cs y)
        ((hcall w' e.A es (hes.kept hf' hnA (fun _ h=>h)) (fun b hb=>by have:=hAw b hb;omega)).mono (by rintro e' w2 ⟨cs,rfl,h1,h2⟩;exact ⟨_,rfl,cs,rfl,h1,h2⟩)) ?_
      rintro v w2 ⟨cs,rfl,h1,h2⟩;exact hK' _ _ ⟨cs,rfl,h2.kept (Fr.refl [] w2) (by simp) (fun b hb=>hb.imp (fun h=>h) (fun h=>⟨by have:=h.1;omega,h.2⟩))⟩ h1
    · obtain ⟨cs,h1,h2⟩:=hd'.at (d:=3) (by simp) rfl;have hwf:=hf'.size;refine wp_slice1 hT32s hz0 rfl (by omega) (cs:=cs) (by rw[eTm,h1];rfl) h2.length fun _=>?_;have hal:=Fr.alloc [] w' (.cells cs.toArray T35);exact hK' _ _ ⟨_,cs,rfl,hwf,range_new w' cs.toArray T35 (0,0),h2.kept hal (by simp) (fun b hb=>hb.imp (fun h=>h) (From.mono hal.size b))⟩ hal
    · obtain ⟨bb,cs,h1,h2,h3,h4⟩:=hd'.at (d:=4) (by simp) rfl;have hlv:get a' (22+1)=lv:=hd'.c 1 (by simp) rfl;have hwf:=hf'.size;obtain ⟨flat,ho1,ho2⟩:=hlo.spares hf' (A':=e.C w') (GE.C_mono hf'.size);have hc4:=h4.length;have hmul:(l.length+1) * bs≤4294967296 * 1024:=Nat.mul_le_mul (by omega) hbs;refine wp_append (A:=e.C w') (z:=zT) hT32s hz0 rfl (by rw[eTm,hlv]) (by rw[eTm,h1]) ho1 (by omega) (news:=cs) (by omega) h3 h4.ones (by omega) (by simp only[maxLen];omega) ?_;intro v' w2 hf2 ho' hbk;have hf2s:=hf2.size;have hCw':∀ b,e.C w' b→e.C w2 b∧b < w'.heap.size:=fun b hb=>⟨GE.C_mono hf2s b hb,by
        rcases hb with hb | hb
        · have:=hAw b hb;omega
        · exact hb.2⟩
      refine hK' _ _ ⟨LOwn.app (A':=e.C w2) ho2 ho1 hf2 ?_ hbk hCw' h4 ?_,?_⟩ hf2
      · obtain ⟨ha, hb⟩ := ho';refine ⟨ha, hb.imp (fun h => h) ?_⟩;rintro ⟨g', o', cap', hg', hrest⟩;refine ⟨g', o', cap', ?_, hrest⟩
        rcases hg' with hg' | hg'
        · exact (hCw' _ hg').1
        exact .inr ⟨by have:=hg'.1;omega,hg'.2⟩
      · intro b hb
        rcases hb with hb | hb
        · refine ⟨.inl hb,fun hbl'=>?_⟩;have:=(hblw b hbl').1;have:=hm.a0 b hb;omega
        refine ⟨.inr ⟨by have:=hb.1;omega,hb.2⟩,fun hbl'=>?_⟩;have:=(hblw b hbl').2;have:=hb.1;omega
      intro b hb
      rcases hbk with h | h
      · rw[h] at hb;exact hbl b hb
      rw[h] at hb;simp at hb;omega
    exact wFa (hT.field (by decide)) (by rw[eTm,hk'.get 3 (by omega),g3]) hK'
  intro a' w' hk' hf' hd';have g28:get a' 28 = .pointer (some ⟨e.ob,3,none⟩):=hd'.c (nd':=[]) (x:=.pointer (some ⟨e.ob,0+3,none⟩)) 6 (by simp) rfl;have h27:GL w' e (get a' 27) (l++[y]):=hd'.at (d:=5) (by simp) rfl;have hmw:=hm.kept hf' (fun r hr=>(hsp r hr).1);obtain ⟨h5,h6⟩:=hmw.setL (get a' 27);refine wp_store hT32 (by rw[eTm,g28]) rfl h27.1.one (there_part hmw.to (by omega) (by omega)) ?_;have hob:=hm.ob1;refine hk _ _ _ hk' ⟨spare lv 5,fun r hr=>(hsp r hr).1,?_⟩ h5 ⟨h27.1.kept h6 ?_ (GE.C_mono h6.size),h27.2⟩
  · refine (hf'.mono (l':=⟨e.ob,0,5⟩::spare lv 5) (fun r hr=>Rng.in_self (List.mem_cons_of_mem _ hr))).trans h6 ?_;intro r hr;simp at hr;subst hr;exact Rng.in_self (by simp)
  intro r hr hF;simp at hr;subst hr
  rcases hF with hF | hF
  · have:=hm.a0 _ hF;have:=hm.ob0;simp only at *;omega
  have:=hF.1;simp only at *;omega
end Go.Kq

namespace Go.Kq
open Go Go.Proofs
theorem GE.notA {w:World} {e:GE} {c1:List Value} {n:Int} {sv:Value} {nl:Bool} {lv uv:Value} (h:GM w e c1 n sv nl lv uv) {r:List Rng} (hr:∀ x ∈ r,e.s1≤x.b):∀ x ∈ (⟨e.ob,0,5⟩:Rng)::r,¬ e.A x.b:=by
  intro x hx hA;have h1:=h.a0 _ hA
  rcases List.mem_cons.1 hx with rfl | hx
  · have:=h.ob0;simp only at *;omega
  have:=hr x hx;have:=h.ob0;have:=h.ob1;omega
theorem r_boxed {P:Program} {T24 T27 et bs:TypeId} {i4 m:Nat} {z:List Value} {sa si sx sv1 sv2:Nat} {t16 t17 t18 t19:TypeId} {p16 p17 p18 p19:String} {e16 e17 e18 e19:Array Edge}
    (hT:Flat P T27 z) (hs:sliceOf P T24 et z.length bs=true) {a:Act} {w:World} {K:Act→World→Prop} {Q:Exit→Act→World→Prop} {b o len cap j:Nat} {es:List Value}
    (ga:get a sa = .slice (some ⟨b,o,none⟩) len cap) (gi:get a si = .int .i64 j) (hj:j < len) (hes:w.rangeAt b (o+j * z.length) es) (hl:es.length=z.length) (h1:∀ u ∈ es,u.oneCell'=true)
    (hb:sv1+1=sv2∧sv2 < a.tmps.size∧sx < a.tmps.size∧sx < sv1∧m≤sx∧m≤sv1)
    (hk:∀ a' w',Kept m a a'→(∀ t,t < sv1→t ≠ sx→get a' t=get a t)→get a' sx = .pointer (some ⟨w.heap.size,0,none⟩)→Fr [] w w'→w.heap.size < w'.heap.size→w'.rangeAt w.heap.size 0 es→K a' w') :
    (Code.region i4 ⟨[⟨some sv1,.indexAddr T24 (.tmp sa) (.tmp si),t16,p16,e16,none⟩,oL sv2 T27 sv1 t17 p17 e17,⟨some sx,.alloc T27,t18,p18,e18,none⟩,oS T27 sx sv2 t19 p19 e19]⟩ false).wp P (Exit.then K Q) a w:=by
  obtain ⟨rfl,q2,q3,q4,q5,q6⟩:=hb;refine wp_reg ?_;refine wC (wp_indexAddr hs (by rw[eTm,ga]) (by rw[eTm,gi]) (by omega) (by omega) ?_);refine wC (wp_loadFlat hT (cs:=es) (b:=b) (o:=o+j * z.length) hl (by rw[eTm,gQ];simp) hes ?_);refine wC (wp_alloc hT.zero ?_);rw[wCo];have hal:=Fr.alloc [] w (.cells (Value.agg z.toArray).cells T27);have hth:(w.alloc (.cells (Value.agg z.toArray).cells T27)).there w.heap.size 0 es.length:=by
    have:=there_new w z.toArray T27;rw[hl];rw[List.size_toArray] at this;exact this
  have hsz:=size_alloc w (.cells (Value.agg z.toArray).cells T27);refine wp_storeFlat hT (cs:=es) (b:=w.heap.size) (o:=0) hl (by rw[eTm,gQ]) (by rw[eTm,gR,gQ]) h1 hth ?_;rw[wNi,pNo];have hf:=Fr.sets w.heap.size es (w.alloc (.cells (Value.agg z.toArray).cells T27)) 0;have hfs:=hf.size;refine hk _ _ (((Kept.put0 q6 _).put (by omega) _).put q5 _) (fun t h1 h2=>by rw[gPn (fun e=>h2 e.symm),gR,gR]) (gQ) (hal.trans hf ?_) (by omega) (World.rangeAt_setCells_same _ _ _ _ hth);intro r hr;simp at hr;subst hr;exact .inl (Nat.le_refl _)
theorem got_loopL {P:Program} {T3 T24 T27 T32 T35 bs bs2:TypeId} {f11:FuncId} {a0:Array TypeId} {i2 i3 i4 i5 i6:Nat}
    {t11 t12 t13 t14 t15 t16 t17 t18 t19 t20 t21 t22 t23 t24 t25 t26 t27 t28 t29:TypeId} {p11 p12 p13 p14 p15 p16 p17 p18 p19 p20 p21 p22 p23 p24 p25 p26 p27 p28 p29:String} {e11 e12 e13 e14 e15 e16 e17 e18 e19 e20 e21 e22 e23 e24 e25 e26 e27 e28 e29:Array Edge}
    (hT:Flat P T35 zT) (hT27:Flat P T27 zT) (hz0:zeroIs P T35 zT) (hT24:scal P T24=true) (hT24s:sliceOf P T24 T27 5 bs2=true) (hT32:scal P T32=true) (hT32s:sliceOf P T32 T35 5 bs=true) (hbs:bs≤1024) (hmx:P.follows .mixedOrders=true) (henter:Enters P f11)
    (he:edgeOk 0 [e20,e21,e22,e23,e24,e25,e26,e27] [[],[0],[],[2],[3],[1,4],[],[0,1,2,3,4,5,6]]=true)
    {a:Act} {w:World} {K:Act→World→Prop} {Q:Exit→Act→World→Prop} {e:GE} {n n1:Int} {sv s1:Value} {nl nl1:Bool} {l1 u1 uv:Value} {l:List T}
    (hsz:a.tmps.size=49) (g1:get a 1 = .pointer (some ⟨e.b1,0,none⟩)) (g3:get a 3 = .pointer (some ⟨e.ob,0,none⟩)) (hm:GM w e [.int .i64 n1,s1,.bool nl1,l1,u1] n sv nl (.slice none 0 0) uv) (ht:Things w e.A l1 l)
    (hcall:∀ y ∈ l,GotCall P f11 y)
    (hk:∀ a' w' lv',Kept 4 a a'→(∃ r:List Rng,(∀ x ∈ r,e.s1≤x.b)∧Fr (⟨e.ob,0,5⟩::r) w w')→GM w' e [.int .i64 n1,s1,.bool nl1,l1,u1] n sv nl lv' uv→GL w' e lv' l→K a' w') :
    (Code.seq (Code.region i2 ⟨[oF 15 T27 1 3 t11 p11 e11, oL 16 T24 15 t12 p12 e12, ⟨some 17, .call ⟨.builtin .len, #[(.tmp 16)], #[T24]⟩, t13, p13, e13, none⟩, ⟨some 18, .move (.const (.int .i64 0)), t14, p14, e14, none⟩]⟩ false) (.block 0 (.loop (.seq (Code.region i3 ⟨[⟨some 19, .binOp .lss T3 (.tmp 18) (.tmp 17) T3, t15, p15, e15, none⟩]⟩ false) (.seq (.cond (.tmp 19) .skip (.exit 0)) (.seq (.block 1 (.seq (Code.region i4 ⟨[⟨some 20, .indexAddr T24 (.tmp 16) (.tmp 18), t16, p16, e16, none⟩, oL 21 T27 20 t17 p17 e17, ⟨some 5, .alloc T27, t18, p18, e18, none⟩, oS T27 5 21 t19 p19 e19]⟩ false)
              (Code.region i5 ⟨[oF 22 T35 3 3 t20 p20 e20,oL 23 T32 22 t21 p21 e21,oL 24 T27 5 t22 p22 e22,oC 25 f11 #[(.tmp 24)] a0 t23 p23 e23,⟨some 26,.buildSlice T32 1 #[(0,.tmp 25)],t24,p24,e24,none⟩,⟨some 27,.call ⟨.builtin .append,#[(.tmp 23),(.tmp 26)],#[T32,T32]⟩,t25,p25,e25,none⟩,oF 28 T35 3 3 t26 p26 e26,oS T32 28 27 t27 p27 e27]⟩ true)))
            (Code.region i6 ⟨[⟨some 29,.binOp .add T3 (.tmp 18) (.const (.int .i64 1)) T3,t28,p28,e28,none⟩,oM 18 29 t29 p29 e29]⟩ false))))))).wp P (Exit.then K Q) a w:=by
  have hbig:=ht.big;obtain ⟨ql1,cl1,hl1⟩:=ht.slice;refine wS fun K5 hK5=>?_;refine wC (wFa (hT27.field (k:=3) (by decide)) (by rw[eTm,g1]) ?_);refine wC (wp_load hT24 (by rw[eTm,gQ]) (hm.r1 3 l1 rfl) ?_);refine wC (wp_len hT24s (by rw[eTm,gQ,hl1]) ?_);rw[wCo,wMw,eCo,wNi];generalize ha3:(((a.put (some 15) (.pointer (some ⟨e.b1,0+3,none⟩))).put (some 16) l1).put (some 17) (.int .i64 l.length)).put (some 18) (.int .i64 0)=a3;have k3:Kept 4 a a3:=by subst ha3;exact (((Kept.put0 (by omega) _).put (by omega) _).put (by omega) _).put (by omega) _
  have g16:get a3 16=l1:=by subst ha3;rw[gR,gR,gQ]
  have g17:get a3 17 = .int .i64 l.length:=by subst ha3;rw[gR,gQ]
  have g18:get a3 18 = .int .i64 0:=by subst ha3;rw[gQ]
  refine hK5 a3 w ?_;refine wp_block (wp_loop (fun a' w'=>∃ (j:Nat) (lv:Value),j≤l.length∧Kept 4 a a'∧get a' 16=l1∧get a' 17 = .int .i64 l.length∧get a' 18 = .int .i64 j∧GM w' e [.int .i64 n1,s1,.bool nl1,l1,u1] n sv nl lv uv∧GL w' e lv (l.take j) ∧
    ∃ r:List Rng,(∀ x ∈ r,e.s1≤x.b)∧Fr (⟨e.ob,0,5⟩::r) w w') (fun a' _=>l.length - idxOf (get a' 18)) ?_ ?_)
  · exact ⟨0,_,Nat.zero_le _,k3,g16,g17,g18,hm,⟨by simpa using LOwn.nil,by simp[blk]⟩,[],by simp,Fr.refl _ _⟩
  rintro a4 w4 ⟨j,lv,hj,k4,ga,gl,gi,hm4,hl4,r,hr,f4⟩;have hz4:=k4.size;refine wS fun K6 hK6=>?_;refine wC (wp_lss (k1:=.i64) (i:=j) (j:=l.length) (by rw[eTm,gi]) (by rw[eTm,gl]) ?_);rw[wNi];generalize ha5:a4.put (some 19) (.bool (decide ((j:Int) < l.length)))=a5;have k5:Kept 19 a4 a5:=by subst ha5;exact Kept.put0 (Nat.le_refl _) _
  have g19:get a5 19 = .bool (decide ((j:Int) < l.length)):=by subst ha5;exact gQ
  have hz5:=k5.size;refine hK6 a5 w4 ?_;refine wp_seq_k fun K7 hK7=>?_;refine wp_cond_split (t:=decide ((j:Int) < l.length)) (by rw[eTm,g19]) ?_ ?_
  · intro hlt;have hjl : j < l.length := by simpa using hlt
    refine wp_skip (hK7 a5 w4 ?_);refine wp_seq_k fun K8 hK8=>?_;refine wp_block (wp_mono (show Code.wp P _ (Exit.then K8 (Exit.inBlock 1 (Exit.then K8 _))) a5 w4 from ?_) (fun _ _ _=>inBlock_then));refine wp_seq_k fun K9 hK9=>?_;have ht4:=ht.kept f4 (GE.notA hm hr) (fun _ h=>h);obtain ⟨bb,oo,cc,es,hv,hres,htr⟩:=ht4.at hjl;refine r_boxed (m:=4) (z:=zT) (et:=T27) (bs:=bs2) (b:=bb) (o:=oo) (len:=l.length) (cap:=cc) (j:=j) hT27 hT24s (by rw[k5.get 16 (by omega),ga,hv]) (by rw[k5.get 18 (by omega),gi]) hjl hres htr.length htr.ones ⟨rfl,by omega,by omega,by omega,by omega,by omega⟩ fun a6 w6 k6 hkeep g5 f6 hlt6 hxr=>hK9 a6 w6 ?_;have hz6:=k6.size;have hm6:=hm4.kept f6 (by simp);have hlen:(l.take j).length=j:=by simp;omega
    have hblt:∀ b,blk lv=some b→b < w4.heap.size:=fun b hb=>by
      rcases hl4.1.blk_in hb with h | h
      · have:=hm4.a0 b h;have:=hm4.ob0;have:=hm4.ob1;have:=hm4.top;omega
      exact h.2
    refine got_app (xb:=w4.heap.size) (es:=es) (y:=l[j]) hT hT27 hz0 hT32 hT32s hbs hmx henter he (by omega) (by rw[hkeep 3 (by omega) (by omega),k5.get 3 (by omega),k4.get 3 (by omega),g3]) g5 hm6 ⟨hl4.1.kept f6 (by simp) (GE.C_mono f6.size),hl4.2⟩ (by omega) hxr
      (htr.kept f6 (by simp) (fun _ h=>h)) hm4.top (fun b hb h=>by have:=hblt b hb;omega) (hcall _ (List.getElem_mem hjl)) ?_
    rintro a7 w7 lv' k7 ⟨r',hr',f7⟩ hm7 hl7;refine hK8 a7 w7 ?_;have hz7:=k7.size;have g18':get a7 18 = .int .i64 j:=by rw[k7.get 18 (by omega),hkeep 18 (by omega) (by omega),k5.get 18 (by omega),gi]
    refine wp_reg ?_;refine wC (wp_add (k1:=.i64) (i:=j) (j:=1) (by rw[eTm,g18']) rfl ?_);rw[wCo,wMw,eTm,gQ,wNi];have hwr:IntKind.i64.wrap ((j:Int)+1)=((j+1:Nat):Int):=by
      simp[IntKind.wrap,IntKind.bits,IntKind.signed];omega
    rw[hwr];refine ⟨⟨j+1,lv',hjl,?_,?_,?_,?_,hm7,?_,r++r',?_,?_⟩,?_⟩
    · exact (((k4.trans (k5.mono (by omega))).trans k6).trans (k7.mono (by omega))).trans ((Kept.put0 (by omega) _).put (by omega) _)
    · rw[gR,gR,k7.get 16 (by omega),hkeep 16 (by omega) (by omega),k5.get 16 (by omega),ga]
    · rw[gR,gR,k7.get 17 (by omega),hkeep 17 (by omega) (by omega),k5.get 17 (by omega),gl]
    · rw[gQ]
    · rw[List.take_succ_eq_append_getElem hjl];exact hl7
    · intro x hx
      rcases List.mem_append.1 hx with h | h
      · exact hr x h
      exact hr' x h
    · have f46:Fr (⟨e.ob,0,5⟩::(r++r')) w w6:=(f4.mono (l':=⟨e.ob,0,5⟩::(r++r')) (fun x hx=>by
        rcases List.mem_cons.1 hx with rfl | h
        · exact Rng.in_self (by simp)
        · exact Rng.in_self (List.mem_cons_of_mem _ (List.mem_append_left _ h)))).tr (Fr.nil f6)
      refine f46.trans f7 fun x hx=>?_
      rcases List.mem_cons.1 hx with rfl | h
      · exact Rng.in_self (by simp)
      exact Rng.in_self (List.mem_cons_of_mem _ (List.mem_append_right _ h))
    rw[gQ,gi];simp[idxOf];omega
  intro hge;have hjl:j=l.length:=by
    have:¬ ((j:Int) < l.length):=by simpa using hge
    omega
  subst hjl;rw[List.take_length] at hl4;refine wp_exit ?_;show K a5 w4
  exact hk a5 w4 lv (k4.trans (k5.mono (by omega))) ⟨r,hr,f4⟩ hm4 hl4
end Go.Kq

namespace Go.Kq
open Go Go.Proofs
def zG:List Value:=[.int .u32 0,.slice none 0 0]
def TOwn (w:World) (A:Nat→Prop) (uv:Value) (u:List (Nat × List UInt8)):Prop :=
  ∃ flat,Own w A 2 uv u.length flat∧∀ (i k:Nat) (x:List UInt8),u[i]?=some (k,x)→∃ xv,(flat.drop (i * 2)).take 2=[.int .u32 k,xv]∧k < 4294967296∧OctE w (fun b=>A b∧blk uv ≠ some b) xv x
theorem TOwn.nil {w:World} {A:Nat→Prop}:TOwn w A (.slice none 0 0) []:=⟨[],Own.nil,by simp⟩
theorem TOwn.one {w:World} {A:Nat→Prop} {lv:Value} {l:List (Nat × List UInt8)} (h:TOwn w A lv l):lv.oneCell'=true:=by
  obtain ⟨_,h,_⟩:=h;exact h.one
theorem TOwn.tags {w:World} {A:Nat→Prop} {lv:Value} {l:List (Nat × List UInt8)} (hbig:l.length≤4294967296) (h:TOwn w A lv l):TagsR w A lv l:=by
  obtain ⟨flat,⟨h1,h2 | ⟨g,o,cap,hg,rfl,hnc,_,hr,_⟩⟩,h3⟩:=h
  · exact .inl ⟨.inl h2.1,List.eq_nil_of_length_eq_zero h2.2⟩
  refine .inr ⟨g,o,cap,hg,rfl,⟨hnc,hbig⟩,fun i k x hi=>?_⟩;obtain ⟨xv,h4,h5,h6⟩:=h3 i k x hi;have:=range_part hr (i * 2) 2;rw[h4] at this;exact ⟨xv,h5,this,h6.kept (Fr.refl [] w) (by simp) (fun b hb=>hb.1)⟩
theorem TOwn.kept {w w':World} {A A':Nat→Prop} {lv:Value} {l:List (Nat × List UInt8)} {r:List Rng} (h:TOwn w A lv l) (hf:Fr r w w') (hl:∀ x ∈ r,¬ A x.b) (hA:∀ b,A b→A' b):TOwn w' A' lv l:=by
  obtain ⟨flat,h1,h2⟩:=h;refine ⟨flat,h1.kept hf (fun x hx hb=>absurd hb (hl x hx)) hA,fun i k x hi=>?_⟩;obtain ⟨xv,h4,h5,h6⟩:=h2 i k x hi;exact ⟨xv,h4,h5,h6.kept hf (fun x hx hb=>hl x hx hb.1) (fun b hb=>⟨hA b hb.1,hb.2⟩)⟩
theorem TOwn.blk_in {w:World} {A:Nat→Prop} {lv:Value} {l:List (Nat × List UInt8)} (h:TOwn w A lv l) {b:Nat} (hb:blk lv=some b):A b:=by
  obtain ⟨_,⟨_,h | ⟨g,o,cap,hg,h,_⟩⟩,_⟩:=h
  · rw[h.1] at hb;simp[blk] at hb
  rw[h] at hb;simp[blk] at hb;subst hb;exact hg
theorem flat_part2 {flat cs:List Value} {n i:Nat} (h:flat.length=n * 2) (hi:i < n):((flat++cs).drop (i * 2)).take 2=(flat.drop (i * 2)).take 2:=by
  rw[List.drop_append_of_le_length (by omega),List.take_append_of_le_length (by simp;omega)]
theorem flat_last2 {flat cs:List Value} {n:Nat} (h:flat.length=n * 2) (hc:cs.length=2):((flat++cs).drop (n * 2)).take 2=cs:=by
  rw[← h,List.drop_left,← hc,List.take_length]
theorem TOwn.app {w w':World} {A A' C:Nat→Prop} {lv lv':Value} {l:List (Nat × List UInt8)} {k:Nat} {x:List UInt8} {xv:Value} {flat:List Value}
    (h:∀ (i k:Nat) (x:List UInt8),l[i]?=some (k,x)→∃ xv,(flat.drop (i * 2)).take 2=[.int .u32 k,xv]∧k < 4294967296∧OctE w (fun b=>A b∧blk lv ≠ some b) xv x) (ho:Own w A 2 lv l.length flat)
    (hf:Fr (spare lv 2) w w') (ho':Own w' A' 2 lv' (l.length+1) (flat++[.int .u32 k,xv])) (hbk:blk lv'=blk lv∨blk lv'=some w.heap.size) (hA:∀ b,A b→A' b∧b < w.heap.size) (hk:k < 4294967296) (hy:OctE w C xv x) (hC:∀ b,C b→A b∧blk lv ≠ some b) :
    TOwn w' A' lv' (l++[(k,x)]):=by
  have hfl:=ho.1;have hm:∀ b,A b∧blk lv ≠ some b→A' b∧blk lv' ≠ some b:=by
    intro b ⟨h1,h2⟩;refine ⟨(hA b h1).1,?_⟩
    rcases hbk with h3 | h3
    · rw[h3];exact h2
    rw[h3];have:=(hA b h1).2;simp;omega
  have hn:∀ r ∈ spare lv 2,¬ (A r.b∧blk lv ≠ some r.b):=fun r hr h2=>h2.2 (spare_blk r hr);refine ⟨flat++[.int .u32 k,xv],by rw[List.length_append];exact ho',fun i k' x' hi=>?_⟩
  by_cases hil:i < l.length
  · rw[List.getElem?_append_left hil] at hi;rw[flat_part2 hfl hil];obtain ⟨yv,h4,h5,h6⟩:=h i k' x' hi;exact ⟨yv,h4,h5,h6.kept hf hn hm⟩
  rw[List.getElem?_append_right (by omega)] at hi;have hi0:i=l.length:=by
    rcases Nat.lt_or_ge (i - l.length) 1 with h1 | h1
    · omega
    rw[List.getElem?_eq_none (by simpa using h1)] at hi;simp at hi
  subst hi0;rw[Nat.sub_self] at hi;simp at hi
  obtain ⟨rfl,rfl⟩:=hi;rw[flat_last2 hfl rfl];exact ⟨xv,rfl,hk,hy.kept hf (fun r hr hc=>hn r hr (hC _ hc)) (fun b hb=>hm b (hC b hb))⟩
def GU (w:World) (e:GE) (uv:Value) (u:List (Nat × List UInt8)):Prop:=TOwn w (e.C w) uv u∧∀ b,blk uv=some b→e.s1≤b
theorem got_tag {P:Program} {T22 T33 T35 T59 T61 T62 bs:TypeId} {i10:Nat}
    {t39 t40 t41 t42 t43 t44 t45 t46 t47 t48 t49:TypeId} {p39 p40 p41 p42 p43 p44 p45 p46 p47 p48 p49:String} {e39 e40 e41 e42 e43 e44 e45 e46 e47 e48 e49:Array Edge}
    (hT:Flat P T35 zT) (hT61:Flat P T61 zG) (hT62:Flat P T62 zG) (hz61:zeroIs P T61 zG) (hT22:scal P T22=true) (hT59:scal P T59=true) (hT33:scal P T33=true) (hT33s:sliceOf P T33 T61 2 bs=true) (hbs:bs≤1024)
    {a:Act} {w:World} {K:Act→World→Prop} {Q:Exit→Act→World→Prop} {e:GE} {c1:List Value} {n:Int} {sv:Value} {nl:Bool} {lv uv xv:Value} {u:List (Nat × List UInt8)} {k:Nat} {x:List UInt8} {xb:Nat}
    (hsz:a.tmps.size=49) (g3:get a 3 = .pointer (some ⟨e.ob,0,none⟩)) (g7:get a 7 = .pointer (some ⟨xb,0,none⟩)) (hm:GM w e c1 n sv nl lv uv) (hu:GU w e uv u) (hll:u.length < 4294967296)
    (hxb:w.rangeAt xb 0 [.int .u32 k,xv]) (hes:OctE w e.A xv x) (hkk:k < 4294967296)
    (hk:∀ a' w' uv',Kept 37 a a'→(∃ r:List Rng,(∀ x ∈ r,e.s1≤x.b)∧Fr (⟨e.ob,0,5⟩::r) w w')→GM w' e c1 n sv nl lv uv'→GU w' e uv' (u++[(k,x)])→K a' w') :
    (Code.region i10 ⟨[oF 37 T35 3 4 t39 p39 e39,oL 38 T33 37 t40 p40 e40,oF 39 T62 7 0 t41 p41 e41,oL 40 T59 39 t42 p42 e42,oF 41 T62 7 1 t43 p43 e43,oL 42 T22 41 t44 p44 e44,⟨some 43,.build T61 #[(0,.tmp 40),(1,.tmp 42)],t45,p45,e45,none⟩,⟨some 44,.buildSlice T33 1 #[(0,.tmp 43)],t46,p46,e46,none⟩,⟨some 45,.call ⟨.builtin .append,#[(.tmp 38),(.tmp 44)],#[T33,T33]⟩,t47,p47,e47,none⟩,oF 46 T35 3 4 t48 p48 e48,oS T33 46 45 t49 p49 e49]⟩ false).wp P (Exit.then K Q) a w:=by
  obtain ⟨hlo,hbl⟩:=hu;have hs1:=hm.top;have hs01:e.s0≤e.s1:=Nat.le_trans hm.ob0 (Nat.le_of_lt hm.ob1);have hAw:∀ b,e.A b→b < w.heap.size:=fun b hb=>by have:=hm.a0 b hb;omega
  have hCw:∀ b,e.C w b→b < w.heap.size:=fun b hb=>by
    rcases hb with hb | hb
    · exact hAw b hb
    exact hb.2
  have hblw:∀ b,blk uv=some b→e.s1≤b∧b < w.heap.size:=fun b hb=>⟨hbl b hb,hCw b (hlo.blk_in hb)⟩;refine wp_reg ?_;refine wC (wFa (hT.field (k:=4) (by decide)) (by rw[eTm,g3]) ?_);refine wC (wp_load hT33 (by rw[eTm,gQ]) (hm.ro 4 uv rfl) ?_);refine wC (wFa (hT62.field (k:=0) (by decide)) (b:=xb) (i:=0) (by rw[eTm,gR,gR,g7]) ?_);refine wC (wp_load hT59 (by rw[eTm,gQ]) (hxb 0 _ rfl) ?_);refine wC (wFa (hT62.field (k:=1) (by decide)) (b:=xb) (i:=0) (by rw[eTm,gR,gR,gR,gR,g7]) ?_);refine wC (wp_load hT22 (by rw[eTm,gQ]) (hxb 1 _ rfl) ?_);refine wC (wp_build2 hT61 (v:=.int .u32 k) (v':=xv) (by decide) (by decide) (by rw[eTm,gR,gR,gQ]) rfl (by rw[eTm,gQ]) hes.one ?_);refine wC (wp_slice1 hT33s hz61 rfl (by omega) (cs:=[.int .u32 k,xv]) (by rw[eTm,gQ];rfl) rfl fun _=>?_);have hal:=Fr.alloc [] w (.cells [.int .u32 k,xv].toArray T61);have hrn:=range_new w [.int .u32 k,xv].toArray T61 (0,0);generalize hw1:w.alloc (.cells [.int .u32 k,xv].toArray T61)=w1 at hal hrn ⊢;have hs:=hal.size;have hm1:=hm.kept hal (by simp);have hlo1:=hlo.kept hal (by simp) (A':=e.C w1) (GE.C_mono hal.size);obtain ⟨flat,ho1,ho2⟩:=hlo1;have hes1:=hes.kept hal (by simp) (A':=e.A) (fun _ h=>h);have hmul:(u.length+1) * bs≤4294967296 * 1024:=Nat.mul_le_mul (by omega) hbs;rw[wCo];refine wp_append (A:=e.C w1) (z:=zG) hT33s hz61 rfl (by rw[eTm,gR,gR,gR,gR,gR,gR,gQ]) (by rw[eTm,gQ]) ho1 (by omega) (news:=[.int .u32 k,xv]) rfl hrn
    (by intro y hy;simp at hy;rcases hy with rfl | rfl <;> first | rfl | exact hes.one) (by omega) (by simp only[maxLen];omega) ?_
  intro v' w2 hf2 ho' hbk;have hf2s:=hf2.size;have hsp:∀ r ∈ spare uv 2,e.s1≤r.b:=fun r hr=>hbl _ (spare_blk r hr);have hCw':∀ b,e.C w1 b→e.C w2 b∧b < w1.heap.size:=fun b hb=>⟨GE.C_mono hf2s b hb,by
    rcases hb with hb | hb
    · have:=hAw b hb;omega
    · exact hb.2⟩
  have hU:TOwn w2 (e.C w2) v' (u++[(k,x)]):=by
    refine TOwn.app (A':=e.C w2) ho2 ho1 hf2 ?_ hbk hCw' hkk hes1 ?_
    · obtain ⟨ha, hb⟩ := ho';refine ⟨ha, hb.imp (fun h => h) ?_⟩;rintro ⟨g', o', cap', hg', hrest⟩;refine ⟨g', o', cap', ?_, hrest⟩
      rcases hg' with hg' | hg'
      · exact (hCw' _ hg').1
      exact .inr ⟨by have:=hg'.1;omega,hg'.2⟩
    intro b hb;refine ⟨.inl hb,fun hbl'=>?_⟩;have:=(hblw b hbl').1;have:=hm.a0 b hb;omega
  have hV:∀ b,blk v'=some b→e.s1≤b:=by
    intro b hb
    rcases hbk with h | h
    · rw[h] at hb;exact hbl b hb
    rw[h] at hb;simp at hb;omega
  have hm2:=hm1.kept hf2 hsp;refine wC (wFa (hT.field (k:=4) (by decide)) (b:=e.ob) (i:=0) (by rw[eTm,gR,gR,gR,gR,gR,gR,gR,gR,gR,g3]) ?_);refine wC (wp_store hT33 (b:=e.ob) (o:=4) (v:=v') (by rw[eTm,gQ]) (by rw[eTm,gR,gQ]) hU.one (there_part hm2.to (by omega) (by omega)) ?_);rw[wNi,pNo];obtain ⟨h5,h6⟩:=hm2.setU v';refine hk _ _ v' ?_ ⟨spare uv 2,hsp,?_⟩ h5 ⟨hU.kept h6 ?_ (GE.C_mono h6.size),hV⟩
  · exact (((((((((Kept.put0 (by omega) _).put (by omega) _).put (by omega) _).put (by omega) _).put (by omega) _).put (by omega) _).put (by omega) _).put (by omega) _).put (by omega) _).put (by omega) _
  · have f12:Fr (⟨e.ob,0,5⟩::spare uv 2) w w2:=(Fr.nil hal).tr (hf2.mono (fun r hr=>Rng.in_self (List.mem_cons_of_mem _ hr)));refine f12.trans h6 ?_;intro r hr;simp at hr;subst hr;exact Rng.in_self (by simp)
  intro r hr hF;simp at hr;subst hr;have h1:=hm.ob0;have h2:=hm.ob1
  rcases hF with hF | hF
  · have:=hm.a0 _ hF;simp only at *;omega
  have:=hF.1;simp only at *;omega
end Go.Kq

namespace Go.Kq
open Go Go.Proofs
theorem wp_build3 {P:Program} {a:Act} {w:World} {K:Act→World→Prop} {Q:Exit→Act→World→Prop} {d:Option Tmp} {t:TypeId} {p:String} {af:Array Edge} {g:Option (Nat × Bool)} {s:TypeId} {z:List Value} {k1 k2 k3:Nat} {x y u:Operand} {v1 v2 v3:Value}
    (h:Flat P s z) (hk1:k1 < z.length) (hk2:k2 < z.length) (hk3:k3 < z.length) (hx:a.eval x=v1) (h1:v1.oneCell'=true) (hy:a.eval y=v2) (h2:v2.oneCell'=true) (hu:a.eval u=v3) (h3:v3.oneCell'=true)
    (kk:K (a.put d (.agg (((z.set k1 v1).set k2 v2).set k3 v3).toArray)) w):OW P ⟨d,.build s #[(k1,x),(k2,y),(k3,u)],t,p,af,g⟩ a w K Q:=by
  refine wp_val (v:=.agg (((z.set k1 v1).set k2 v2).set k3 v3).toArray) (w':=w) ?_ kk;have:=run_build (w:=w) (ps:=[(k1,v1),(k2,v2),(k3,v3)]) h (by simp;exact ⟨⟨hk1,h1⟩,⟨hk2,h2⟩,hk3,h3⟩);simp only[execOp,List.map_toArray,List.map_cons,List.map_nil,hx,hy,hu,Sem.run_bind,this,Result.andThen_ok,Sem.run_pure,laid]
theorem TagsR.key {w:World} {A:Nat→Prop} {v:Value} {u:List (Nat × List UInt8)} (h:TagsR w A v u) {j:Nat} (hj:j < u.length):(u[j]).1 < 4294967296:=by
  rcases h with ⟨_,rfl⟩ | ⟨b,o,cap,_,rfl,_,h1⟩
  · simp at hj
  obtain ⟨xv,h2,_⟩:=h1 j (u[j]).1 (u[j]).2 (by simp[hj]);exact h2
theorem got_loopU {P:Program} {T3 T22 T25 T27 T33 T35 T59 T61 T62 bs bs2:TypeId} {i7 i8 i9 i10 i11:Nat}
    {t30 t31 t32 t33 t34 t35 t36 t37 t38 t39 t40 t41 t42 t43 t44 t45 t46 t47 t48 t49 t50 t51:TypeId} {p30 p31 p32 p33 p34 p35 p36 p37 p38 p39 p40 p41 p42 p43 p44 p45 p46 p47 p48 p49 p50 p51:String} {e30 e31 e32 e33 e34 e35 e36 e37 e38 e39 e40 e41 e42 e43 e44 e45 e46 e47 e48 e49 e50 e51:Array Edge}
    (hT:Flat P T35 zT) (hT27:Flat P T27 zT) (hT61:Flat P T61 zG) (hT62:Flat P T62 zG) (hz61:zeroIs P T61 zG) (hT22:scal P T22=true) (hT25:scal P T25=true) (hT25s:sliceOf P T25 T62 2 bs2=true) (hT59:scal P T59=true) (hT33:scal P T33=true) (hT33s:sliceOf P T33 T61 2 bs=true) (hbs:bs≤1024)
    {a:Act} {w:World} {K:Act→World→Prop} {Q:Exit→Act→World→Prop} {e:GE} {n n1:Int} {sv s1:Value} {nl nl1:Bool} {l1 u1 lv:Value} {l:List (Nat × List UInt8)}
    (hsz:a.tmps.size=49) (g1:get a 1 = .pointer (some ⟨e.b1,0,none⟩)) (g3:get a 3 = .pointer (some ⟨e.ob,0,none⟩)) (hm:GM w e [.int .i64 n1,s1,.bool nl1,l1,u1] n sv nl lv (.slice none 0 0)) (ht:TagsR w e.A u1 l)
    (hk:∀ a' w' uv',Kept 4 a a'→(∃ r:List Rng,(∀ x ∈ r,e.s1≤x.b)∧Fr (⟨e.ob,0,5⟩::r) w w')→GM w' e [.int .i64 n1,s1,.bool nl1,l1,u1] n sv nl lv uv'→GU w' e uv' l→K a' w') :
    (Code.seq (Code.region i7 ⟨[oF 30 T27 1 4 t30 p30 e30,
    oL 31 T25 30 t31 p31 e31,⟨some 32,.call ⟨.builtin .len,#[(.tmp 31)],#[T25]⟩,t32,p32,e32,none⟩,⟨some 33,.move (.const (.int .i64 0)),t33,p33,e33,none⟩]⟩ false) (.block 2 (.loop (.seq (Code.region i8 ⟨[⟨some 34,.binOp .lss T3 (.tmp 33) (.tmp 32) T3,t34,p34,e34,none⟩]⟩ false) (.seq (.cond (.tmp 34) .skip
  (.exit 2)) (.seq (.block 3 (.seq (Code.region i9 ⟨[⟨some 35,.indexAddr T25 (.tmp 31) (.tmp 33),t35,p35,e35,none⟩,
    oL 36 T62 35 t36 p36 e36,⟨some 7,.alloc T62,t37,p37,e37,none⟩,
    oS T62 7 36 t38 p38 e38]⟩ false)
  (Code.region i10 ⟨[oF 37 T35 3 4 t39 p39 e39,
    oL 38 T33 37 t40 p40 e40,
    oF 39 T62 7 0 t41 p41 e41,
    oL 40 T59 39 t42 p42 e42,
    oF 41 T62 7 1 t43 p43 e43,
    oL 42 T22 41 t44 p44 e44,⟨some 43,.build T61 #[(0,.tmp 40),(1,.tmp 42)],t45,p45,e45,none⟩,⟨some 44,.buildSlice T33 1 #[(0,.tmp 43)],t46,p46,e46,none⟩,⟨some 45,.call ⟨.builtin .append,#[(.tmp 38),(.tmp 44)],#[T33,T33]⟩,t47,p47,e47,none⟩,
    oF 46 T35 3 4 t48 p48 e48,
    oS T33 46 45 t49 p49 e49]⟩ false)))
  (Code.region i11 ⟨[⟨some 47,.binOp .add T3 (.tmp 33) (.const (.int .i64 1)) T3,t50,p50,e50,none⟩,
    oM 33 47 t51 p51 e51]⟩ false))))))).wp P (Exit.then K Q) a w:=by
  have hbig:=ht.big;obtain ⟨qu1,cu1,hu1⟩:=ht.slice;refine wS fun K5 hK5=>?_;refine wC (wFa (hT27.field (k:=4) (by decide)) (by rw[eTm,g1]) ?_);refine wC (wp_load hT25 (by rw[eTm,gQ]) (hm.r1 4 u1 rfl) ?_);refine wC (wp_len hT25s (by rw[eTm,gQ,hu1]) ?_);rw[wCo,wMw,eCo,wNi];generalize ha3:(((a.put (some 30) (.pointer (some ⟨e.b1,0+4,none⟩))).put (some 31) u1).put (some 32) (.int .i64 l.length)).put (some 33) (.int .i64 0)=a3;have k3:Kept 4 a a3:=by subst ha3;exact (((Kept.put0 (by omega) _).put (by omega) _).put (by omega) _).put (by omega) _
  have g31:get a3 31=u1:=by subst ha3;rw[gR,gR,gQ]
  have g32:get a3 32 = .int .i64 l.length:=by subst ha3;rw[gR,gQ]
  have g33:get a3 33 = .int .i64 0:=by subst ha3;rw[gQ]
  refine hK5 a3 w ?_;refine wp_block (wp_loop (fun a' w'=>∃ (j:Nat) (uv:Value),j≤l.length∧Kept 4 a a'∧get a' 31=u1∧get a' 32 = .int .i64 l.length∧get a' 33 = .int .i64 j∧GM w' e [.int .i64 n1,s1,.bool nl1,l1,u1] n sv nl lv uv∧GU w' e uv (l.take j) ∧
    ∃ r:List Rng,(∀ x ∈ r,e.s1≤x.b)∧Fr (⟨e.ob,0,5⟩::r) w w') (fun a' _=>l.length - idxOf (get a' 33)) ?_ ?_)
  · exact ⟨0,_,Nat.zero_le _,k3,g31,g32,g33,hm,⟨by simpa using TOwn.nil,by simp[blk]⟩,[],by simp,Fr.refl _ _⟩
  rintro a4 w4 ⟨j,uv,hj,k4,ga,gl,gi,hm4,hl4,r,hr,f4⟩;have hz4:=k4.size;refine wS fun K6 hK6=>?_;refine wC (wp_lss (k1:=.i64) (i:=j) (j:=l.length) (by rw[eTm,gi]) (by rw[eTm,gl]) ?_);rw[wNi];generalize ha5:a4.put (some 34) (.bool (decide ((j:Int) < l.length)))=a5;have k5:Kept 34 a4 a5:=by subst ha5;exact Kept.put0 (Nat.le_refl _) _
  have g34:get a5 34 = .bool (decide ((j:Int) < l.length)):=by subst ha5;exact gQ
  have hz5:=k5.size;refine hK6 a5 w4 ?_;refine wp_seq_k fun K7 hK7=>?_;refine wp_cond_split (t:=decide ((j:Int) < l.length)) (by rw[eTm,g34]) ?_ ?_
  · intro hlt;have hjl : j < l.length := by simpa using hlt
    refine wp_skip (hK7 a5 w4 ?_);refine wp_seq_k fun K8 hK8=>?_;refine wp_block (wp_mono (show Code.wp P _ (Exit.then K8 (Exit.inBlock 3 (Exit.then K8 _))) a5 w4 from ?_) (fun _ _ _=>inBlock_then));refine wp_seq_k fun K9 hK9=>?_;have ht4:=ht.kept f4 (GE.notA hm hr) (fun _ h=>h);obtain ⟨bb,oo,cc,xv,hv,hres,htr⟩:=ht4.at hjl;have hkk:(l[j]).1 < 4294967296:=ht4.key hjl;refine r_boxed (m:=4) (z:=zG) (et:=T62) (bs:=bs2) (b:=bb) (o:=oo) (len:=l.length) (cap:=cc) (j:=j) (es:=[.int .u32 (l[j]).1,xv]) hT62 hT25s (by rw[k5.get 31 (by omega),ga,hv]) (by rw[k5.get 33 (by omega),gi]) hjl hres rfl (by intro y hy;simp at hy;rcases hy with rfl | rfl <;> first | rfl | exact htr.one) ⟨rfl,by omega,by omega,by omega,by omega,by omega⟩ fun a6 w6 k6 hkeep g5 f6 hlt6 hxr=>hK9 a6 w6 ?_;have hz6:=k6.size;have hm6:=hm4.kept f6 (by simp);have hlen:(l.take j).length=j:=by simp;omega
    have hblt:∀ b,blk uv=some b→b < w4.heap.size:=fun b hb=>by
      rcases hl4.1.blk_in hb with h | h
      · have:=hm4.a0 b h;have:=hm4.ob0;have:=hm4.ob1;have:=hm4.top;omega
      exact h.2
    refine got_tag (xb:=w4.heap.size) (xv:=xv) (k:=(l[j]).1) (x:=(l[j]).2) hT hT61 hT62 hz61 hT22 hT59 hT33 hT33s hbs (by omega) (by rw[hkeep 3 (by omega) (by omega),k5.get 3 (by omega),k4.get 3 (by omega),g3]) g5 hm6 ⟨hl4.1.kept f6 (by simp) (GE.C_mono f6.size),hl4.2⟩ (by omega) hxr
      (htr.kept f6 (by simp) (fun _ h=>h)) hkk ?_
    rintro a7 w7 uv' k7 ⟨r',hr',f7⟩ hm7 hl7;refine hK8 a7 w7 ?_;have hz7:=k7.size;have g33':get a7 33 = .int .i64 j:=by rw[k7.get 33 (by omega),hkeep 33 (by omega) (by omega),k5.get 33 (by omega),gi]
    refine wp_reg ?_;refine wC (wp_add (k1:=.i64) (i:=j) (j:=1) (by rw[eTm,g33']) rfl ?_);rw[wCo,wMw,eTm,gQ,wNi];have hwr:IntKind.i64.wrap ((j:Int)+1)=((j+1:Nat):Int):=by
      simp[IntKind.wrap,IntKind.bits,IntKind.signed];omega
    rw[hwr];refine ⟨⟨j+1,uv',hjl,?_,?_,?_,?_,hm7,?_,r++r',?_,?_⟩,?_⟩
    · exact (((k4.trans (k5.mono (by omega))).trans k6).trans (k7.mono (by omega))).trans ((Kept.put0 (by omega) _).put (by omega) _)
    · rw[gR,gR,k7.get 31 (by omega),hkeep 31 (by omega) (by omega),k5.get 31 (by omega),ga]
    · rw[gR,gR,k7.get 32 (by omega),hkeep 32 (by omega) (by omega),k5.get 32 (by omega),gl]
    · rw[gQ]
    · rw[List.take_succ_eq_append_getElem hjl];exact hl7
    · intro x hx
      rcases List.mem_append.1 hx with h | h
      · exact hr x h
      exact hr' x h
    · have f46:Fr (⟨e.ob,0,5⟩::(r++r')) w w6:=(f4.mono (l':=⟨e.ob,0,5⟩::(r++r')) (fun x hx=>by
        rcases List.mem_cons.1 hx with rfl | h
        · exact Rng.in_self (by simp)
        · exact Rng.in_self (List.mem_cons_of_mem _ (List.mem_append_left _ h)))).tr (Fr.nil f6)
      refine f46.trans f7 fun x hx=>?_
      rcases List.mem_cons.1 hx with rfl | h
      · exact Rng.in_self (by simp)
      exact Rng.in_self (List.mem_cons_of_mem _ (List.mem_append_right _ h))
    rw[gQ,gi];simp[idxOf];omega
  intro hge;have hjl:j=l.length:=by
    have:¬ ((j:Int) < l.length):=by simpa using hge
    omega
  subst hjl;rw[List.take_length] at hl4;refine wp_exit ?_;show K a5 w4
  exact hk a5 w4 uv (k4.trans (k5.mono (by omega))) ⟨r,hr,f4⟩ hm4 hl4
theorem got_m {P:Program} {fn:Func} {bs bs2 bs3 bs4:TypeId}
    {T2 T3 T4 T22 T24 T25 T27 T32 T33 T35 T59 T61 T62:TypeId}
    {f11:FuncId}
    {a0:Array TypeId}
    {i0 i1 i2 i3 i4 i5 i6 i7 i8 i9 i10 i11 i12:Nat}
    {t0 t1 t2 t3 t4 t5 t6 t7 t8 t9 t10 t11 t12 t13 t14 t15 t16 t17 t18 t19 t20 t21 t22 t23 t24 t25 t26 t27 t28 t29 t30 t31 t32 t33 t34 t35 t36 t37 t38 t39 t40 t41 t42 t43 t44 t45 t46 t47 t48 t49 t50 t51 t52 t53:TypeId} {p0 p1 p2 p3 p4 p5 p6 p7 p8 p9 p10 p11 p12 p13 p14 p15 p16 p17 p18 p19 p20 p21 p22 p23 p24 p25 p26 p27 p28 p29 p30 p31 p32 p33 p34 p35 p36 p37 p38 p39 p40 p41 p42 p43 p44 p45 p46 p47 p48 p49 p50 p51 p52 p53:String} {e0 e1 e2 e3 e4 e5 e6 e7 e8 e9 e10 e11 e12 e13 e14 e15 e16 e17 e18 e19 e20 e21 e22 e23 e24 e25 e26 e27 e28 e29 e30 e31 e32 e33 e34 e35 e36 e37 e38 e39 e40 e41 e42 e43 e44 e45 e46 e47 e48 e49 e50 e51 e52 e53:Array Edge}
    (hf:P.funcs[f11]?=some fn) (hname:(fn.name == "runtime.NumGoroutine")=false) (hres:fn.results = #[.cell 2 T35]) (hN:fn.ntmps=49) (hbody:fn.body=some (.seq (Code.region i0 ⟨[⟨some 1,.box T27 (.tmp 0),t0,p0,e0,none⟩,⟨some 2,.alloc T35,t1,p1,e1,none⟩]⟩ false) (.seq (Code.region i1 ⟨[oF 8 T27 1 0 t2 p2 e2,
    oL 9 T2 8 t3 p3 e3,
    oF 10 T27 1 1 t4 p4 e4,
    oL 11 T22 10 t5 p5 e5,
    oF 12 T27 1 2 t6 p6 e6,
    oL 13 T4 12 t7 p7 e7,⟨some 14,.build T35 #[(0,.tmp 9),(1,.tmp 11),(2,.tmp 13)],t8,p8,e8,none⟩,⟨some 3,.alloc T35,t9,p9,e9,none⟩,
    oS T35 3 14 t10 p10 e10]⟩ false) (.seq (.seq (Code.region i2 ⟨[oF 15 T27 1 3 t11 p11 e11,
    oL 16 T24 15 t12 p12 e12,⟨some 17,.call ⟨.builtin .len,#[(.tmp 16)],#[T24]⟩,t13,p13,e13,none⟩,⟨some 18,.move (.const (.int .i64 0)),t14,p14,e14,none⟩]⟩ false) (.block 0 (.loop (.seq (Code.region i3 ⟨[⟨some 19,.binOp .lss T3 (.tmp 18) (.tmp 17) T3,t15,p15,e15,none⟩]⟩ false) (.seq (.cond (.tmp 19) .skip
  (.exit 0)) (.seq (.block 1 (.seq (Code.region i4 ⟨[⟨some 20,.indexAddr T24 (.tmp 16) (.tmp 18),t16,p16,e16,none⟩,
    oL 21 T27 20 t17 p17 e17,⟨some 5,.alloc T27,t18,p18,e18,none⟩,
    oS T27 5 21 t19 p19 e19]⟩ false)
  (Code.region i5 ⟨[oF 22 T35 3 3 t20 p20 e20,
    oL 23 T32 22 t21 p21 e21,
    oL 24 T27 5 t22 p22 e22,
    oC 25 f11 #[(.tmp 24)] a0 t23 p23 e23,⟨some 26,.buildSlice T32 1 #[(0,.tmp 25)],t24,p24,e24,none⟩,⟨some 27,.call ⟨.builtin .append,#[(.tmp 23),(.tmp 26)],#[T32,T32]⟩,t25,p25,e25,none⟩,
    oF 28 T35 3 3 t26 p26 e26,
    oS T32 28 27 t27 p27 e27]⟩ true)))
  (Code.region i6 ⟨[⟨some 29,.binOp .add T3 (.tmp 18) (.const (.int .i64 1)) T3,t28,p28,e28,none⟩,
    oM 18 29 t29 p29 e29]⟩ false))))))) (.seq (.seq (Code.region i7 ⟨[oF 30 T27 1 4 t30 p30 e30,
    oL 31 T25 30 t31 p31 e31,⟨some 32,.call ⟨.builtin .len,#[(.tmp 31)],#[T25]⟩,t32,p32,e32,none⟩,⟨some 33,.move (.const (.int .i64 0)),t33,p33,e33,none⟩]⟩ false) (.block 2 (.loop (.seq (Code.region i8 ⟨[⟨some 34,.binOp .lss T3 (.tmp 33) (.tmp 32) T3,t34,p34,e34,none⟩]⟩ false) (.seq (.cond (.tmp 34) .skip
  (.exit 2)) (.seq (.block 3 (.seq (Code.region i9 ⟨[⟨some 35,.indexAddr T25 (.tmp 31) (.tmp 33),t35,p35,e35,none⟩,
    oL 36 T62 35 t36 p36 e36,⟨some 7,.alloc T62,t37,p37,e37,none⟩,
    oS T62 7 36 t38 p38 e38]⟩ false)
  (Code.region i10 ⟨[oF 37 T35 3 4 t39 p39 e39,
    oL 38 T33 37 t40 p40 e40,
    oF 39 T62 7 0 t41 p41 e41,
    oL 40 T59 39 t42 p42 e42,
    oF 41 T62 7 1 t43 p43 e43,
    oL 42 T22 41 t44 p44 e44,⟨some 43,.build T61 #[(0,.tmp 40),(1,.tmp 42)],t45,p45,e45,none⟩,⟨some 44,.buildSlice T33 1 #[(0,.tmp 43)],t46,p46,e46,none⟩,⟨some 45,.call ⟨.builtin .append,#[(.tmp 38),(.tmp 44)],#[T33,T33]⟩,t47,p47,e47,none⟩,
    oF 46 T35 3 4 t48 p48 e48,
    oS T33 46 45 t49 p49 e49]⟩ false)))
  (Code.region i11 ⟨[⟨some 47,.binOp .add T3 (.tmp 33) (.const (.int .i64 1)) T3,t50,p50,e50,none⟩,
    oM 33 47 t51 p51 e51]⟩ false))))))) (.seq (Code.region i12 ⟨[oL 48 T35 3 t52 p52 e52,
    oS T35 2 48 t53 p53 e53]⟩ false) .ret))))))
    (hT:Flat P T35 zT) (hT27:Flat P T27 zT) (hz0:zeroIs P T35 zT) (hT61:Flat P T61 zG) (hT62:Flat P T62 zG) (hz61:zeroIs P T61 zG) (hT2:scal P T2=true) (hT4:scal P T4=true) (hT22:scal P T22=true) (hT59:scal P T59=true) (hT24:scal P T24=true) (hT25:scal P T25=true) (hT32:scal P T32=true) (hT33:scal P T33=true)
    (hT24s:sliceOf P T24 T27 5 bs2=true) (hT32s:sliceOf P T32 T35 5 bs=true) (hT25s:sliceOf P T25 T62 2 bs4=true) (hT33s:sliceOf P T33 T61 2 bs3=true) (hbs:bs≤1024) (hbs3:bs3≤1024) (hmx:P.follows .mixedOrders=true)
    (he:edgeOk 0 [e20,e21,e22,e23,e24,e25,e26,e27] [[],[0],[],[2],[3],[1,4],[],[0,1,2,3,4,5,6]]=true):∀ t,GotCall P f11 t:=by
  intro t
  induction t using T.ind with
  | h n s nl l u ih =>
  intro w A c hr hA;obtain ⟨s1,l1,u1,rfl,hn,ho,ht,hv⟩:=repT_iff.1 hr;have henter:Enters P f11:=enters_of hf hname hbody;refine calls_of_wp hf hbody ?_;generalize ha0:({ tmps:=#[Value.agg [.int .i64 n,s1,.bool nl,l1,u1].toArray]++Array.replicate (fn.ntmps - #[Value.agg [.int .i64 n,s1,.bool nl,l1,u1].toArray].size) undef,defers:=[] }:Act)=a0;have hsz:a0.tmps.size=49:=by subst ha0;simp[hN]
  have hd0:a0.defers=[]:=by subst ha0;rfl
  have g0:get a0 0 = .agg [.int .i64 n,s1,.bool nl,l1,u1].toArray:=by subst ha0;exact gAr rfl
  refine wT fun K1 hK1=>?_;refine wC (wp_box (by rw[eTm,g0]) ?_);refine wC (wp_alloc hT.zero ?_);rw[wNi];have f1:=Fr.alloc [] w (.cells (Value.agg [.int .i64 n,s1,.bool nl,l1,u1].toArray).cells T27);have rg1:=range_new w [.int .i64 n,s1,.bool nl,l1,u1].toArray T27 (0,0);have rg1:(w.alloc (.cells (Value.agg [.int .i64 n,s1,.bool nl,l1,u1].toArray).cells T27)).rangeAt w.heap.size 0 [.int .i64 n,s1,.bool nl,l1,u1]:=rg1;have sz1:=size_alloc w (.cells (Value.agg [.int .i64 n,s1,.bool nl,l1,u1].toArray).cells T27);generalize w.alloc (.cells (Value.agg [.int .i64 n,s1,.bool nl,l1,u1].toArray).cells T27)=w1 at f1 rg1 sz1 ⊢;have f2:=Fr.alloc [] w1 (.cells (Value.agg zT.toArray).cells T35);have th2:=there_new w1 zT.toArray T35;have th2:(w1.alloc (.cells (Value.agg zT.toArray).cells T35)).there w1.heap.size 0 5:=th2;have sz2:=size_alloc w1 (.cells (Value.agg zT.toArray).cells T35);generalize w1.alloc (.cells (Value.agg zT.toArray).cells T35)=w2 at f2 th2 sz2 ⊢;generalize ha1:(a0.put (some 1) (.pointer (some ⟨w.heap.size,0,none⟩))).put (some 2) (.pointer (some ⟨w1.heap.size,0,none⟩))=a1;have k1:Kept 1 a0 a1:=by subst ha1;exact (Kept.put0 (by omega) _).put (by omega) _
  have g1:get a1 1 = .pointer (some ⟨w.heap.size,0,none⟩):=by subst ha1;rw[gR,gQ]
  have g2:get a1 2 = .pointer (some ⟨w1.heap.size,0,none⟩):=by subst ha1;rw[gQ]
  have hz1:=k1.size;have rg12:=f2.range rg1 .nil;refine hK1 a1 w2 (tUp ?_);refine wT fun K2 hK2=>?_;refine wC (wFa (hT27.field (k:=0) (by decide)) (by rw[eTm,g1]) ?_);refine wC (wp_load hT2 (by rw[eTm,gQ]) (rg12 0 _ rfl) ?_);refine wC (wFa (hT27.field (k:=1) (by decide)) (b:=w.heap.size) (i:=0) (by rw[eTm,gR,gR,g1]) ?_);refine wC (wp_load hT22 (by rw[eTm,gQ]) (rg12 1 _ rfl) ?_);refine wC (wFa (hT27.field (k:=2) (by decide)) (b:=w.heap.size) (i:=0) (by rw[eTm,gR,gR,gR,gR,g1]) ?_);refine wC (wp_load hT4 (by rw[eTm,gQ]) (rg12 2 _ rfl) ?_);rw[wCo];refine wp_build3 hT (v1:=.int .i64 n) (v2:=s1) (v3:=.bool nl) (by decide) (by decide) (by decide) (by rw[eTm,gR,gR,gR,gR,gQ]) rfl
    (by rw[eTm,gR,gR,gQ]) ho.one (by rw[eTm,gQ]) rfl ?_
  refine wC (wp_alloc hT.zero ?_);have f3:=Fr.alloc [] w2 (.cells (Value.agg zT.toArray).cells T35);have th3:=there_new w2 zT.toArray T35;have th3:(w2.alloc (.cells (Value.agg zT.toArray).cells T35)).there w2.heap.size 0 5:=th3;have sz3:=size_alloc w2 (.cells (Value.agg zT.toArray).cells T35);generalize w2.alloc (.cells (Value.agg zT.toArray).cells T35)=w3 at f3 th3 sz3 ⊢;rw[wCo];refine wp_storeFlat hT (cs:=[.int .i64 n,s1,.bool nl,.slice none 0 0,.slice none 0 0]) (b:=w2.heap.size) (o:=0) rfl (by rw[eTm,gQ]) (by rw[eTm,gR,gQ];rfl)
    (by intro y hy;simp at hy;rcases hy with rfl | rfl | rfl | rfl | rfl <;> first | rfl | exact ho.one) th3 ?_
  rw[wNi,pNo];have f4:=Fr.sets w2.heap.size [.int .i64 n,s1,.bool nl,.slice none 0 0,.slice none 0 0] w3 0;have rg4:=World.rangeAt_setCells_same (w:=w3) w2.heap.size 0 [.int .i64 n,s1,.bool nl,.slice none 0 0,.slice none 0 0] th3;generalize w3.setCells w2.heap.size 0 [.int .i64 n,s1,.bool nl,.slice none 0 0,.slice none 0 0]=w4 at f4 rg4 ⊢;have k4:∀ v8 v9 v10 v11 v12 v13 v14 v3,Kept 3 a1 ((((((((a1.put (some 8) v8).put (some 9) v9).put (some 10) v10).put (some 11) v11).put (some 12) v12).put (some 13) v13).put (some 14) v14).put (some 3) v3):=fun _ _ _ _ _ _ _ _ =>
    (((((((Kept.put0 (by omega) _).put (by omega) _).put (by omega) _).put (by omega) _).put (by omega) _).put (by omega) _).put (by omega) _).put (by omega) _
  have f24:Fr [] w2 w4:=f3.trans f4 (by intro r hr;simp at hr;subst hr;exact .inl (Nat.le_refl _));have f04:Fr [] w w4:=(f1.tr f2).tr f24;have sz4:=f4.size;have hm4:GM w4 ⟨w.heap.size,w1.heap.size,w2.heap.size,w.heap.size,w3.heap.size,A⟩ [.int .i64 n,s1,.bool nl,l1,u1] n s1 nl (.slice none 0 0) (.slice none 0 0) :=
    ⟨f24.range rg12 .nil,rg4,f4.there th3,f24.there th2,hA,by simp only;omega,by simp only;omega,by simp only;omega,by simp only;omega,by simp only;omega,by simp only;omega,by simp only;omega,by simp only;omega,by simp only;omega⟩
  refine hK2 _ w4 (tUp ?_);refine tId (wp_seq_k fun K3 hK3=>?_);refine got_loopL (e:=⟨w.heap.size,w1.heap.size,w2.heap.size,w.heap.size,w3.heap.size,A⟩) hT hT27 hz0 hT24 hT24s hT32 hT32s hbs hmx henter he (by rw[(k4 _ _ _ _ _ _ _ _).size,hz1,hsz]) (by rw[(k4 _ _ _ _ _ _ _ _).get 1 (by omega),g1]) (gQ) hm4 (ht.kept f04 (by simp) (fun _ h=>h)) ih
    fun a5 w5 lv k5 ⟨r5,hr5,f5⟩ hm5 hl5=>hK3 a5 w5 (tUp ?_)
  have hz5:=k5.size;have g15:=(k5.get 1 (by omega)).trans (((k4 _ _ _ _ _ _ _ _).get 1 (by omega)).trans g1);have g25:=(k5.get 2 (by omega)).trans (((k4 _ _ _ _ _ _ _ _).get 2 (by omega)).trans g2);have g35:=(k5.get 3 (by omega)).trans (gQ);have hsz5:a5.tmps.size=49:=by rw[hz5,(k4 _ _ _ _ _ _ _ _).size,hz1,hsz]
  have hd5:a5.defers=[]:=by rw[k5.defers,(k4 _ _ _ _ _ _ _ _).defers,k1.defers,hd0]
  refine tId (wp_seq_k fun K4 hK4=>?_);have f05:Fr [] w w5:=f04.trans f5 (by
    intro r hr
    rcases List.mem_cons.1 hr with rfl | h
    · left;simp only;omega
    · left;have:=hr5 r h;simp only at this;omega)
  have hs5:=f5.size;have hm5':GM w5 ⟨w.heap.size,w1.heap.size,w2.heap.size,w.heap.size,w5.heap.size,A⟩ [.int .i64 n,s1,.bool nl,l1,u1] n s1 nl lv (.slice none 0 0) :=
    ⟨hm5.r1,hm5.ro,hm5.to,hm5.tr,hA,by simp only;omega,by simp only;omega,by simp only;omega,by simp only;omega,by simp only;omega,by simp only;omega,by simp only;omega,by simp only;omega,Nat.le_refl _⟩
  refine got_loopU (e:=⟨w.heap.size,w1.heap.size,w2.heap.size,w.heap.size,w5.heap.size,A⟩) hT hT27 hT61 hT62 hz61 hT22 hT25 hT25s hT59 hT33 hT33s hbs3 hsz5 g15 g35 hm5' ((hv.kept f04 (by simp) (fun _ h=>h)).kept f5 (GE.notA hm4 hr5) (fun _ h=>h))
    fun a6 w6 uv k6 ⟨r6,hr6,f6⟩ hm6 hu6=>hK4 a6 w6 (tUp ?_)
  have hz6:=k6.size;have g26:=(k6.get 2 (by omega)).trans g25;have g36:=(k6.get 3 (by omega)).trans g35;refine wT fun K5 hK5=>?_;refine wC (wp_loadFlat hT (cs:=[.int .i64 n,s1,.bool nl,lv,uv]) rfl (by rw[eTm,g36]) hm6.ro ?_);rw[wCo];have hones:∀ y ∈ [(.int .i64 n:Value),s1,.bool nl,lv,uv],y.oneCell'=true:=by
    intro y hy;simp at hy;rcases hy with rfl | rfl | rfl | rfl | rfl <;> first | rfl | exact ho.one | exact hl5.1.one | exact hu6.1.one
  refine wp_storeFlat hT (cs:=[.int .i64 n,s1,.bool nl,lv,uv]) (b:=w1.heap.size) (o:=0) rfl (by rw[eTm,gR,g26]) (by rw[eTm,gQ]) hones hm6.tr ?_;rw[wNi,pNo];have f7:=Fr.sets w1.heap.size [.int .i64 n,s1,.bool nl,lv,uv] w6 0;have rg7:=World.rangeAt_setCells_same (w:=w6) w1.heap.size 0 [.int .i64 n,s1,.bool nl,lv,uv] hm6.tr;generalize w6.setCells w1.heap.size 0 [.int .i64 n,s1,.bool nl,lv,uv]=w7 at f7 rg7 ⊢;refine hK5 _ w7 (wp_ret ?_);refine ⟨by rw[dPu,k6.defers,hd5],_,results_cell (cs:=[.int .i64 n,s1,.bool nl,lv,uv]) hres hT rfl (by rw[gR,g26]) rg7,[.int .i64 n,s1,.bool nl,lv,uv],rfl,?_,?_⟩
  · refine (f05.trans f6 ?_).trans f7 ?_
    · intro r hr
      rcases List.mem_cons.1 hr with rfl | h
      · left;simp only;omega
      left;have:=hr6 r h;simp only at this;omega
    intro r hr;simp at hr;subst hr;left;simp only;omega
  have hs6:=f6.size;have hs7:=f7.size;have f06:Fr [] w w6:=f05.trans f6 (by
    intro r hr
    rcases List.mem_cons.1 hr with rfl | h
    · left;simp only;omega
    · left;have:=hr6 r h;simp only at this;omega)
  have n7:∀ (B:Nat→Prop),(∀ b,B b→b < w.heap.size∨w3.heap.size≤b)→∀ r ∈ [(⟨w1.heap.size,0,0+[(.int .i64 n:Value),s1,.bool nl,lv,uv].length⟩:Rng)],¬ B r.b:=by
    intro B hB r hr hb;simp at hr;subst hr;have:=hB _ hb;simp only at this;omega
  rw[repT_iff];refine ⟨s1,lv,uv,rfl,hn,?_,?_,?_⟩
  · exact (ho.kept f06 (by simp) (fun _ h=>h)).kept f7 (n7 A (fun b hb=>.inl (hA b hb))) (fun b hb=>.inl hb)
  · have h5:=LOwn.things ht.big hl5.1;have h6:=h5.kept f6 (A':=fun b=>A b∨From w3.heap.size w6 b) (by
      intro r hr hF
      rcases List.mem_cons.1 hr with rfl | h
      · rcases hF with hF | hF
        · have:=hA _ hF;simp only at this;omega
        · have:=hF.1;simp only at this;omega
      · have h8 := hr6 r h
        rcases hF with hF | hF
        · have:=hA _ hF;simp only at this h8;omega
        · have:=hF.2;simp only at this h8;omega) (fun b hb=>hb.imp (fun h=>h) (From.mono hs6 b))
    exact h6.kept f7 (n7 (fun b=>A b∨From w3.heap.size w6 b) (fun b hb=>hb.imp (hA b) (fun h=>h.1))) (fun b hb=>hb.imp (fun h=>h) (fun h=>⟨by have:=h.1;omega,by have:=h.2;omega⟩))
  have h6:=TOwn.tags hv.big hu6.1;exact h6.kept f7 (n7 (GE.C ⟨w.heap.size,w1.heap.size,w2.heap.size,w.heap.size,w5.heap.size,A⟩ w6) (fun b hb=>hb.imp (hA b) (fun h=>by have:=h.1;simp only at this;omega))) (fun b hb=>hb.imp (fun h=>h) (fun h=>⟨by have:=h.1;simp only at this;omega,by have:=h.2;omega⟩))
end Go.Kq

namespace Go.Kq
open Go
mutual
/-- The cells of a type at nought. -/
def Ty.zc:Ty→List Value
  | .int k=>[.int k 0]
  | .bool=>[.bool false]
  | .f64=>[.float .f64 0]
  | .str=>[.string ⟨#[]⟩]
  | .pstr=>[.pointer none]
  | .bytes=>[.slice none 0 0]
  | .uuid=>octets (List.replicate 16 0)
  | .tags=>[.map none]
  | .arr _=>[.slice none 0 0]
  | .st fs=>Ty.zcs fs
  | .ptr _=>[.pointer none]
def Ty.zcs:List Ty→List Value
  | []=>[]
  | t::ts=>t.zc++Ty.zcs ts
end
mutual
/-- What it says. -/
def Ty.zv:Ty→V
  | .int _=>.n 0
  | .bool=>.n 0
  | .f64=>.n 0
  | .str=>.s []
  | .pstr=>.nil
  | .bytes=>.nil
  | .uuid=>.s (List.replicate 16 0)
  | .tags=>.nil
  | .arr _=>.nil
  | .st fs=>.l (Ty.zvs fs)
  | .ptr _=>.nil
def Ty.zvs:List Ty→List V
  | []=>[]
  | t::ts=>t.zv::Ty.zvs ts
end
mutual
theorem rep_zero {w:World} {A:Nat→Prop}:∀ (t:Ty),Rep w A t t.zc t.zv
  | .int k=>⟨0,rfl,rfl,by cases k <;> simp[IntKind.min,IntKind.signed,IntKind.bits],by cases k <;> simp[IntKind.max,IntKind.signed,IntKind.bits]⟩
  | .bool=>⟨false,rfl,rfl⟩
  | .f64=>⟨0,rfl,rfl,by omega⟩
  | .str=>⟨⟨#[]⟩,rfl,rfl,by simp⟩
  | .pstr=>.inl ⟨rfl,rfl⟩
  | .bytes=>⟨.slice none 0 0,none,rfl,.inl ⟨rfl,rfl⟩,rfl⟩
  | .uuid=>⟨List.replicate 16 0,by simp,rfl,rfl⟩
  | .tags=>.inl ⟨rfl,rfl⟩
  | .arr _=>.inl ⟨rfl,rfl⟩
  | .st fs=>⟨Ty.zvs fs,rfl,reps_zero fs⟩
  | .ptr _=>.inl ⟨rfl,rfl⟩
theorem reps_zero {w:World} {A:Nat→Prop}:∀ (ts:List Ty),Reps w A ts (Ty.zcs ts) (Ty.zvs ts)
  | []=>⟨rfl,rfl⟩
  | t::ts=>⟨t.zc,Ty.zcs ts,t.zv,Ty.zvs ts,rfl,rfl,rep_zero t,reps_zero ts⟩
end
end Go.Kq

namespace Go.Kq
open Go Go.Proofs
structure NewM (P:Program) (f:FuncId) (tys:List Ty) (ds:List V):Prop where
  enters:Enters P f
  call:∀ w,Calls P f #[] w fun e w'=>∃ pb z,e = .returned (.pointer (some ⟨pb,0,none⟩))∧w.heap.size≤pb∧pb < w'.heap.size∧Fr [] w w'∧w'.rangeAt pb 0 z∧Reps w' NoFoot tys z ds∧w'.there pb 0 (Ty.sizes tys)
theorem new_m {P:Program} {f fd:FuncId} {fn:Func} {TM:TypeId} {tys:List Ty} {d:List V→List V} {i0 i1 i2 i3:Nat} {ats:Array TypeId} {x0:Value}
    {t0 t1 t2 t3:TypeId} {p0 p1 p2 p3:String} {e0 e1 e2 e3:Array Edge} (hf:P.funcs[f]?=some fn) (hname:(fn.name == "runtime.NumGoroutine")=false) (hres:fn.results = #[.tmp 0]) (hN:fn.ntmps=3)
    (hbody:fn.body=some (.seq (Code.region i0 ⟨[oA 0 (.const x0) t0 p0 e0]⟩ false) (.seq (Code.region i1 ⟨[⟨some 1,.alloc TM,t1,p1,e1,none⟩]⟩ false) (.seq (Code.region i2 ⟨[oC 2 fd #[.tmp 1] ats t2 p2 e2]⟩ false) (.seq (Code.region i3 ⟨[oT 0 1 t3 p3 e3]⟩ false) .ret)))))
    (hz:zeroIs P TM (Ty.zcs tys)) (hd:DefM P fd tys d) (hn:0 < Ty.sizes tys):NewM P f tys (d (Ty.zvs tys)):=by
  refine ⟨enters_of hf hname hbody,fun w=>?_⟩;obtain ⟨i,v,hi,hzv,hcs⟩:=hz;refine calls_of_wp hf hbody ?_;generalize ha0:({ tmps:=#[]++Array.replicate (fn.ntmps - #[].size) undef,defers:=[] }:Act)=a0;have hsz:a0.tmps.size=3:=by subst ha0;simp[hN]
  have hd0:a0.defers=[]:=by subst ha0;rfl
  refine tId (wp_seq_k fun K1 hK1=>?_);refine r_const (m:=0) (by omega) (by omega) fun a1 k1 _=>hK1 a1 w (tUp ?_);have hz1:=k1.size;refine wT fun K2 hK2=>?_;refine wC (wp_alloc ⟨i,hi,hzv⟩ ?_);rw[wNi];have f1:=Fr.alloc [] w (.cells v.cells TM);have rg1:=range_new w v.cells TM (0,0);have th1:=there_new w v.cells TM;have sz1:=size_alloc w (.cells v.cells TM);rw[hcs] at rg1;have hlen:(Ty.zcs tys).length=Ty.sizes tys:=(reps_zero (w:=w) (A:=NoFoot) tys).length;have hcl:v.cells.size=Ty.sizes tys:=by rw[← hlen,← hcs,Array.length_toList]
  rw[hcl] at th1;generalize w.alloc (.cells v.cells TM)=w1 at f1 rg1 th1 sz1 ⊢;have g1:get (a1.put (some 1) (.pointer (some ⟨w.heap.size,0,none⟩))) 1 = .pointer (some ⟨w.heap.size,0,none⟩):=gQ;have k2:Kept 0 a1 (a1.put (some 1) (.pointer (some ⟨w.heap.size,0,none⟩))):=Kept.put0 (by omega) _;generalize a1.put (some 1) (.pointer (some ⟨w.heap.size,0,none⟩))=a2 at g1 k2 ⊢;have hz2:=k2.size;refine hK2 a2 w1 (tUp ?_);refine wT fun K3 hK3=>?_;rw[wCo];refine wp_calls (R:=fun _ w'=>(∃ z',w'.rangeAt w.heap.size 0 z'∧Reps w' NoFoot tys z' (d (Ty.zvs tys)))∧Fr [⟨w.heap.size,0,0+(Ty.zcs tys).length⟩] w1 w') hd.enters (vs:=#[.pointer (some ⟨w.heap.size,0,none⟩)]) (by simp[eTm,g1])
    ((hd.call w1 w.heap.size 0 _ _ rg1 (by rw[hlen];exact th1) (reps_zero tys)).mono (by rintro e' w' ⟨x,h1,h2,h3⟩;exact ⟨x,h1,h2,h3⟩)) ?_
  rintro x w2 ⟨⟨z',hz',hr'⟩,f2⟩;rw[wNi];have hz3:=f2.size;refine hK3 _ w2 (tUp ?_);refine wT fun K4 hK4=>?_;rw[wCo,wAg,eTm,gR,g1,wNi];refine hK4 _ w2 (wp_ret ?_);refine ⟨by rw[dPu,dPu,k2.defers,k1.defers,hd0],_,results_one hres,w.heap.size,z',by rw[gQ],Nat.le_refl _,by omega,?_,hz',hr',f2.there th1⟩;refine f1.trans f2 ?_;intro r hr;simp at hr;subst hr;exact .inl (Nat.le_refl _)
structure SetM (P:Program) (f:FuncId):Prop where
  enters:Enters P f
  call:∀ w pb ver,w.there pb 0 1→Calls P f #[.pointer (some ⟨pb,0,none⟩),.int .i16 ver] w fun e w'=>(∃ x,e = .returned x)∧w'=w.setCell ⟨pb,0,none⟩ (.int .i16 ver)
theorem set_m {P:Program} {f:FuncId} {fn:Func} {S Tv kv:Nat} {i0:Nat} {t0 t1 t2 t3 t4:TypeId} {p0 p1 p2 p3 p4:String} {e0 e1 e2 e3 e4:Array Edge}
    (hf:P.funcs[f]?=some fn) (hname:(fn.name == "runtime.NumGoroutine")=false) (hres:fn.results = #[]) (hN:fn.ntmps=8)
    (hbody:fn.body=some (Code.region i0 ⟨[oM 4 0 t0 p0 e0,oM 5 1 t1 p1 e1,⟨some 6,.nilCheck (.tmp 4),t2,p2,e2,none⟩,oF 7 S 6 kv t3 p3 e3,oS Tv 7 5 t4 p4 e4]⟩ false))
    (hS:fieldOf P S kv 0=true) (hTv:scal P Tv=true):SetM P f:=by
  refine ⟨enters_of hf hname hbody,fun w pb ver ht=>?_⟩;refine calls_of_wp hf hbody ?_;generalize ha0:({ tmps:=#[Value.pointer (some ⟨pb,0,none⟩),Value.int .i16 ver]++Array.replicate (fn.ntmps - #[Value.pointer (some ⟨pb,0,none⟩),Value.int .i16 ver].size) undef,defers:=[] }:Act)=a0;have hsz:a0.tmps.size=8:=by subst ha0;simp[hN]
  have hd0:a0.defers=[]:=by subst ha0;rfl
  have g0:get a0 0 = .pointer (some ⟨pb,0,none⟩):=by subst ha0;exact gAr rfl
  have g1:get a0 1 = .int .i16 ver:=by subst ha0;exact gAr rfl
  refine wp_reg ?_;rw[wCo,wMw,eTm,g0,wCo,wMw,eTm,gR,g1,wCo];refine wNc (q:=⟨pb,0,none⟩) (by rw[eTm,gR,gQ]) ?_;refine wC (wFa (b:=pb) (i:=0) hS (by rw[eTm,gQ]) ?_);refine wC (wp_store hTv (b:=pb) (o:=0) (v:=.int .i16 ver) (by rw[eTm,gQ]) (by rw[eTm,gR,gR,gQ]) rfl ht ?_);rw[wNi];exact ⟨by simp only[dPu];exact hd0,.tuple #[],by simp[results,hres],⟨_,rfl⟩,rfl⟩
theorem read_m {P:Program} {f fr:FuncId} {fn:Func} {uns:Bool} {i0 i1:Nat} {ats:Array TypeId} {t0 t1 t2 t3 t4:TypeId} {p0 p1 p2 p3 p4:String} {e0 e1 e2 e3 e4:Array Edge}
    (hf:P.funcs[f]?=some fn) (hname:(fn.name == "runtime.NumGoroutine")=false) (hres:fn.results = #[.tmp 4]) (hN:fn.ntmps=8)
    (hbody:fn.body=some (.seq (Code.region i0 ⟨[oA 4 (.const .nilIface) t0 p0 e0]⟩ false) (.seq (Code.region i1 ⟨[oM 5 0 t1 p1 e1,oM 6 1 t2 p2 e2,oC 7 fr #[.tmp 5,.tmp 6,.const (.bool uns)] ats t3 p3 e3,oT 4 7 t4 p4 e4]⟩ false) .ret)))
    (hr:Enters P fr) {w:World} {v s:Value} {R:Value→World→Prop} (h:Calls P fr #[v,s,.bool uns] w fun e w'=>∃ x,e = .returned x∧R x w'):Calls P f #[v,s] w fun e w'=>∃ x,e = .returned x∧R x w':=by
  refine calls_of_wp hf hbody ?_;generalize ha0:({ tmps:=#[v,s]++Array.replicate (fn.ntmps - #[v,s].size) undef,defers:=[] }:Act)=a0;have hsz:a0.tmps.size=8:=by subst ha0;simp[hN]
  have hd0:a0.defers=[]:=by subst ha0;rfl
  have g0:get a0 0=v:=by subst ha0;exact gAr rfl
  have g1:get a0 1=s:=by subst ha0;exact gAr rfl
  refine tId (wp_seq_k fun K1 hK1=>?_);refine r_const (m:=4) (by omega) (by omega) fun a1 k1 _=>hK1 a1 w (tUp ?_);have hz1:=k1.size;refine wT fun K2 hK2=>?_;rw[wCo,wMw,eTm,k1.get 0 (by omega),g0,wCo,wMw,eTm,gR,k1.get 1 (by omega),g1,wCo];refine wp_calls hr (vs:=#[v,s,.bool uns]) (by simp[eTm,eCo,gPn (show (6:Nat) ≠ 5 by omega),gPs (a:=a1) (d:=5) (show 5 < a1.tmps.size by omega),gPs (a:=a1.put (some 5) v) (d:=6) (show 6 < (a1.put (some 5) v).tmps.size by simp only[sPu];omega)]) h ?_;intro x w2 hR;rw[wCo,wAg,eTm,gQ,wNi];refine hK2 _ w2 (wp_ret ?_);refine ⟨by simp only[dPu];rw[k1.defers,hd0],_,results_one hres,x,by rw[gQ],hR⟩
end Go.Kq

namespace Go.Kq
open Go Go.Proofs
theorem wp_rem {P:Program} {a:Act} {w:World} {K:Act→World→Prop} {Q:Exit→Act→World→Prop} {d:Option Tmp} {t:TypeId} {p:String} {af:Array Edge} {g:Option (Nat × Bool)} {s u:TypeId} {x y:Operand} {k1:IntKind} {i j:Int} (hj:j ≠ 0) (hx:a.eval x = .int k1 i) (hy:a.eval y = .int k1 j) (k:K (a.put d (.int k1 (i.tmod j))) w) :
    OW P ⟨d,.binOp .rem s x y u,t,p,af,g⟩ a w K Q:=wp_val (by simp[execOp,hx,hy,eqGuard,binOp,Op.intDiv,hj]) k
theorem version_m {P:Program} {f:FuncId} {fn:Func} {T1 T2 T3 T4 T5 T6 i0 i1:Nat} {x0:Value} {t0 t1 t2 t3 t4 t5 t6:TypeId} {p0 p1 p2 p3 p4 p5 p6:String} {e0 e1 e2 e3 e4 e5 e6:Array Edge}
    (hf:P.funcs[f]?=some fn) (hname:(fn.name == "runtime.NumGoroutine")=false) (hres:fn.results = #[.tmp 4]) (hN:fn.ntmps=10)
    (hbody:fn.body=some (.seq (Code.region i0 ⟨[oA 4 (.const x0) t0 p0 e0]⟩ false) (.seq (Code.region i1 ⟨[oM 5 0 t1 p1 e1,⟨some 6,.convert T1 T2 (.tmp 5),t2,p2,e2,none⟩,oM 7 1 t3 p3 e3,⟨some 8,.binOp .add T3 (.tmp 7) (.const (.int .i64 1)) T4,t4,p4,e4,none⟩,⟨some 9,.binOp .rem T5 (.tmp 6) (.tmp 8) T6,t5,p5,e5,none⟩,oT 4 9 t6 p6 e6]⟩ false) .ret)))
    (h1:intOf P T1 .u8=true) (h2:intOf P T2 .i64=true):Enters P f∧∀ (w:World) (n:Nat) (most:Nat),n < 256→most < 32768→Calls P f #[.int .u8 n,.int .i64 most] w fun e w'=>e = .returned (.int .i64 ((n % (most+1):Nat):Int))∧w'=w:=by
  refine ⟨enters_of hf hname hbody,fun w n most hn hm=>?_⟩;refine calls_of_wp hf hbody ?_;generalize ha0:({ tmps:=#[Value.int .u8 (n:Int),Value.int .i64 (most:Int)]++Array.replicate (fn.ntmps - #[Value.int .u8 (n:Int),Value.int .i64 (most:Int)].size) undef,defers:=[] }:Act)=a0;have hsz:a0.tmps.size=10:=by subst ha0;simp[hN]
  have hd0:a0.defers=[]:=by subst ha0;rfl
  have g0:get a0 0 = .int .u8 n:=by subst ha0;exact gAr rfl
  have g1:get a0 1 = .int .i64 most:=by subst ha0;exact gAr rfl
  refine tId (wp_seq_k fun K1 hK1=>?_);refine r_const (m:=4) (by omega) (by omega) fun a1 k1 _=>hK1 a1 w (tUp ?_);have hz1:=k1.size;refine wT fun K2 hK2=>?_;rw[wCo,wMw,eTm,k1.get 0 (by omega),g0,wCo];refine wCv (k1:=.u8) (i:=n) h1 h2 (by rw[eTm,gQ]) ?_;rw[wrap64 (by omega)];rw[wCo,wMw,eTm,gR,gR,k1.get 1 (by omega),g1,wCo];refine wp_add (k1:=.i64) (i:=most) (j:=1) (by rw[eTm,gQ]) rfl ?_;rw[wrap64 (by omega),wCo];refine wp_rem (k1:=.i64) (i:=n) (j:=(most:Int)+1) (by omega) (by rw[eTm,gR,gR,gQ]) (by rw[eTm,gQ]) ?_;rw[wCo,wAg,eTm,gQ,wNi];refine hK2 _ w (wp_ret ?_);refine ⟨by simp only[dPu];rw[k1.defers,hd0],_,results_one hres,?_,rfl⟩;rw[gQ]
  congr 2
theorem maxv_m {P:Program} {f:FuncId} {fn:Func} {i0 i1:Nat} {x0:Value} {mx:Int} {t0 t1:TypeId} {p0 p1:String} {e0 e1:Array Edge}
    (hf:P.funcs[f]?=some fn) (hname:(fn.name == "runtime.NumGoroutine")=false) (hres:fn.results = #[.tmp 2]) (hN:fn.ntmps=3)
    (hbody:fn.body=some (.seq (Code.region i0 ⟨[oA 2 (.const x0) t0 p0 e0]⟩ false) (.seq (Code.region i1 ⟨[oA 2 (.const (.int .i16 mx)) t1 p1 e1]⟩ false) .ret))) :
    Enters P f∧∀ (w:World) (v:Value),Calls P f #[v] w fun e w'=>e = .returned (.int .i16 mx)∧w'=w:=by
  refine ⟨enters_of hf hname hbody,fun w v=>?_⟩;refine calls_of_wp hf hbody ?_;generalize ha0:({ tmps:=#[v]++Array.replicate (fn.ntmps - #[v].size) undef,defers:=[] }:Act)=a0;have hsz:a0.tmps.size=3:=by subst ha0;simp[hN]
  have hd0:a0.defers=[]:=by subst ha0;rfl
  refine tId (wp_seq_k fun K1 hK1=>?_);refine r_const (m:=2) (by omega) (by omega) fun a1 k1 _=>hK1 a1 w (tUp ?_);have hz1:=k1.size;refine tId (wp_seq_k fun K2 hK2=>?_);refine r_const (m:=2) (by omega) (by omega) fun a2 k2 g2=>hK2 a2 w (tUp ?_);refine wp_ret ?_;exact ⟨by rw[k2.defers,k1.defers,hd0],_,results_one hres,by rw[g2],rfl⟩
theorem maxd_m {P:Program} {f fnw fmx:FuncId} {fn:Func} {T1 T2 i0 i1:Nat} {tys:List Ty} {ds:List V} {ats1 ats2:Array TypeId} {mx:Int} {t0 t1 t2 t3 t4:TypeId} {p0 p1 p2 p3 p4:String} {e0 e1 e2 e3 e4:Array Edge} {x0:Value}
    (hf:P.funcs[f]?=some fn) (hname:(fn.name == "runtime.NumGoroutine")=false) (hres:fn.results = #[.tmp 0]) (hN:fn.ntmps=4)
    (hbody:fn.body=some (.seq (Code.region i0 ⟨[oA 0 (.const x0) t0 p0 e0]⟩ false) (.seq (Code.region i1 ⟨[oC 1 fnw #[] ats1 t1 p1 e1,oC 2 fmx #[.tmp 1] ats2 t2 p2 e2,⟨some 3,.convert T1 T2 (.tmp 2),t3,p3,e3,none⟩,oT 0 3 t4 p4 e4]⟩ false) .ret)))
    (hn:NewM P fnw tys ds) (hm:Enters P fmx∧∀ (w:World) (v:Value),Calls P fmx #[v] w fun e w'=>e = .returned (.int .i16 mx)∧w'=w) (hmx : -32768≤mx∧mx≤32767) (h1:intOf P T1 .i16=true) (h2:intOf P T2 .i64=true) :
    Enters P f∧∀ (w:World),Calls P f #[] w fun e w'=>e = .returned (.int .i64 mx)∧Fr [] w w':=by
  refine ⟨enters_of hf hname hbody,fun w=>?_⟩;refine calls_of_wp hf hbody ?_;generalize ha0:({ tmps:=#[]++Array.replicate (fn.ntmps - #[].size) undef,defers:=[] }:Act)=a0;have hsz:a0.tmps.size=4:=by subst ha0;simp[hN]
  have hd0:a0.defers=[]:=by subst ha0;rfl
  refine tId (wp_seq_k fun K1 hK1=>?_);refine r_const (m:=0) (by omega) (by omega) fun a1 k1 _=>hK1 a1 w (tUp ?_);have hz1:=k1.size;refine wT fun K2 hK2=>?_;refine wC (wp_calls (R:=fun _ w'=>Fr [] w w') hn.enters (vs:=#[]) (by simp) ((hn.call w).mono (by rintro e' w' ⟨pb,z,rfl,_,_,h,_⟩;exact ⟨_,rfl,h⟩)) ?_);intro v w1 f1;refine wC (wp_calls (R:=fun x w'=>x = .int .i16 mx∧w'=w1) hm.1 (vs:=#[v]) (by simp[eTm,gPs (a:=a1) (d:=1) (v:=v) (by omega)]) ((hm.2 w1 v).mono (by rintro e' w' ⟨rfl,rfl⟩;exact ⟨_,rfl,rfl,rfl⟩)) ?_);rintro x w2 ⟨rfl,rfl⟩;refine wC (wCv (k1:=.i16) (i:=mx) h1 h2 (by rw[eTm,gQ]) ?_);rw[wrap64 (by omega),wCo,wAg,eTm,gQ,wNi];refine hK2 _ w2 (wp_ret ?_);exact ⟨by simp only[dPu];rw[k1.defers,hd0],_,results_one hres,by rw[gQ],f1⟩
end Go.Kq

namespace Go.Kq
open Go Go.Proofs
theorem wp_copySrc {P:Program} {a:Act} {w:World} {K:Act→World→Prop} {Q:Exit→Act→World→Prop} {d:Option Tmp} {t:TypeId} {p:String} {af:Array Edge} {gd:Option (Nat × Bool)} {T e:TypeId} {A:Nat→Prop} {v:Value} {xs:List UInt8} {y:Operand}
    (hT:sliceOf P T e 1 1=true) (hz:zeroIs P e [.int .u8 0]) (hy:a.eval y=v) (hs:OctE w A v xs) (hl:xs.length≤4294967296)
    (k:∀ v' w' sb,Fr [] w w'→w.heap.size≤sb→(xs ≠ []→sb < w'.heap.size)→Src w' sb v' xs xs.isEmpty→K (a.put d v') w') :
    OW P ⟨d,.call ⟨.builtin .append,#[.const (.slice none 0 0),y],#[T,T]⟩,t,p,af,gd⟩ a w K Q:=by
  obtain ⟨q,cap,rfl,hq⟩:=hs.slice
  by_cases h0:xs=[]
  · subst h0;obtain ⟨hu,i,z0,hi,hs',hby,hzz,hsz⟩:=under_slice hT;have hr:(Builtin.append_ #[T,T] t #[.slice none 0 0,.slice q 0 cap]).run P w = .ok (.slice none 0 0) w:=by
      cases q <;> simp[Builtin.append_,run_underlying hu,sizeOf,typeInfo,hi,Builtin.lenOf,Builtin.firstCells,loadCells,loadCellsFrom]
    refine wp_val (v:=.slice none 0 0) (w':=w) ?_ (k _ _ w.heap.size (Fr.refl _ _) (Nat.le_refl _) (by simp) (.inl ⟨rfl,rfl,rfl⟩));simp only[List.length_nil] at hy;simp[execOp,resolve,invoke,builtin,hy,eCo,hr]
  have hpos:0 < xs.length:=List.length_pos_iff.2 h0;obtain ⟨b,o,rfl,hr⟩:=hq hpos;refine wp_append (A:=fun _=>False) (z:=[.int .u8 0]) (v:=.slice none 0 0) (n:=0) (xs:=[]) (m:=xs.length) (news:=octets xs) hT hz rfl rfl hy Own.nil hpos (by rw[lOc,Nat.mul_one]) hr (by intro u hu;simp[octets] at hu;obtain ⟨c,_,rfl⟩:=hu;rfl) (by omega) (by simp only[maxLen];omega) ?_;intro v' w' hf ho _;obtain ⟨_,hb | ⟨g,o',cap',hg,hv,hc,_,hrr,_⟩⟩:=ho
  · omega
  rcases hg with hg | hg
  · exact hg.elim
  rw[Nat.zero_add] at hv hc;rw[List.nil_append] at hrr;refine k v' w' g (by simpa [spare] using hf) hg.1 (fun _=>hg.2) (.inr ⟨by simpa using h0,o',cap',hv,⟨hc,by omega⟩,hrr⟩)
end Go.Kq

namespace Go.Kq
open Go Go.Proofs
section
variable {P:Program} {a:Act} {w:World} {K:Act→World→Prop} {Q:Exit→Act→World→Prop} {d:Option Tmp} {t:TypeId} {p:String} {af:Array Edge} {g:Option (Nat × Bool)}
def ifaceTy (P:Program) (t:TypeId):Bool:=match P.underlying t with | some (.interface _)=>true | _=>false
inductive ErrIs:Value→Bool→Prop where
  | no:ErrIs .nilIface false
  | yes (ty:TypeId) (u:Value):ErrIs (.iface ty u) true
theorem run_eqNil {s:TypeId} {v:Value} {b:Bool} (hs:ifaceTy P s=true) (hv:ErrIs v b) (n:Nat):(Op.equalIn (n+1) s v .nilIface).run P w = .ok (!b) w:=by
  unfold ifaceTy at hs
  cases hu:P.underlying s with
  | none=>simp[hu] at hs
  | some d =>
    cases d <;> simp only[hu] at hs <;> first | (simp at hs;done) | skip
    cases hv <;> simp[Op.equalIn,run_underlying hu]
theorem run_equalNil {s:TypeId} {v:Value} {b:Bool} (hs:ifaceTy P s=true) (hv:ErrIs v b):(Op.equal s v .nilIface).run P w = .ok (!b) w:=run_eqNil hs hv 9999
theorem wp_neqNil {s u:TypeId} {x:Operand} {v:Value} {b:Bool} (hs:ifaceTy P s=true) (hx:a.eval x=v) (hv:ErrIs v b) (k:K (a.put d (.bool b)) w) :
    OW P ⟨d,.binOp .neq s x (.const .nilIface) u,t,p,af,g⟩ a w K Q:=by
  refine wp_val (v:=.bool b) (w':=w) ?_ k;have hg:(eqGuard .neq s x (.const .nilIface) v .nilIface).run P w = .ok () w:=by cases hv <;> simp[eqGuard]
  have hr:(binOp .neq s v .nilIface).run P w = .ok (.bool b) w:=by
    have:=run_equalNil (w:=w) hs hv
    cases hv <;> simp only[binOp,Sem.run_bind,this,Result.andThen_ok,Sem.run_pure] <;> rfl
  have hc:a.eval (.const .nilIface) = .nilIface:=rfl;simp only[execOp,hx,hc,Sem.run_bind,hg,hr,Result.andThen_ok,Sem.run_pure]
theorem wp_build0 {s:TypeId} {z:List Value} (h:Flat P s z) (k:K (a.put d (.agg z.toArray)) w) :
    OW P ⟨d,.build s #[],t,p,af,g⟩ a w K Q:=by
  refine wp_val (v:=.agg z.toArray) (w':=w) ?_ k;have:=run_build (P:=P) (t:=s) (z:=z) (w:=w) (ps:=[]) h (by simp);have h2:(Instr.build s #[]).run P w = .ok (.agg z.toArray) w:=by simpa [laid] using this
  simp[execOp,h2]
end
structure ReadD (P:Program) (ge:Nat) (f:FuncId) (tys:List Ty) (ds:List V) (fl:Int→Bool) (g:Rd):Prop where
  enters:Enters P f
  call:∀ w pb sb ver srcv xs nl er,w.there pb 0 (1+Ty.sizes tys) → -32768≤ver→ver≤32767→w.cell? ⟨pb,0,none⟩=some (.int .i16 ver)→(∃ z,w.rangeAt pb 1 z∧Reps w NoFoot tys z ds)→Src w sb srcv xs nl →
    w.cell? ⟨ge,0,none⟩=some er→ge ≠ pb→pb ≠ sb→sb < w.heap.size →
    Calls P f #[.pointer (some ⟨pb,0,none⟩),srcv] w fun e w'=>∃ v,e = .returned v∧Fr [⟨pb,0,1+Ty.sizes tys⟩] w w' ∧
      match g ver (fl ver) ⟨xs,nl,false⟩ with
      | none=>v=er
      | some (x,st')=>if st'.bad then v=er else v = .nilIface∧w'.cell? ⟨pb,0,none⟩=some (.int .i16 ver)∧∃ ys z,x = .l ys∧w'.rangeAt pb 1 z∧Reps w' (Foot sb w.heap.size w'.heap.size) tys z ys
theorem read_d {P:Program} {ge:Nat} {f fr:FuncId} {fn:Func} {uns:Bool} {tys:List Ty} {ds:List V} {fl:Int→Bool} {g:Rd} {i0 i1:Nat} {ats:Array TypeId} {t0 t1 t2 t3 t4:TypeId} {p0 p1 p2 p3 p4:String} {e0 e1 e2 e3 e4:Array Edge}
    (hr:ReadM P ge fr tys ds fl g) (hf:P.funcs[f]?=some fn) (hname:(fn.name == "runtime.NumGoroutine")=false) (hres:fn.results = #[.tmp 4]) (hN:fn.ntmps=8)
    (hbody:fn.body=some (.seq (Code.region i0 ⟨[oA 4 (.const .nilIface) t0 p0 e0]⟩ false) (.seq (Code.region i1 ⟨[oM 5 0 t1 p1 e1,oM 6 1 t2 p2 e2,oC 7 fr #[.tmp 5,.tmp 6,.const (.bool uns)] ats t3 p3 e3,oT 4 7 t4 p4 e4]⟩ false) .ret))):ReadD P ge f tys ds fl g:=by
  refine ⟨enters_of hf hname hbody,?_⟩;intro w pb sb ver srcv xs nl er h1 h2 h3 h4 h5 h6 h7 h8 h9 h10;have hc:=hr.call w pb sb ver uns srcv xs nl er h1 h2 h3 h4 h5 h6 h7 h8 h9 h10;refine read_m hf hname hres hN hbody hr.enters (hc.mono ?_);rintro e w' ⟨hF,hm⟩
  cases hg:g ver (fl ver) ⟨xs,nl,false⟩ with
  | none=>rw[hg] at hm;exact ⟨er,hm,hF,by simp⟩
  | some y =>
    obtain ⟨x,st'⟩:=y;rw[hg] at hm;simp only at hm
    by_cases hb:st'.bad
    · rw[if_pos hb] at hm;exact ⟨er,hm,hF,by simp[hb]⟩
    rw[if_neg hb] at hm;obtain ⟨rfl,h11,h12⟩:=hm;exact ⟨.nilIface,rfl,hF,by simp only[hb];exact ⟨trivial,h11,h12⟩⟩
def doorRes (g:Rd) (fl:Int→Bool) (tell:V→T) (ver:Int) (xs:List UInt8):T × Bool :=
  match g ver (fl ver) ⟨xs,xs.isEmpty,false⟩ with
  | none=>(.zero,false)
  | some (x,st)=>if st.bad then (.zero,false) else (tell (consV (.n ver) x),true)
theorem results_cell2 {P:Program} {fn:Func} {t t2:Nat} {T:TypeId} {z:List Value} {a:Act} {w:World} {b o:Nat} {cs:List Value} {v:Value} (h:fn.results = #[.cell t T,.tmp t2]) (hT:Flat P T z) (hl:cs.length=z.length) (ha:get a t = .pointer (some ⟨b,o,none⟩)) (hc:w.rangeAt b o cs) (hv:get a t2=v) :
    (results fn a.tmps).run P w = .ok (.tuple #[.agg cs.toArray,v]) w:=by
  obtain ⟨_,hs,fs,hu,_⟩:=hT;have hr:=run_loadVar_mid (P:=P) w b o T cs _ hc hu rfl (by rw[hs,hl]);have ha':a.tmps[t]?.getD undef = .pointer (some ⟨b,o,none⟩):=by rw[← Array.getD_eq_getD_getElem?];exact ha
  have hv':a.tmps[t2]?.getD undef=v:=by rw[← Array.getD_eq_getD_getElem?];exact hv
  simp only[results,h];simp[ha',hv',asAddr,hr]
theorem wrap16 {i:Int} (h : -32768≤i∧i≤32767):IntKind.i16.wrap i=i:=by
  simp only[IntKind.wrap,IntKind.bits,IntKind.signed];simp
  split <;> omega
end Go.Kq

namespace Go.Kq
open Go Go.Proofs
theorem wp_extract {P:Program} {a:Act} {w:World} {K:Act→World→Prop} {Q:Exit→Act→World→Prop} {d:Option Tmp} {t:TypeId} {p:String} {af:Array Edge} {g:Option (Nat × Bool)} {x:Operand} {i:Nat} {vs:Array Value} {v:Value}
    (hx:a.eval x = .tuple vs) (hv:vs[i]?=some v) (k:K (a.put d v) w):OW P ⟨d,.extract x i,t,p,af,g⟩ a w K Q :=
  wp_val (v:=v) (w':=w) (by simp[execOp,hx,Instr.extract,hv]) k
abbrev MaxM (P:Program) (f:FuncId) (mx:Nat):Prop:=Enters P f∧∀ (w:World),Calls P f #[] w fun e w'=>e = .returned (.int .i64 mx)∧Fr [] w w'
abbrev VerM (P:Program) (f:FuncId):Prop:=Enters P f∧∀ (w:World) (n:Nat) (most:Nat),n < 256→most < 32768→Calls P f #[.int .u8 n,.int .i64 most] w fun e w'=>e = .returned (.int .i64 ((n % (most+1):Nat):Int))∧w'=w
end Go.Kq

namespace Go.Kq
open Go Go.Proofs
theorem Entries.at {w:World} {A:Nat→Prop}:∀ {es:List MapEntry} {kv:List (Nat × V)},Entries w A es kv→∀ {j:Nat} {e:MapEntry},es[j]?=some e→∃ k x,kv[j]?=some (k,.oct x)∧k < 4294967296∧e.key = .int .u32 k∧OctsV w A e.val x
  | [],kv,h,j,e,he=>by simp at he
  | e0 :: es, kv, h, j, e, he => by
    obtain ⟨k,x,r,rfl,h2,h3,h4,h5⟩:=h
    cases j with
    | zero=>simp at he;subst he;exact ⟨k,x,rfl,h2,h3,h4⟩
    | succ j=>simpa using h5.at (by simpa using he)
theorem Entries.len {w:World} {A:Nat→Prop}:∀ {es:List MapEntry} {kv:List (Nat × V)},Entries w A es kv→es.length=kv.length
  | [],kv,h=>by have:kv=[]:=h;subst this;rfl
  | e0::es,kv,h=>by obtain ⟨k,x,r,rfl,h2,h3,h4,h5⟩:=h;simp[h5.len]
theorem Entries.small {w:World} {A:Nat→Prop}:∀ {es:List MapEntry} {kv:List (Nat × V)},Entries w A es kv→∀ p ∈ kv,p.1 < 4294967296
  | [],kv,h,p,hp=>by have:kv=[]:=h;subst this;cases hp
  | e0 :: es, kv, h, p, hp => by
    obtain ⟨k,x,r,rfl,h2,h3,h4,h5⟩:=h
    rcases List.mem_cons.1 hp with rfl | hp
    · exact h2
    exact h5.small p hp
theorem Entries.set {w:World} {A:Nat→Prop} {v:Value} {x:Option (List UInt8)} (hv:OctsV w A v x):∀ {es:List MapEntry} {kv:List (Nat × V)} {j k:Nat} {e:MapEntry},Entries w A es kv→es[j]?=some e→e.key = .int .u32 k→k < 4294967296 →
    Entries w A (es.set j { e with key:=.int .u32 k,val:=v }) (kv.set j (k,.oct x))
  | [],kv,j,k,e,h,he,_,_=>by simp at he
  | e0 :: es, kv, 0, k, e, h, he, hk, hl => by
    obtain ⟨k',x',r,rfl,h2,h3,h4,h5⟩:=h;simp at he;subst he
    exact ⟨k,x,r,rfl,hl,rfl,hv,h5⟩
  | e0 :: es, kv, j + 1, k, e, h, he, hk, hl => by
    obtain ⟨k',x',r,rfl,h2,h3,h4,h5⟩:=h;exact ⟨k',x',_,rfl,h2,h3,h4,Entries.set hv h5 (by simpa using he) hk hl⟩
theorem Entries.push {w:World} {A:Nat→Prop} {v:Value} {x:Option (List UInt8)} {k b:Nat} (hv:OctsV w A v x) (hk:k < 4294967296):∀ {es:List MapEntry} {kv:List (Nat × V)},Entries w A es kv →
    Entries w A (es++[{ key:=.int .u32 k,val:=v,born:=b }]) (kv++[(k,.oct x)])
  | [],kv,h=>by have:kv=[]:=h;subst this;exact ⟨k,x,[],rfl,hk,rfl,hv,rfl⟩
  | e0 :: es, kv, h => by
    obtain ⟨k',x',r,rfl,h2,h3,h4,h5⟩:=h;exact ⟨k',x',_,rfl,h2,h3,h4,h5.push hv hk⟩
theorem find_tags {w:World} {A:Nat→Prop} {q:IntKind} {k:Nat}:∀ {es:List MapEntry} {kv:List (Nat × V)} {i:Nat},Entries w A es kv →
    (∃ j e,es[j]?=some e∧e.key = .int .u32 k∧Instr.findNow (.int q) (.int .u32 (k:Int)) es i=some (some (i+j,e.val))) ∨
    (Instr.findNow (.int q) (.int .u32 (k:Int)) es i=some none∧∀ p ∈ kv,p.1 ≠ k)
  | [], kv, i, h => by
    have:kv=[]:=h;subst this;exact .inr ⟨rfl,by simp⟩
  | e0 :: es, kv, i, h => by
    obtain ⟨k',x',r,rfl,h2,h3,h4,h5⟩:=h
    by_cases hk:k=k'
    · subst hk;refine .inl ⟨0,e0,rfl,h3,?_⟩;simp[Instr.findNow,h3,Instr.sameNow]
    have hf:Instr.findNow (.int q) (.int .u32 (k:Int)) (e0::es) i=Instr.findNow (.int q) (.int .u32 (k:Int)) es (i+1):=by
      have:((k:Int)==(k':Int))=false:=by simp;omega
      simp[Instr.findNow,h3,Instr.sameNow,this]
    rw[hf]
    rcases find_tags (i:=i+1) h5 with ⟨j,e,he,hke,hr⟩ | ⟨hr,hn⟩
    · exact .inl ⟨j+1,e,by simpa using he,hke,by rw[hr];congr 3;omega⟩
    refine .inr ⟨hr,fun p hp=>?_⟩
    rcases List.mem_cons.1 hp with rfl | hp
    · exact fun e=>hk e.symm
    exact hn p hp
def TagM (w:World) (A:Nat→Prop) (r:Nat) (kv:List (Nat × V)):Prop:=∃ es clock,w.heap[r]?=some (.map es clock)∧Entries w A es.toList kv∧TagOk es clock kv
theorem TagM.kept {w w':World} {A A':Nat→Prop} {r:Nat} {kv:List (Nat × V)} {l:List Rng} (h:TagM w A r kv) (hf:Fr l w w') (hl:∀ x ∈ l,¬ A x.b) (hr:∀ x ∈ l,x.b ≠ r) (hA:∀ b,A b→A' b):TagM w' A' r kv:=by
  obtain ⟨es,clock,h1,h2,h3⟩:=h;exact ⟨es,clock,by rw[hf.block r (lt_of_block h1) hr];exact h1,h2.kept hf hl hA,h3⟩
theorem TagM.lt {w:World} {A:Nat→Prop} {r:Nat} {kv:List (Nat × V)} (h:TagM w A r kv):r < w.heap.size:=by
  obtain ⟨es,clock,h1,_⟩:=h;exact lt_of_block h1
theorem TagM.rep {w:World} {A:Nat→Prop} {r:Nat} {kv:List (Nat × V)} (h:TagM w A r kv) (hr:A r):Rep w A .tags [.map (some r)] (.t kv):=by
  obtain ⟨es,clock,h1,h2,h3⟩:=h;exact .inr ⟨r,es,clock,kv,hr,rfl,h1,h2,rfl,h3⟩
def mapOf (P:Program) (T kt et:TypeId):Bool:=(match P.underlying T with | some (.map k e)=>k==kt && e==et | _=>false) && intOf P kt .u32
theorem under_map {P:Program} {T kt et:TypeId} (h:mapOf P T kt et=true):P.underlying T=some (.map kt et)∧P.underlying kt=some (.int .u32):=by
  unfold mapOf at h;simp only[Bool.and_eq_true] at h;refine ⟨?_,under_int h.2⟩
  cases hu:P.underlying T with
  | none=>simp[hu] at h
  | some d=>cases d <;> simp[hu] at h;obtain ⟨⟨rfl,rfl⟩,_⟩:=h;rfl
variable {P:Program} {a:Act} {w:World} {K:Act→World→Prop} {Q:Exit→Act→World→Prop} {d:Option Tmp} {t:TypeId} {p:String} {af:Array Edge} {g:Option (Nat × Bool)}
theorem setBlock_fr (w:World) (r:Nat) (o:Obj) (h:∀ cs T fz,w.heap[r]? ≠ some (.cells cs T fz)):Fr [⟨r,0,0⟩] w (ChangeMaps.setBlock w r o) where
  os:=rfl
  tape:=rfl
  output:=rfl
  size:=by simp[ChangeMaps.setBlock]
  block k _ hn:=by
    have:r ≠ k:=hn ⟨r,0,0⟩ (by simp);simp[ChangeMaps.setBlock,Array.getElem?_setIfInBounds,this]
  cells k cs T fz hk:=by
    by_cases e:r=k
    · subst e;exact absurd hk (h cs T fz)
    exact ⟨cs,by simp only[ChangeMaps.setBlock,Array.getElem?_setIfInBounds,e,if_false];exact hk,rfl,fun _ _=>rfl⟩
theorem setBlock_at (w:World) (r:Nat) (o:Obj) (h:r < w.heap.size):(ChangeMaps.setBlock w r o).heap[r]?=some o:=by
  simp[ChangeMaps.setBlock,Array.getElem?_setIfInBounds,h]
theorem wp_makeMap {T:TypeId} (k:K (a.put d (.map (some w.heap.size))) (w.alloc (.map #[] 0))):OW P ⟨d,.makeMap T none,t,p,af,g⟩ a w K Q :=
  wp_val (v:=.map (some w.heap.size)) (w':=w.alloc (.map #[] 0)) (by simp[execOp,Instr.makeMap,newObj,Sem.run]) k
theorem TagM.new (w:World) (A:Nat→Prop):TagM (w.alloc (.map #[] 0)) A w.heap.size [] :=
  ⟨#[],0,by show (w.heap.push _)[w.heap.size]?=_;simp,rfl,by simp[TagOk]⟩
theorem run_eqMapNil {s:TypeId} {kt et:TypeId} {q:Option Nat} (hs:P.underlying s=some (.map kt et)) (n:Nat):(Op.equalIn (n+1) s (.map q) (.map none)).run P w = .ok q.isNone w:=by
  cases q <;> simp[Op.equalIn,run_underlying hs]
theorem wp_eqlMapNil {s u kt et:TypeId} {x:Operand} {q:Option Nat} (hs:mapOf P s kt et=true) (hx:a.eval x = .map q) (k:K (a.put d (.bool q.isNone)) w) :
    OW P ⟨d,.binOp .eql s x (.const (.map none)) u,t,p,af,g⟩ a w K Q:=by
  refine wp_val (v:=.bool q.isNone) (w':=w) ?_ k;have hg:(eqGuard .eql s x (.const (.map none)) (.map q) (.map none)).run P w = .ok () w:=by simp[eqGuard]
  have he:(Op.equal s (.map q) (.map none)).run P w = .ok q.isNone w:=run_eqMapNil (under_map hs).1 9999;have hr:(binOp .eql s (.map q) (.map none)).run P w = .ok (.bool q.isNone) w:=by
    simp only[binOp,Sem.run_bind,he,Result.andThen_ok,Sem.run_pure]
  have hc:a.eval (.const (.map none)) = .map none:=rfl;simp only[execOp,hx,hc,Sem.run_bind,hg,hr,Result.andThen_ok,Sem.run_pure]
theorem run_checkKey {kt:TypeId} {b:Bool} {q k:IntKind} {i:Int} (hk:P.underlying kt=some (.int q)) (n:Nat):(Instr.checkKey b (n+1) kt (.int k i)).run P w = .ok () w:=by
  simp[Instr.checkKey,run_underlying hk]
theorem run_findKey {kt:TypeId} {q:IntKind} {v:Value} {es:List MapEntry} {r:Option (Nat × Value)} (hk:P.underlying kt=some (.int q)) (h:Instr.findNow (.int q) v es 0=some r):(Instr.findKey kt v es).run P w = .ok r w:=by
  simp[Instr.findKey,run_underlying hk,h]
theorem run_setMap {r:Nat} {es:Array MapEntry} {c:Nat} (hr:w.heap[r]?=some (.map es c)) (o':Obj):(setObj r o').run P w = .ok () (ChangeMaps.setBlock w r o'):=by
  simp[setObj,Sem.run,hr,ChangeMaps.setBlock]
theorem run_getObj {r:Nat} {es:Array MapEntry} {c:Nat} (hr:w.heap[r]?=some (.map es c)):(getObj r).run P w = .ok (.map es c) w:=by
  simp[getObj,Sem.run,hr]
theorem modify_list {es:Array MapEntry} {j:Nat} {e:MapEntry} {f:MapEntry→MapEntry} (he:es.toList[j]?=some e):(es.modify j f).toList=es.toList.set j (f e):=by
  apply List.ext_getElem?
  intro i;rw[List.getElem?_set,Array.getElem?_toList,Array.getElem?_modify];have hj:j < es.toList.length:=(List.getElem?_eq_some_iff.1 he).1
  by_cases hij:j=i
  · subst hij;have : es[j]? = some e := by rw [← Array.getElem?_toList]; exact he
    have hje:es[j]'(by simpa using hj)=e:=by
      have:=(Array.getElem?_eq_some_iff.1 this).2;exact this
    simp[show j < es.size by simpa using hj,hje]
  simp[hij]
theorem run_mapSet {T kt et:TypeId} {r k:Nat} {v:Value} {A:Nat→Prop} {kv:List (Nat × V)} {x:Option (List UInt8)} (hT:mapOf P T kt et=true) (hm:TagM w A r kv) (hk:k < 4294967296) (hv:OctsV w A v x) (hA:¬ A r) :
    ∃ w',(Instr.mapUpdate T (.map (some r)) (.int .u32 (k:Int)) v).run P w = .ok () w'∧Fr [⟨r,0,0⟩] w w'∧TagM w' A r (kvSet kv k (.oct x)):=by
  obtain ⟨hu,hi⟩:=under_map hT;obtain ⟨es,clock,h1,h2,h3,h4,h5⟩:=hm;have hck:(Instr.checkKey false 10000 kt (.int .u32 (k:Int))).run P w = .ok () w:=run_checkKey hi 9999;have hnc:∀ cs T fz,w.heap[r]? ≠ some (.cells cs T fz):=fun cs T fz e=>by rw[h1] at e;cases e
  rcases find_tags (q:=.u32) (k:=k) (i:=0) h2 with ⟨j,e,he,hke,hf⟩ | ⟨hf,hn⟩
  · rw[Nat.zero_add] at hf;have hfk:=run_findKey (P:=P) (w:=w) hi hf;have hst:(Instr.keyThatStays (((es[j]?).map (·.key)).getD (.int .u32 (k:Int))) (.int .u32 (k:Int))).run P w = .ok (.int .u32 (k:Int)) w:=by
      have:((es[j]?).map (·.key)).getD (.int .u32 (k:Int)) = .int .u32 (k:Int):=by
        rw[← Array.getElem?_toList,he];simp[hke]
      rw[this];simp[Instr.keyThatStays,Instr.sameBits]
    have hf1:=setBlock_fr w r (.map (es.modify j fun e=>{ e with key:=.int .u32 (k:Int),val:=v }) clock) hnc;refine ⟨_,?_,hf1,?_⟩
    · simp only[Instr.mapUpdate,Sem.run_bind,run_underlying hu,Result.andThen_ok,run_getObj h1,hck,hfk,hst,run_setMap h1]
    obtain ⟨k',x',hkv,_,hke',_⟩:=h2.at he;obtain rfl:k'=k:=by rw[hke] at hke';simp at hke';omega
    have hmod:=modify_list (f:=fun e=>{ e with key:=.int .u32 (k':Int),val:=v }) he;refine ⟨_,clock,setBlock_at w r _ (lt_of_block h1),?_,?_⟩
    · rw[hmod,kvSet_set h5 hkv];exact (h2.set hv he hke hk).kept hf1 (by intro z hz;simp at hz;subst hz;exact hA) (fun _ h=>h)
    refine ⟨?_,?_,kvSet_nodup h5⟩
    · rw[hmod];have:(es.toList.set j { e with key:=.int .u32 (k':Int),val:=v }).map (·.born)=es.toList.map (·.born):=by
        apply List.ext_getElem?
        intro i;rw[List.getElem?_map,List.getElem?_set,List.getElem?_map]
        by_cases hij:j=i
        · subst hij;rw[he];simp[show j < es.size by simpa using (List.getElem?_eq_some_iff.1 he).1]
        simp[hij]
      rw[this];exact h3
    rw[hmod];intro e' he'
    rcases List.mem_or_eq_of_mem_set he' with h | rfl
    · exact h4 e' h
    exact h4 e (List.mem_of_getElem? he)
  have hfk:=run_findKey (P:=P) (w:=w) hi hf;have hf1:=setBlock_fr w r (.map (es.push { key:=.int .u32 (k:Int),val:=v,born:=clock }) (clock+1)) hnc;refine ⟨_,?_,hf1,?_⟩
  · simp only[Instr.mapUpdate,Sem.run_bind,run_underlying hu,Result.andThen_ok,run_getObj h1,hck,hfk,run_setMap h1]
  refine ⟨_,clock+1,setBlock_at w r _ (lt_of_block h1),?_,?_⟩
  · rw[Array.toList_push,kvSet_push hn];exact (h2.push hv hk).kept hf1 (by intro z hz;simp at hz;subst hz;exact hA) (fun _ h=>h)
  refine ⟨?_,?_,kvSet_nodup h5⟩
  · rw [Array.toList_push, List.map_append, List.nodup_append];refine ⟨h3, by simp, ?_⟩;intro b hb c hc e;simp at hc
    obtain ⟨e0,he0,rfl⟩:=List.mem_map.1 hb;have:=h4 e0 he0;omega
  intro e' he';rw[Array.toList_push,List.mem_append] at he'
  rcases he' with h | h
  · have:=h4 e' h;omega
  simp at h;subst h;simp
theorem wp_mapSet {T kt et:TypeId} {r k:Nat} {v:Value} {A:Nat→Prop} {kv:List (Nat × V)} {x:Option (List UInt8)} {o1 o2 o3:Operand} (hT:mapOf P T kt et=true) (h1:a.eval o1 = .map (some r)) (h2:a.eval o2 = .int .u32 (k:Int)) (h3:a.eval o3=v)
    (hm:TagM w A r kv) (hk:k < 4294967296) (hv:OctsV w A v x) (hA:¬ A r) (hK:∀ w',Fr [⟨r,0,0⟩] w w'→TagM w' A r (kvSet kv k (.oct x))→K (a.put d undef) w') :
    OW P ⟨d,.mapUpdate T o1 o2 o3,t,p,af,g⟩ a w K Q:=by
  obtain ⟨w',hr,hf,hm'⟩:=run_mapSet (P:=P) hT hm hk hv hA
  constructor
  unfold Oper.wp;have:(execOp a.eval ⟨d,.mapUpdate T o1 o2 o3,t,p,af,g⟩).run P w = .ok .skip w':=by
    simp only[execOp,h1,h2,h3,Sem.run_bind,hr,Result.andThen_ok,Sem.run_pure]
  rw[this];exact hK w' hf hm'
theorem wp_mapGet {T kt et:TypeId} {r k:Nat} {A:Nat→Prop} {kv:List (Nat × V)} {x:V} {o1 o2:Operand} (hT:mapOf P T kt et=true) (h1:a.eval o1 = .map (some r)) (h2:a.eval o2 = .int .u32 (k:Int)) (hm:TagM w A r kv) (hk:(k,x) ∈ kv)
    (hK:∀ v y,x = .oct y→OctsV w A v y→K (a.put d v) w):OW P ⟨d,.lookup T o1 o2 false,t,p,af,g⟩ a w K Q:=by
  obtain ⟨hu,hi⟩:=under_map hT;obtain ⟨es,clock,h3,h4,h5,h6,h7⟩:=hm;have hck:∀ b,(Instr.checkKey b 10000 kt (.int .u32 (k:Int))).run P w = .ok () w:=fun b=>run_checkKey hi 9999
  rcases find_tags (q:=.u32) (k:=k) (i:=0) h4 with ⟨j,e,he,hke,hf⟩ | ⟨_,hn⟩
  · have hfk := run_findKey (P := P) (w := w) hi hf;obtain ⟨k', x', hkv, _, hke', ho⟩ := h4.at he;obtain rfl : k' = k := by rw [hke] at hke'; simp at hke'; omega
    have hx:x = .oct x':=by
      have hm1:(k',V.oct x') ∈ kv:=List.mem_of_getElem? hkv;obtain ⟨i1,hi1⟩:=List.getElem?_of_mem hk;obtain ⟨i2,hi2⟩:=List.getElem?_of_mem hm1;have e1:(kv.map (·.1))[i1]?=some k':=by rw[List.getElem?_map,hi1];rfl
      have e2:(kv.map (·.1))[i2]?=some k':=by rw[List.getElem?_map,hi2];rfl
      have:i1=i2:=(List.getElem?_inj (List.getElem?_eq_some_iff.1 e1).1 h7).1 (e1.trans e2.symm);subst this;rw[hi1] at hi2
      simpa using hi2
    refine wp_val (v:=e.val) (w':=w) ?_ (hK _ x' hx ho);simp only[execOp,h1,h2,Instr.lookup,Sem.run_bind,run_underlying hu,Result.andThen_ok,run_getObj h3,hck,hfk,Sem.run_pure];simp
  exact absurd rfl (hn _ hk)
theorem wp_lenMap {T kt et:TypeId} {q:Option Nat} {A:Nat→Prop} {kv:List (Nat × V)} {x:Operand} (hT:mapOf P T kt et=true) (hx:a.eval x = .map q) (hm:(q=none∧kv=[])∨∃ r,q=some r∧TagM w A r kv)
    (hK:K (a.put d (.int .i64 kv.length)) w):OW P ⟨d,.call ⟨.builtin .len,#[x],#[T]⟩,t,p,af,g⟩ a w K Q:=by
  obtain ⟨hu,hi⟩:=under_map hT;refine wp_val (v:=.int .i64 kv.length) (w':=w) ?_ hK
  rcases hm with ⟨rfl,rfl⟩ | ⟨r,rfl,es,clock,h3,h4,_⟩
  · simp[execOp,resolve,invoke,builtin,Builtin.len_,hx,run_underlying hu,goInt]
  have:=h4.len;simp[execOp,resolve,invoke,builtin,Builtin.len_,hx,run_underlying hu,run_getObj h3,goInt,← this]
end Go.Kq

namespace Go.Kq
open Go Go.Proofs
def uvGo:Nat→List UInt8→Option (Nat × Nat)
  | 0,_=>none
  | _+1,[]=>none
  | 1,c::_=>if c.toNat≤15 then some (c.toNat,1) else none
  | k + 2, c :: r => if c.toNat < 128 then some (c.toNat, 1) else
      match uvGo (k+1) r with
      | none=>none
      | some (x,n)=>some (c.toNat % 128+128 * x,n+1)
def uv (l:List UInt8):Option (Nat × Nat):=uvGo 5 l
theorem uvGo_spec:∀ (k:Nat) (l:List UInt8) (x n:Nat),uvGo k l=some (x,n)→x * 8 < 128 ^ k∧1≤n∧n≤l.length∧n≤k
  | 0,_,_,_,h=>by simp[uvGo] at h
  | _+1,[],_,_,h=>by simp[uvGo] at h
  | 1, c :: r, x, n, h => by
    simp only[uvGo] at h
    split at h
    · simp at h;obtain ⟨rfl,rfl⟩:=h;simp;omega
    cases h
  | k + 2, c :: r, x, n, h => by
    simp only[uvGo] at h;have hp:128 ^ (k+2)=128 * 128 ^ (k+1):=by rw[Nat.pow_succ];omega
    have hp1:128≤128 ^ (k+1):=by
      have:=Nat.pow_le_pow_right (show 1≤128 by omega) (show 1≤k+1 by omega)
      simpa using this
    split at h
    · simp at h; obtain ⟨rfl, rfl⟩ := h
      rw[hp];simp only[List.length_cons];refine ⟨by omega,by omega,by omega,by omega⟩
    cases hu:uvGo (k+1) r with
    | none=>rw[hu] at h;cases h
    | some y =>
      obtain ⟨y,m⟩:=y;rw[hu] at h;simp at h
      obtain ⟨rfl,rfl⟩:=h;have ih:=uvGo_spec (k+1) r y m hu;rw[hp];simp only[List.length_cons];obtain ⟨i1,i2,i3,i4⟩:=ih;refine ⟨by omega,by omega,by omega,by omega⟩
theorem uv_spec {l:List UInt8} {x n:Nat} (h:uv l=some (x,n)):x < 4294967296∧1≤n∧n≤l.length:=by
  have:=uvGo_spec 5 l x n h;have e:(128:Nat) ^ 5=34359738368:=by decide
  rw[e] at this;exact ⟨by omega,this.2.1,this.2.2.1⟩
section
variable {P:Program} {a:Act} {w:World} {K:Act→World→Prop} {Q:Exit→Act→World→Prop} {d:Option Tmp} {t:TypeId} {p:String} {af:Array Edge} {g:Option (Nat × Bool)}
theorem and127 (c:Nat) (h:c < 256):bits .and .u8 (c:Int) 127=((c % 128:Nat):Int):=by
  have:=bits_mask .u8 8 (by decide) wraps_u8 7 (by decide) (c:Int) (by omega) (by omega);simp at this
  rw[this];omega
set_option maxRecDepth 100000 in
theorem nat_and128:∀ c,c < 256→c &&& 128=if c < 128 then 0 else 128:=by decide
theorem and128 (c:Nat) (h:c < 256):bits .and .u8 (c:Int) 128=if c < 128 then 0 else 128:=by
  have:=(bits_nat .u8 8 (by decide) wraps_u8 c 128 (by omega) (by omega)).1;rw[show ((128:Nat):Int)=128 from rfl] at this;rw[this,nat_and128 c h]
  split <;> rfl
theorem wp_and {s u:TypeId} {x y:Operand} {k1:IntKind} {i j:Int} (hx:a.eval x = .int k1 i) (hy:a.eval y = .int k1 j) (k:K (a.put d (.int k1 (bits .and k1 i j))) w) :
    OW P ⟨d,.binOp .and s x y u,t,p,af,g⟩ a w K Q:=by
  have hr:(binOp .and s (.int k1 i) (.int k1 j)).run P w = .ok (.int k1 (bits .and k1 i j)) w:=by
    simp only[binOp,ne_eq,not_true,if_false];rfl
  exact wp_val (by simp[execOp,hx,hy,eqGuard,hr]) k
theorem wp_or {s u:TypeId} {x y:Operand} {k1:IntKind} {i j:Int} (hx:a.eval x = .int k1 i) (hy:a.eval y = .int k1 j) (k:K (a.put d (.int k1 (bits .or k1 i j))) w) :
    OW P ⟨d,.binOp .or s x y u,t,p,af,g⟩ a w K Q:=by
  have hr:(binOp .or s (.int k1 i) (.int k1 j)).run P w = .ok (.int k1 (bits .or k1 i j)) w:=by
    simp only[binOp,ne_eq,not_true,if_false];rfl
  exact wp_val (by simp[execOp,hx,hy,eqGuard,hr]) k
theorem wp_shl {s u:TypeId} {x y:Operand} {k1 k2:IntKind} {i:Int} {n:Nat} (hx:a.eval x = .int k1 i) (hy:a.eval y = .int k2 n) (hn:n≤k1.bits) (k:K (a.put d (.int k1 (k1.wrap (i * 2 ^ n)))) w) :
    OW P ⟨d,.binOp .shl s x y u,t,p,af,g⟩ a w K Q:=by
  have hr:(Op.shift .shl k1 i k2 (n:Int)).run P w = .ok (.int k1 (k1.wrap (i * 2 ^ n))) w:=by
    unfold Op.shift;rw[if_neg (by omega)];simp[Nat.min_eq_left hn]
  have hb:(binOp .shl s (.int k1 i) (.int k2 (n:Int))).run P w = .ok (.int k1 (k1.wrap (i * 2 ^ n))) w:=by
    simp only[binOp];exact hr
  exact wp_val (by simp[execOp,hx,hy,eqGuard,hb]) k
structure UvE (a:Act) (b o n cap:Nat):Prop where
  size:a.tmps.size=87
  defers:a.defers=[]
  src:get a 0 = .slice (some ⟨b,o,none⟩) n cap
  over:get a 5 = .int .i64 0
theorem UvE.kept {a a':Act} {b o n cap:Nat} (h:UvE a b o n cap) (hk:Kept 6 a a'):UvE a' b o n cap :=
  ⟨hk.size.trans h.size,hk.defers.trans h.defers,(hk.get 0 (by omega)).trans h.src,(hk.get 5 (by omega)).trans h.over⟩
theorem UvE.put {a:Act} {b o n cap:Nat} (h:UvE a b o n cap) {i:Nat} (h0:i ≠ 0) (h5:i ≠ 5) (v:Value):UvE (a.put (some i) v) b o n cap :=
  ⟨(sPu _ _ _).trans h.size,(dPu _ _ _).trans h.defers,(gPn h0).trans h.src,(gPn h5).trans h.over⟩
theorem uv_test {T3 T5 T22 et:TypeId} {b o n cap i k m c acc:Nat} {i5 i6 i7:Nat} {t1 t2 t3 t4 t5 t6 t7 t8 t9 t10 t11:TypeId} {p1 p2 p3 p4 p5 p6 p7 p8 p9 p10 p11:String} {e1 e2 e3 e4 e5 e6 e7 e8 e9 e10 e11:Array Edge} {k2:Nat} {C:Code}
    (hs:sliceOf P T22 et 1 1=true) (h5:scal P T5=true)
    (hE:UvE a b o n cap) (hc:w.cell? ⟨b,o+i,none⟩=some (.int .u8 c)) (hcl:c < 256) (hi:i < n) (h4:get a 4 = .int .u32 acc) (hm:6≤m) (hm2:m+9 < 87) (hki:k=i+1) (hk2:k2=i+2)
    (hok:c < 128→∀ a',a'.tmps.size=87→a'.defers=[]→get a' 2 = .int .u32 acc→get a' 3 = .int .i64 (k:Int)→Q .ret a' w)
    (hgo:128≤c→n < k2→∀ a',UvE a' b o n cap→Q (.goto 0) a' w)
    (hon:128≤c→k2≤n→∀ a',UvE a' b o n cap→get a' 4 = .int .u32 acc→C.wp P Q a' w) :
    (Code.seq (Code.seq (Code.region i5 ⟨[oM m 0 t1 p1 e1,⟨some (m+1),.indexAddr T22 (.tmp m) (.const (.int .i64 i)),t2,p2,e2,none⟩,
    oL (m+2) T5 (m+1) t3 p3 e3,⟨some (m+3),.binOp .and T5 (.tmp (m+2)) (.const (.int .u8 128)) T5,t4,p4,e4,none⟩,⟨some (m+4),.binOp .eql T5 (.tmp (m+3)) (.const (.int .u8 0)) T5,t5,p5,e5,none⟩]⟩ false) (.cond (.tmp (m+4)) (.seq (Code.region i6 ⟨[oM (m+5) 4 t6 p6 e6,
    oT 2 (m+5) t7 p7 e7,
    oA 3 (.const (.int .i64 k)) t8 p8 e8]⟩ false) .ret) (.seq (Code.region i7 ⟨[oM (m+6) 0 t9 p9 e9,⟨some (m+7),.call ⟨.builtin .len,#[(.tmp (m+6))],#[T22]⟩,t10,p10,e10,none⟩,⟨some (m+8),.binOp .lss T3 (.tmp (m+7)) (.const (.int .i64 k2)) T3,t11,p11,e11,none⟩]⟩ false) (.cond (.tmp (m+8)) (.goto 0) .skip)))) C).wp P Q a w:=by
  have hsz:=hE.size;refine tId (wp_seq_k fun K1 hK1=>?_);refine wS fun K2 hK2=>?_;rw[wCo,wMw,eTm,hE.src,wCo];refine wp_indexAddr hs (b:=b) (o:=o) (len:=n) (cap:=cap) (k1:=.i64) (i:=i) (by rw[eTm,gQ]) rfl (by omega) (by omega) ?_;refine wC (wp_load h5 (b:=b) (o:=o+i) (v:=.int .u8 c) (by rw[eTm,gQ];simp) hc ?_);refine wC (wp_and (k1:=.u8) (i:=c) (j:=128) (by rw[eTm,gQ]) rfl ?_);rw[and128 c hcl,wCo];refine wp_eql (k1:=.u8) (i:=if c < 128 then 0 else 128) (j:=0) (by rw[eTm,gQ]) rfl ?_;rw[wNi];have hb:((if c < 128 then (0:Int) else 128)==0)=decide (c < 128):=by by_cases h:c < 128 <;> simp[h]
  rw[hb];generalize ha1:(((((a.put (some m) (.slice (some ⟨b,o,none⟩) n cap)).put (some (m+1)) (.pointer (some ⟨b,o+(i:Int).toNat * 1,none⟩))).put (some (m+2)) (.int .u8 c)).put (some (m+3)) (.int .u8 (if c < 128 then 0 else 128))).put (some (m+4)) (.bool (decide (c < 128))))=a1;have k1:Kept 6 a a1:=by subst ha1;exact ((((Kept.put0 (by omega) _).put (by omega) _).put (by omega) _).put (by omega) _).put (by omega) _
  have q1:get a1 (m+4) = .bool (decide (c < 128)):=by subst ha1;exact gQ
  have hE1:=hE.kept k1;have hz1:=hE1.size;have h41:get a1 4 = .int .u32 acc:=by rw[k1.get 4 (by omega),h4]
  refine hK2 a1 w ?_;refine wp_cond_split (t:=decide (c < 128)) (by rw[eTm,q1]) (fun h=>?_) fun h=>?_
  · refine wp_seq_k fun K3 hK3 => ?_;refine wp_reg ?_;rw [wCo, wMw, eTm, h41, wCo, wAg, eTm, gQ, wCo, wAg, eCo, wNi];refine hK3 _ w (wp_ret ?_);refine hok (by simpa using h) _ (by simp only [sPu]; exact hz1) (by simp only [dPu]; exact hE1.defers) ?_ ?_
    · rw[gR,gQ]
    rw[gQ]
  have hc128:128≤c:=by simp at h;exact h
  refine wS fun K3 hK3=>?_;rw[wCo,wMw,eTm,hE1.src,wCo];refine wp_len hs (by rw[eTm,gQ]) ?_;refine wC (wp_lss (k1:=.i64) (i:=n) (j:=k2) (by rw[eTm,gQ]) rfl ?_);rw[wNi];generalize ha2:((a1.put (some (m+6)) (.slice (some ⟨b,o,none⟩) n cap)).put (some (m+7)) (.int .i64 n)).put (some (m+8)) (.bool (decide ((n:Int) < k2)))=a2;have k3:Kept 6 a1 a2:=by subst ha2;exact ((Kept.put0 (by omega) _).put (by omega) _).put (by omega) _
  have q2:get a2 (m+8) = .bool (decide ((n:Int) < k2)):=by subst ha2;exact gQ
  have hE2:=hE1.kept k3;refine hK3 a2 w ?_;refine wp_cond_split (t:=decide ((n:Int) < k2)) (by rw[eTm,q2]) (fun h=>wp_goto ?_) fun h=>wp_skip (hK1 a2 w (tUp ?_))
  · exact hgo hc128 (by simp at h;omega) a2 hE2
  exact hon hc128 (by simp at h;omega) a2 hE2 (by rw[k3.get 4 (by omega),h41])
theorem uv_add {T5 T22 T59 T129 et:TypeId} {b o n cap i m c acc sh:Nat} {i8:Nat} {t1 t2 t3 t4 t5 t6 t7 t8 t9:TypeId} {p1 p2 p3 p4 p5 p6 p7 p8 p9:String} {e1 e2 e3 e4 e5 e6 e7 e8 e9:Array Edge} {K:Act→World→Prop}
    (hs:sliceOf P T22 et 1 1=true) (h5:scal P T5=true) (h5i:intOf P T5 .u8=true) (h59:intOf P T59 .u32=true)
    (hE:UvE a b o n cap) (hc:w.cell? ⟨b,o+i,none⟩=some (.int .u8 c)) (hcl:c < 256) (hi:i < n) (h4:get a 4 = .int .u32 acc) (hacc:acc < 2 ^ sh) (hsh:sh≤21) (hm:6≤m) (hm2:m+8 < 87)
    (hk:∀ a',UvE a' b o n cap→get a' 4 = .int .u32 ((acc+(c % 128) * 2 ^ sh:Nat):Int)→K a' w) :
    (Code.region i8 ⟨[oM m 4 t1 p1 e1,
    oM (m+1) 0 t2 p2 e2,⟨some (m+2),.indexAddr T22 (.tmp (m+1)) (.const (.int .i64 i)),t3,p3,e3,none⟩,
    oL (m+3) T5 (m+2) t4 p4 e4,⟨some (m+4),.binOp .and T5 (.tmp (m+3)) (.const (.int .u8 127)) T5,t5,p5,e5,none⟩,⟨some (m+5),.convert T5 T59 (.tmp (m+4)),t6,p6,e6,none⟩,⟨some (m+6),.binOp .shl T59 (.tmp (m+5)) (.const (.int .u64 sh)) T129,t7,p7,e7,none⟩,⟨some (m+7),.binOp .or T59 (.tmp m) (.tmp (m+6)) T59,t8,p8,e8,none⟩,
    oT 4 (m+7) t9 p9 e9]⟩ false).wp P (Exit.then K Q) a w:=by
  have hsz:=hE.size;refine wp_reg ?_;rw[wCo,wMw,eTm,h4,wCo,wMw,eTm,gR,hE.src,wCo];refine wp_indexAddr hs (b:=b) (o:=o) (len:=n) (cap:=cap) (k1:=.i64) (i:=i) (by rw[eTm,gQ]) rfl (by omega) (by omega) ?_;refine wC (wp_load h5 (b:=b) (o:=o+i) (v:=.int .u8 c) (by rw[eTm,gQ];simp) hc ?_);refine wC (wp_and (k1:=.u8) (i:=c) (j:=127) (by rw[eTm,gQ]) rfl ?_);rw[and127 c hcl,wCo];have hc7:c % 128 < 128:=Nat.mod_lt _ (by omega);generalize c % 128=c' at hc7 hk ⊢;refine wCv (k1:=.u8) (i:=(c':Int)) h5i h59 (by rw[eTm,gQ]) ?_;rw[IntKind.wrap_u32,Int.emod_eq_of_lt (by omega) (by omega),wCo];have hp21:2 ^ sh≤2 ^ 21:=Nat.pow_le_pow_right (by omega) hsh;have e21:(2:Nat) ^ 21=2097152:=by decide
  have hprod:c' * 2 ^ sh≤127 * 2 ^ sh:=Nat.mul_le_mul_right _ (by omega);refine wp_shl (k1:=.u32) (i:=(c':Int)) (n:=sh) (by rw[eTm,gQ]) rfl (by show sh≤32;omega) ?_;have ecast:((c':Int) * 2 ^ sh)=((c' * 2 ^ sh:Nat):Int):=by push_cast;rfl
  rw[ecast,IntKind.wrap_u32,Int.emod_eq_of_lt (by omega) (by omega),wCo];have hdvd:((c' * 2 ^ sh:Nat):Int) % 2 ^ sh=0:=by
    have:((c' * 2 ^ sh) % 2 ^ sh:Nat)=0:=Nat.mul_mod_left _ _
    exact_mod_cast congrArg (fun z:Nat=>(z:Int)) this
  refine wp_or (k1:=.u32) (i:=(acc:Int)) (j:=((c' * 2 ^ sh:Nat):Int)) (by rw[eTm,gR,gR,gR,gR,gR,gR,gQ])
    (by rw[eTm,gQ]) ?_
  have hor:bits .or .u32 (acc:Int) ((c' * 2 ^ sh:Nat):Int)=((acc+c' * 2 ^ sh:Nat):Int):=by
    rw[bits_join_low .u32 32 (by decide) wraps_u32 sh (acc:Int) ((c' * 2 ^ sh:Nat):Int) (by omega) (by exact_mod_cast hacc) (by omega) (by omega) hdvd (by omega)]
    push_cast;rfl
  rw[hor,wCo,wAg,eTm,gQ,wNi];refine hk _ ?_ (gQ);exact (((((((((hE.put (by omega) (by omega) _).put (by omega) (by omega) _).put (by omega) (by omega) _).put (by omega) (by omega) _).put (by omega) (by omega) _).put (by omega) (by omega) _).put (by omega) (by omega) _).put (by omega) (by omega) _).put (by omega) (by omega) _)
end
structure UvM (P:Program) (f:FuncId):Prop where
  enters:Enters P f
  call:∀ w A v xs,OctE w A v xs→Calls P f #[v] w fun e w'=>w'=w∧match uv xs with
    | some (x,n)=>e = .returned (.tuple #[.int .u32 x,.int .i64 n])
    | none=>∃ z:Int,z≤0∧e = .returned (.tuple #[.int .u32 0,.int .i64 z])
theorem uv_ok {k:Nat} {c:UInt8} {r:List UInt8} (h:c.toNat < 128):uvGo (k+2) (c::r)=some (c.toNat,1):=by simp[uvGo,h]
theorem uv_on {k:Nat} {c:UInt8} {r:List UInt8} (h:128≤c.toNat):uvGo (k+2) (c::r)=(uvGo (k+1) r).map fun y=>(c.toNat % 128+128 * y.1,y.2+1):=by
  have h':¬ c.toNat < 128:=by omega
  simp only[uvGo,h',if_false]
  cases uvGo (k+1) r with
  | none=>rfl
  | some y=>rfl
theorem uv_last {c:UInt8} {r:List UInt8} (h:c.toNat≤15):uvGo 1 (c::r)=some (c.toNat,1):=by simp[uvGo,h]
theorem uv_lastn {c:UInt8} {r:List UInt8} (h:¬ c.toNat≤15):uvGo 1 (c::r)=none:=by simp[uvGo,h]
theorem uv_none {k:Nat}:uvGo k []=none:=by cases k <;> rfl
set_option maxRecDepth 10000 in
theorem uv_m {P:Program} {f:FuncId} {fn:Func} {et:TypeId} {T3 T5 T22 T59 T129:TypeId} {i0 i1 i2 i3 i4 i5 i6 i7 i8 i9 i10 i11 i12 i13 i14 i15 i16 i17 i18 i19 i20 i21 i22 i23 i24:Nat}
    {t0 t1 t2 t3 t4 t5 t6 t7 t8 t9 t10 t11 t12 t13 t14 t15 t16 t17 t18 t19 t20 t21 t22 t23 t24 t25 t26 t27 t28 t29 t30 t31 t32 t33 t34 t35 t36 t37 t38 t39 t40 t41 t42 t43 t44 t45 t46 t47 t48 t49 t50 t51 t52 t53 t54 t55 t56 t57 t58 t59 t60 t61 t62 t63 t64 t65 t66 t67 t68 t69 t70 t71 t72 t73 t74 t75 t76 t77 t78 t79 t80 t81 t82 t83 t84 t85 t86 t87 t88 t89 t90 t91 t92 t93 t94 t95 t96 t97 t98 t99 t100 t101 t102:TypeId} {p0 p1 p2 p3 p4 p5 p6 p7 p8 p9 p10 p11 p12 p13 p14 p15 p16 p17 p18 p19 p20 p21 p22 p23 p24 p25 p26 p27 p28 p29 p30 p31 p32 p33 p34 p35 p36 p37 p38 p39 p40 p41 p42 p43 p44 p45 p46 p47 p48 p49 p50 p51 p52 p53 p54 p55 p56 p57 p58 p59 p60 p61 p62 p63 p64 p65 p66 p67 p68 p69 p70 p71 p72 p73 p74 p75 p76 p77 p78 p79 p80 p81 p82 p83 p84 p85 p86 p87 p88 p89 p90 p91 p92 p93 p94 p95 p96 p97 p98 p99 p100 p101 p102:String} {e0 e1 e2 e3 e4 e5 e6 e7 e8 e9 e10 e11 e12 e13 e14 e15 e16 e17 e18 e19 e20 e21 e22 e23 e24 e25 e26 e27 e28 e29 e30 e31 e32 e33 e34 e35 e36 e37 e38 e39 e40 e41 e42 e43 e44 e45 e46 e47 e48 e49 e50 e51 e52 e53 e54 e55 e56 e57 e58 e59 e60 e61 e62 e63 e64 e65 e66 e67 e68 e69 e70 e71 e72 e73 e74 e75 e76 e77 e78 e79 e80 e81 e82 e83 e84 e85 e86 e87 e88 e89 e90 e91 e92 e93 e94 e95 e96 e97 e98 e99 e100 e101 e102:Array Edge}
    (hf:P.funcs[f]?=some fn) (hname:(fn.name == "runtime.NumGoroutine")=false) (hres:fn.results = #[.tmp 2,.tmp 3]) (hN:fn.ntmps=87)
    (hbody:fn.body=some (.seq (Code.region i0 ⟨[oA 2 (.const (.int .u32 0)) t0 p0 e0,
    oA 3 (.const (.int .i64 0)) t1 p1 e1]⟩ false)
  (.scope (.seq (Code.region i1 ⟨[oA 4 (.const (.int .u32 0)) t2 p2 e2]⟩ false) (.seq (Code.region i2 ⟨[oA 5 (.const (.int .i64 0)) t3 p3 e3]⟩ false) (.seq (.seq (Code.region i3 ⟨[oM 6 0 t4 p4 e4,⟨some 7,.call ⟨.builtin .len,#[(.tmp 6)],#[T22]⟩,t5,p5,e5,none⟩,⟨some 8,.binOp .lss T3 (.tmp 7) (.const (.int .i64 1)) T3,t6,p6,e6,none⟩]⟩ false) (.cond (.tmp 8) (.goto 0) .skip)) (.seq (Code.region i4 ⟨[oM 9 0 t7 p7 e7,⟨some 10,.indexAddr T22 (.tmp 9) (.const (.int .i64 0)),t8,p8,e8,none⟩,
    oL 11 T5 10 t9 p9 e9,⟨some 12,.binOp .and T5 (.tmp 11) (.const (.int .u8 127)) T5,t10,p10,e10,none⟩,⟨some 13,.convert T5 T59 (.tmp 12),t11,p11,e11,none⟩,
    oT 4 13 t12 p12 e12]⟩ false) (.seq (.seq (Code.region i5 ⟨[oM 14 0 t13 p13 e13,⟨some 15,.indexAddr T22 (.tmp 14) (.const (.int .i64 0)),t14,p14,e14,none⟩,
    oL 16 T5 15 t15 p15 e15,⟨some 17,.binOp .and T5 (.tmp 16) (.const (.int .u8 128)) T5,t16,p16,e16,none⟩,⟨some 18,.binOp .eql T5 (.tmp 17) (.const (.int .u8 0)) T5,t17,p17,e17,none⟩]⟩ false) (.cond (.tmp 18) (.seq (Code.region i6 ⟨[oM 19 4 t18 p18 e18,
    oT 2 19 t19 p19 e19,
    oA 3 (.const (.int .i64 1)) t20 p20 e20]⟩ false) .ret) (.seq (Code.region i7 ⟨[oM 20 0 t21 p21 e21,⟨some 21,.call ⟨.builtin .len,#[(.tmp 20)],#[T22]⟩,t22,p22,e22,none⟩,⟨some 22,.binOp .lss T3 (.tmp 21) (.const (.int .i64 2)) T3,t23,p23,e23,none⟩]⟩ false) (.cond (.tmp 22) (.goto 0) .skip)))) (.seq (Code.region i8 ⟨[oM 23 4 t24 p24 e24,
    oM 24 0 t25 p25 e25,⟨some 25,.indexAddr T22 (.tmp 24) (.const (.int .i64 1)),t26,p26,e26,none⟩,
    oL 26 T5 25 t27 p27 e27,⟨some 27,.binOp .and T5 (.tmp 26) (.const (.int .u8 127)) T5,t28,p28,e28,none⟩,⟨some 28,.convert T5 T59 (.tmp 27),t29,p29,e29,none⟩,⟨some 29,.binOp .shl T59 (.tmp 28) (.const (.int .u64 7)) T129,t30,p30,e30,none⟩,⟨some 30,.binOp .or T59 (.tmp 23) (.tmp 29) T59,t31,p31,e31,none⟩,
    oT 4 30 t32 p32 e32]⟩ false) (.seq (.seq (Code.region i9 ⟨[oM 31 0 t33 p33 e33,⟨some 32,.indexAddr T22 (.tmp 31) (.const (.int .i64 1)),t34,p34,e34,none⟩,
    oL 33 T5 32 t35 p35 e35,⟨some 34,.binOp .and T5 (.tmp 33) (.const (.int .u8 128)) T5,t36,p36,e36,none⟩,⟨some 35,.binOp .eql T5 (.tmp 34) (.const (.int .u8 0)) T5,t37,p37,e37,none⟩]⟩ false) (.cond (.tmp 35) (.seq (Code.region i10 ⟨[oM 36 4 t38 p38 e38,
    oT 2 36 t39 p39 e39,
    oA 3 (.const (.int .i64 2)) t40 p40 e40]⟩ false) .ret) (.seq (Code.region i11 ⟨[oM 37 0 t41 p41 e41,⟨some 38,.call ⟨.builtin .len,#[(.tmp 37)],#[T22]⟩,t42,p42,e42,none⟩,⟨some 39,.binOp .lss T3 (.tmp 38) (.const (.int .i64 3)) T3,t43,p43,e43,none⟩]⟩ false) (.cond (.tmp 39) (.goto 0) .skip)))) (.seq (Code.region i12 ⟨[oM 40 4 t44 p44 e44,
    oM 41 0 t45 p45 e45,⟨some 42,.indexAddr T22 (.tmp 41) (.const (.int .i64 2)),t46,p46,e46,none⟩,
    oL 43 T5 42 t47 p47 e47,⟨some 44,.binOp .and T5 (.tmp 43) (.const (.int .u8 127)) T5,t48,p48,e48,none⟩,⟨some 45,.convert T5 T59 (.tmp 44),t49,p49,e49,none⟩,⟨some 46,.binOp .shl T59 (.tmp 45) (.const (.int .u64 14)) T129,t50,p50,e50,none⟩,⟨some 47,.binOp .or T59 (.tmp 40) (.tmp 46) T59,t51,p51,e51,none⟩,
    oT 4 47 t52 p52 e52]⟩ false) (.seq (.seq (Code.region i13 ⟨[oM 48 0 t53 p53 e53,⟨some 49,.indexAddr T22 (.tmp 48) (.const (.int .i64 2)),t54,p54,e54,none⟩,
    oL 50 T5 49 t55 p55 e55,⟨some 51,.binOp .and T5 (.tmp 50) (.const (.int .u8 128)) T5,t56,p56,e56,none⟩,⟨some 52,.binOp .eql T5 (.tmp 51) (.const (.int .u8 0)) T5,t57,p57,e57,none⟩]⟩ false) (.cond (.tmp 52) (.seq (Code.region i14 ⟨[oM 53 4 t58 p58 e58,
    oT 2 53 t59 p59 e59,
    oA 3 (.const (.int .i64 3)) t60 p60 e60]⟩ false) .ret) (.seq (Code.region i15 ⟨[oM 54 0 t61 p61 e61,⟨some 55,.call ⟨.builtin .len,#[(.tmp 54)],#[T22]⟩,t62,p62,e62,none⟩,⟨some 56,.binOp .lss T3 (.tmp 55) (.const (.int .i64 4)) T3,t63,p63,e63,none⟩]⟩ false) (.cond (.tmp 56) (.goto 0) .skip)))) (.seq (Code.region i16 ⟨[oM 57 4 t64 p64 e64,
    oM 58 0 t65 p65 e65,⟨some 59,.indexAddr T22 (.tmp 58) (.const (.int .i64 3)),t66,p66,e66,none⟩,
    oL 60 T5 59 t67 p67 e67,⟨some 61,.binOp .and T5 (.tmp 60) (.const (.int .u8 127)) T5,t68,p68,e68,none⟩,⟨some 62,.convert T5 T59 (.tmp 61),t69,p69,e69,none⟩,⟨some 63,.binOp .shl T59 (.tmp 62) (.const (.int .u64 21)) T129,t70,p70,e70,none⟩,⟨some 64,.binOp .or T59 (.tmp 57) (.tmp 63) T59,t71,p71,e71,none⟩,
    oT 4 64 t72 p72 e72]⟩ false) (.seq (.seq (Code.region i17 ⟨[oM 65 0 t73 p73 e73,⟨some 66,.indexAddr T22 (.tmp 65) (.const (.int .i64 3)),t74,p74,e74,none⟩,
    oL 67 T5 66 t75 p75 e75,⟨some 68,.binOp .and T5 (.tmp 67) (.const (.int .u8 128)) T5,t76,p76,e76,none⟩,⟨some 69,.binOp .eql T5 (.tmp 68) (.const (.int .u8 0)) T5,t77,p77,e77,none⟩]⟩ false) (.cond (.tmp 69) (.seq (Code.region i18 ⟨[oM 70 4 t78 p78 e78,
    oT 2 70 t79 p79 e79,
    oA 3 (.const (.int .i64 4)) t80 p80 e80]⟩ false) .ret) (.seq (Code.region i19 ⟨[oM 71 0 t81 p81 e81,⟨some 72,.call ⟨.builtin .len,#[(.tmp 71)],#[T22]⟩,t82,p82,e82,none⟩,⟨some 73,.binOp .lss T3 (.tmp 72) (.const (.int .i64 5)) T3,t83,p83,e83,none⟩]⟩ false) (.cond (.tmp 73) (.goto 0) .skip)))) (.seq (Code.region i20 ⟨[oM 74 4 t84 p84 e84,
    oM 75 0 t85 p85 e85,⟨some 76,.indexAddr T22 (.tmp 75) (.const (.int .i64 4)),t86,p86,e86,none⟩,
    oL 77 T5 76 t87 p87 e87,⟨some 78,.convert T5 T59 (.tmp 77),t88,p88,e88,none⟩,⟨some 79,.binOp .shl T59 (.tmp 78) (.const (.int .u64 28)) T129,t89,p89,e89,none⟩,⟨some 80,.binOp .or T59 (.tmp 74) (.tmp 79) T59,t90,p90,e90,none⟩,
    oT 4 80 t91 p91 e91]⟩ false) (.seq (.seq (Code.region i21 ⟨[oM 81 0 t92 p92 e92,⟨some 82,.indexAddr T22 (.tmp 81) (.const (.int .i64 4)),t93,p93,e93,none⟩,
    oL 83 T5 82 t94 p94 e94,⟨some 84,.binOp .leq T5 (.tmp 83) (.const (.int .u8 15)) T5,t95,p95,e95,none⟩]⟩ false) (.cond (.tmp 84) (.seq (Code.region i22 ⟨[oM 85 4 t96 p96 e96,
    oT 2 85 t97 p97 e97,
    oA 3 (.const (.int .i64 5)) t98 p98 e98]⟩ false) .ret) .skip)) (.seq (Code.region i23 ⟨[oA 5 (.const (.int .i64 (-5))) t99 p99 e99]⟩ false) (.seq (.label 0) (.seq (Code.region i24 ⟨[oM 86 5 t100 p100 e100,
    oA 2 (.const (.int .u32 0)) t101 p101 e101,
    oT 3 86 t102 p102 e102]⟩ false) .ret)))))))))))))))))))
    (hs:sliceOf P T22 et 1 1=true) (h5:scal P T5=true) (h5i:intOf P T5 .u8=true) (h59:intOf P T59 .u32=true):UvM P f:=by
  refine ⟨enters_of hf hname hbody,?_⟩;intro w A v xs ho;obtain ⟨q,cap,rfl,hq⟩:=ho.slice;refine calls_of_wp hf hbody ?_;generalize ha0:({ tmps:=#[Value.slice q xs.length cap]++Array.replicate (fn.ntmps - #[Value.slice q xs.length cap].size) undef,defers:=[] }:Act)=a0;have hsz:a0.tmps.size=87:=by subst ha0;simp[hN]
  have hd0:a0.defers=[]:=by subst ha0;rfl
  have g0:get a0 0 = .slice q xs.length cap:=by subst ha0;exact gAr rfl
  refine wT fun K1 hK1=>?_;rw[wCo,wAg,eCo,wCo,wAg,eCo,wNi];generalize ha1:(a0.put (some 2) (.int .u32 0)).put (some 3) (.int .i64 0)=a1;have k1:Kept 2 a0 a1:=by subst ha1;exact (Kept.put0 (by omega) _).put (by omega) _
  have hz1:=k1.size;refine hK1 a1 w (tUp ?_)
  -- what is answered
  have hret:∀ {aa:Act} {x n:Nat},aa.defers=[]→get aa 2 = .int .u32 x→get aa 3 = .int .i64 (n:Int)→uv xs=some (x,n)→bodyPost P fn (fun e w'=>w'=w∧match uv xs with
      | some (x,n)=>e = .returned (.tuple #[.int .u32 x,.int .i64 n])
      | none=>∃ z:Int,z≤0∧e = .returned (.tuple #[.int .u32 0,.int .i64 z])) .ret aa w:=by
    intro aa x n h1 h2 h3 h4;refine ⟨h1,.tuple #[.int .u32 x,.int .i64 n],?_,rfl,by rw[h4]⟩;have h2':aa.tmps[2]?.getD undef = .int .u32 x:=by rw[← Array.getD_eq_getD_getElem?];exact h2
    have h3':aa.tmps[3]?.getD undef = .int .i64 n:=by rw[← Array.getD_eq_getD_getElem?];exact h3
    simp[results,hres,h2',h3']
  refine wp_scope_jumps 0 (fun a' w'=>w'=w∧a'.tmps.size=87∧a'.defers=[]∧∃ z:Int,z≤0∧get a' 5 = .int .i64 z∧uv xs=none) (fun _ _=>0) rfl ?_ ?_
  · refine tId (wp_seq_k fun K2 hK2 => ?_);refine r_const (m := 4) (by omega) (by omega) fun a2 k2 _ => hK2 a2 w (tUp ?_);have hz2 := k2.size;refine tId (wp_seq_k fun K3 hK3 => ?_);refine r_const (m := 5) (by omega) (by omega) fun a3 k3 g5 => hK3 a3 w (tUp ?_);have hz3 := k3.size;have gs : get a3 0 = .slice q xs.length cap := by rw [k3.get 0 (by omega), k2.get 0 (by omega), k1.get 0 (by omega), g0]
    have hd3:a3.defers=[]:=by rw[k3.defers,k2.defers,k1.defers,hd0]
    refine tId (wp_seq_k fun K4 hK4=>?_);refine wS fun K5 hK5=>?_;rw[wCo,wMw,eTm,gs,wCo];refine wp_len hs (by rw[eTm,gQ]) ?_;refine wC (wp_lss (k1:=.i64) (i:=xs.length) (j:=1) (by rw[eTm,gQ]) rfl ?_);rw[wNi];generalize ha4:((a3.put (some 6) (.slice q xs.length cap)).put (some 7) (.int .i64 xs.length)).put (some 8) (.bool (decide ((xs.length:Int) < 1)))=a4;have k4:Kept 6 a3 a4:=by subst ha4;exact ((Kept.put0 (by omega) _).put (by omega) _).put (by omega) _
    have g8:get a4 8 = .bool (decide ((xs.length:Int) < 1)):=by subst ha4;exact gQ
    have hz4:=k4.size;refine hK5 a4 w ?_;refine wp_cond_split (t:=decide ((xs.length:Int) < 1)) (by rw[eTm,g8]) (fun h=>wp_goto ?_) fun h=>wp_skip (hK4 a4 w (tUp ?_))
    · have hx : xs = [] := by simp at h; exact List.eq_nil_of_length_eq_zero (by omega)
      exact ⟨rfl,rfl,by omega,by rw[k4.defers,hd3],0,by omega,by rw[k4.get 5 (by omega),g5],by rw[hx];rfl⟩
    have hn0:0 < xs.length:=by simp at h;omega
    obtain ⟨b,o,rfl,hr⟩:=hq hn0;have hE:UvE a4 b o xs.length cap:=⟨by omega,by rw[k4.defers,hd3],by rw[k4.get 0 (by omega),gs],by rw[k4.get 5 (by omega),g5]⟩;have hcell:∀ i,(hi:i < xs.length)→w.cell? ⟨b,o+i,none⟩=some (.int .u8 (xs[i]).toNat):=fun i hi=>octets_at hr hi;have hdrop:∀ i,(hi:i < xs.length)→xs.drop i=xs[i]::xs.drop (i+1):=fun i hi=>List.drop_eq_getElem_cons hi;have hlt:∀ i,(hi:i < xs.length)→(xs[i]).toNat < 256:=fun i hi=>(xs[i]).toNat_lt
    -- the first octet
    have e0:uv xs=uvGo 5 (xs[0]::xs.drop 1):=by rw[← hdrop 0 hn0];rfl
    refine wT fun K6 hK6=>?_;rw[wCo,wMw,eTm,hE.src,wCo];refine wp_indexAddr hs (b:=b) (o:=o) (len:=xs.length) (cap:=cap) (k1:=.i64) (i:=0) (by rw[eTm,gQ]) rfl (by omega) (by omega) ?_;refine wC (wp_load h5 (b:=b) (o:=o+0) (v:=.int .u8 (xs[0]).toNat) (by rw[eTm,gQ];simp) (hcell 0 hn0) ?_);refine wC (wp_and (k1:=.u8) (i:=(xs[0]).toNat) (j:=127) (by rw[eTm,gQ]) rfl ?_);rw[and127 _ (hlt 0 hn0),wCo];refine wCv (k1:=.u8) (i:=(((xs[0]).toNat % 128:Nat):Int)) h5i h59 (by rw[eTm,gQ]) ?_;rw[IntKind.wrap_u32,Int.emod_eq_of_lt (by omega) (by omega),wCo,wAg,eTm,gQ,wNi];generalize ha5:(((((a4.put (some 9) (.slice (some ⟨b,o,none⟩) xs.length cap)).put (some 10) (.pointer (some ⟨b,o+(0:Int).toNat * 1,none⟩))).put (some 11) (.int .u8 (xs[0]).toNat)).put (some 12) (.int .u8 (((xs[0]).toNat % 128:Nat):Int))).put (some 13) (.int .u32 (((xs[0]).toNat % 128:Nat):Int))).put (some 4) (.int .u32 (((xs[0]).toNat % 128:Nat):Int))=a5;have hE5:UvE a5 b o xs.length cap:=by
      subst ha5;exact (((((hE.put (by omega) (by omega) _).put (by omega) (by omega) _).put (by omega) (by omega) _).put (by omega) (by omega) _).put (by omega) (by omega) _).put (by omega) (by omega) _
    have h45:get a5 4 = .int .u32 (((xs[0]).toNat % 128:Nat):Int):=by subst ha5;exact gQ
    refine hK6 a5 w (tUp ?_)
    -- octet 0: the last one?
    refine uv_test (i:=0) (k:=1) (k2:=2) (m:=14) hs h5 hE5 (hcell 0 hn0) (hlt 0 hn0) hn0 h45 (by omega) (by omega) rfl rfl ?_ ?_ ?_
    · intro hc a' _ hd' h2 h3;refine hret hd' h2 h3 ?_;rw[e0,uv_ok hc];simp only[Option.map_some,Option.some.injEq,Prod.mk.injEq];refine ⟨by first | trivial | omega,by first | trivial | omega⟩
    · intro hc hl a' hE';refine ⟨rfl,rfl,hE'.size,hE'.defers,0,by omega,hE'.over,?_⟩;rw[e0,uv_on hc,List.drop_of_length_le (by omega),uv_none];rfl
    intro hc0 hl0 a20 hE20 h420;have hn1:1 < xs.length:=by omega
    have e1:uv xs=(uvGo 4 (xs[1]::xs.drop 2)).map fun y=>((xs[0]).toNat % 128+128 * y.1,y.2+1):=by
      rw[e0,uv_on hc0,hdrop 1 hn1]
    refine tId (wp_seq_k fun K30 hK30=>?_);refine uv_add (i:=1) (m:=23) (sh:=7) hs h5 h5i h59 hE20 (hcell 1 hn1) (hlt 1 hn1) hn1 h420 (by simp only[Nat.reducePow];omega) (by omega) (by omega) (by omega) ?_;intro a6 hE6 h46;simp only[Nat.reducePow] at h46;refine hK30 a6 w (tUp ?_)
    -- octet 1: the last one?
    refine uv_test (i:=1) (k:=2) (k2:=3) (m:=31) hs h5 hE6 (hcell 1 hn1) (hlt 1 hn1) hn1 h46 (by omega) (by omega) rfl rfl ?_ ?_ ?_
    · intro hc a' _ hd' h2 h3;refine hret hd' h2 h3 ?_;rw[e1,uv_ok hc];simp only[Option.map_some,Option.some.injEq,Prod.mk.injEq];refine ⟨by first | trivial | omega,by first | trivial | omega⟩
    · intro hc hl a' hE';refine ⟨rfl,rfl,hE'.size,hE'.defers,0,by omega,hE'.over,?_⟩;rw[e1,uv_on hc,List.drop_of_length_le (by omega),uv_none];rfl
    intro hc1 hl1 a21 hE21 h421;have hn2:2 < xs.length:=by omega
    have e2:uv xs=(uvGo 3 (xs[2]::xs.drop 3)).map fun y=>((xs[0]).toNat % 128+((xs[1]).toNat % 128) * 128+16384 * y.1,y.2+2):=by
      rw[e1,uv_on hc1,hdrop 2 hn2,Option.map_map]
      congr 1;funext y;simp only[Function.comp_apply,Prod.mk.injEq];refine ⟨by first | trivial | omega,by first | trivial | omega⟩
    refine tId (wp_seq_k fun K31 hK31=>?_);refine uv_add (i:=2) (m:=40) (sh:=14) hs h5 h5i h59 hE21 (hcell 2 hn2) (hlt 2 hn2) hn2 h421 (by simp only[Nat.reducePow];omega) (by omega) (by omega) (by omega) ?_;intro a7 hE7 h47;simp only[Nat.reducePow] at h47;refine hK31 a7 w (tUp ?_)
    -- octet 2: the last one?
    refine uv_test (i:=2) (k:=3) (k2:=4) (m:=48) hs h5 hE7 (hcell 2 hn2) (hlt 2 hn2) hn2 h47 (by omega) (by omega) rfl rfl ?_ ?_ ?_
    · intro hc a' _ hd' h2 h3;refine hret hd' h2 h3 ?_;rw[e2,uv_ok hc];simp only[Option.map_some,Option.some.injEq,Prod.mk.injEq];refine ⟨by first | trivial | omega,by first | trivial | omega⟩
    · intro hc hl a' hE';refine ⟨rfl,rfl,hE'.size,hE'.defers,0,by omega,hE'.over,?_⟩;rw[e2,uv_on hc,List.drop_of_length_le (by omega),uv_none];rfl
    intro hc2 hl2 a22 hE22 h422;have hn3:3 < xs.length:=by omega
    have e3:uv xs=(uvGo 2 (xs[3]::xs.drop 4)).map fun y=>((xs[0]).toNat % 128+((xs[1]).toNat % 128) * 128+((xs[2]).toNat % 128) * 16384+2097152 * y.1,y.2+3):=by
      rw[e2,uv_on hc2,hdrop 3 hn3,Option.map_map]
      congr 1;funext y;simp only[Function.comp_apply,Prod.mk.injEq];refine ⟨by first | trivial | omega,by first | trivial | omega⟩
    refine tId (wp_seq_k fun K32 hK32=>?_);refine uv_add (i:=3) (m:=57) (sh:=21) hs h5 h5i h59 hE22 (hcell 3 hn3) (hlt 3 hn3) hn3 h422 (by simp only[Nat.reducePow];omega) (by omega) (by omega) (by omega) ?_;intro a8 hE8 h48;simp only[Nat.reducePow] at h48;refine hK32 a8 w (tUp ?_)
    -- octet 3: the last one?
    refine uv_test (i:=3) (k:=4) (k2:=5) (m:=65) hs h5 hE8 (hcell 3 hn3) (hlt 3 hn3) hn3 h48 (by omega) (by omega) rfl rfl ?_ ?_ ?_
    · intro hc a' _ hd' h2 h3;refine hret hd' h2 h3 ?_;rw[e3,uv_ok hc];simp only[Option.map_some,Option.some.injEq,Prod.mk.injEq];refine ⟨by first | trivial | omega,by first | trivial | omega⟩
    · intro hc hl a' hE';refine ⟨rfl,rfl,hE'.size,hE'.defers,0,by omega,hE'.over,?_⟩;rw[e3,uv_on hc,List.drop_of_length_le (by omega),uv_none];rfl
    intro hc3 hl3 a23 hE23 h423;have hn4:4 < xs.length:=by omega
    have e4:uv xs=(uvGo 1 (xs[4]::xs.drop 5)).map fun y=>((xs[0]).toNat % 128+((xs[1]).toNat % 128) * 128+((xs[2]).toNat % 128) * 16384+((xs[3]).toNat % 128) * 2097152+268435456 * y.1,y.2+4):=by
      rw[e3,uv_on hc3,hdrop 4 hn4,Option.map_map]
      congr 1;funext y;simp only[Function.comp_apply,Prod.mk.injEq];refine ⟨by first | trivial | omega,by first | trivial | omega⟩
    -- the fifth octet
    refine tId (wp_seq_k fun K40 hK40=>?_);have hz23:=hE23.size;generalize hacc:(xs[0]).toNat % 128+((xs[1]).toNat % 128) * 128+((xs[2]).toNat % 128) * 16384+((xs[3]).toNat % 128) * 2097152=acc at h423 e4;have hal:acc < 268435456:=by omega
    clear hacc;have hc4:=hlt 4 hn4;have hcc:=hcell 4 hn4;generalize hcx:xs[4]=cx at hc4 hcc e4;refine wp_reg ?_;rw[wCo,wMw,eTm,h423,wCo,wMw,eTm,gR,hE23.src,wCo];refine wp_indexAddr hs (b:=b) (o:=o) (len:=xs.length) (cap:=cap) (k1:=.i64) (i:=4) (by rw[eTm,gQ]) rfl (by omega) (by omega) ?_;refine wC (wp_load h5 (b:=b) (o:=o+4) (v:=.int .u8 cx.toNat) (by rw[eTm,gQ];simp) hcc ?_);refine wC (wCv (k1:=.u8) (i:=(cx.toNat:Int)) h5i h59 (by rw[eTm,gQ]) ?_);rw[IntKind.wrap_u32,Int.emod_eq_of_lt (by omega) (by omega),wCo];refine wp_shl (k1:=.u32) (i:=(cx.toNat:Int)) (n:=28) (by rw[eTm,gQ]) rfl (by decide) ?_;rw[IntKind.wrap_u32,wCo];refine wp_or (k1:=.u32) (i:=(acc:Int)) (j:=((cx.toNat:Int) * 2 ^ 28 % 4294967296)) (by rw[eTm,gR,gR,gR,gR,gR,gQ]) (by rw[eTm,gQ]) ?_;rw[wCo,wAg,eTm,gQ,wNi];generalize hor:bits .or .u32 (acc:Int) ((cx.toNat:Int) * 2 ^ 28 % 4294967296)=oo;generalize ha9:((((((((a23.put (some 74) (.int .u32 acc)).put (some 75) (.slice (some ⟨b,o,none⟩) xs.length cap)).put (some 76) (.pointer (some ⟨b,o+(4:Int).toNat * 1,none⟩))).put (some 77) (.int .u8 cx.toNat)).put (some 78) (.int .u32 cx.toNat)).put (some 79) (.int .u32 ((cx.toNat:Int) * 2 ^ 28 % 4294967296))).put (some 80) (.int .u32 oo)).put (some 4) (.int .u32 oo))=a9;have hE9:UvE a9 b o xs.length cap:=by
      subst ha9;exact (((((((hE23.put (by omega) (by omega) _).put (by omega) (by omega) _).put (by omega) (by omega) _).put (by omega) (by omega) _).put (by omega) (by omega) _).put (by omega) (by omega) _).put (by omega) (by omega) _).put (by omega) (by omega) _
    have h49:get a9 4 = .int .u32 oo:=by subst ha9;exact gQ
    have hz9:=hE9.size;refine hK40 a9 w (tUp ?_);refine tId (wp_seq_k fun K41 hK41=>?_);refine wS fun K42 hK42=>?_;rw[wCo,wMw,eTm,hE9.src,wCo];refine wp_indexAddr hs (b:=b) (o:=o) (len:=xs.length) (cap:=cap) (k1:=.i64) (i:=4) (by rw[eTm,gQ]) rfl (by omega) (by omega) ?_;refine wC (wp_load h5 (b:=b) (o:=o+4) (v:=.int .u8 cx.toNat) (by rw[eTm,gQ];simp) hcc ?_);refine wC (wp_leq (k1:=.u8) (i:=cx.toNat) (j:=15) (by rw[eTm,gQ]) rfl ?_);rw[wNi];generalize ha10:(((a9.put (some 81) (.slice (some ⟨b,o,none⟩) xs.length cap)).put (some 82) (.pointer (some ⟨b,o+(4:Int).toNat * 1,none⟩))).put (some 83) (.int .u8 cx.toNat)).put (some 84) (.bool (decide ((cx.toNat:Int)≤15)))=a10;have k10:Kept 6 a9 a10:=by subst ha10;exact (((Kept.put0 (by omega) _).put (by omega) _).put (by omega) _).put (by omega) _
    have g84:get a10 84 = .bool (decide ((cx.toNat:Int)≤15)):=by subst ha10;exact gQ
    have hE10:=hE9.kept k10;have hz10:=hE10.size;refine hK42 a10 w ?_;refine wp_cond_split (t:=decide ((cx.toNat:Int)≤15)) (by rw[eTm,g84]) (fun h=>?_) fun h=>wp_skip (hK41 a10 w (tUp ?_))
    · have hle : cx.toNat ≤ 15 := by simp at h; omega
      have hval:oo=((acc+cx.toNat * 268435456:Nat):Int):=by
        rw[← hor,show (2:Int) ^ 28=268435456 from by decide,Int.emod_eq_of_lt (by omega) (by omega)];rw[bits_join_low .u32 32 (by decide) wraps_u32 28 (acc:Int) ((cx.toNat:Int) * 268435456) (by omega) (by rw[show (2:Int) ^ 28=268435456 from by decide];omega) (by omega) (by omega) (by rw[show (2:Int) ^ 28=268435456 from by decide];omega) (by omega)];rw[Int.natCast_add,Int.natCast_mul];rfl
      refine wS fun K43 hK43=>?_;rw[wCo,wMw,eTm,k10.get 4 (by omega),h49,wCo,wAg,eTm,gQ,wCo,wAg,eCo,wNi];refine hK43 _ w (wp_ret ?_);refine hret (x:=acc+cx.toNat * 268435456) (n:=5) (by simp only[dPu];exact hE10.defers) (by rw[gR,gQ,hval]) (by rw[gQ];rfl) ?_;rw[e4,uv_last hle,Option.map_some];refine congrArg some (Prod.ext ?_ rfl);show acc+268435456 * cx.toNat=acc+cx.toNat * 268435456
      rw[Nat.mul_comm]
    have hgt:¬ cx.toNat≤15:=by simp at h;omega
    refine tId (wp_seq_k fun K43 hK43=>?_);refine r_const (m:=5) (by omega) (by omega) fun a11 k11 g11=>hK43 a11 w (tUp ?_);refine tId (wp_seq_k fun K44 hK44=>?_);refine wp_label (hK44 a11 w (tUp ?_));have hz11:=k11.size;refine wT fun K45 hK45=>?_;rw[wCo,wMw,eTm,g11,wCo,wAg,eCo,wCo,wAg,eTm,gR,gQ,wNi];refine hK45 _ w (wp_ret ?_);have hnone:uv xs=none:=by rw[e4,uv_lastn hgt];rfl
    refine ⟨by simp only[dPu];rw[k11.defers,hE10.defers],.tuple #[.int .u32 0,.int .i64 (-5)],?_,rfl,by rw[hnone];exact ⟨-5,by omega,rfl⟩⟩;have h2':=gPs (a:=a11.put (some 86) (.int .i64 (-5))) (d:=2) (v:=.int .u32 0) (by simp only[sPu];omega);simp[results,hres,Act.put,Array.getElem?_setIfInBounds,show 2 < a11.tmps.size from by omega,show 3 < a11.tmps.size from by omega]
  rintro a' w' ⟨rfl,hz,hd,z,hz0,h5',hnone⟩;refine tId (wp_seq_k fun K50 hK50=>?_);refine wp_skip ?_;refine hK50 a' w' (tUp ?_);refine wT fun K51 hK51=>?_;rw[wCo,wMw,eTm,h5',wCo,wAg,eCo,wCo,wAg,eTm,gR,gQ,wNi];refine hK51 _ w' (wp_ret ?_);refine ⟨by simp only[dPu];exact hd,.tuple #[.int .u32 0,.int .i64 z],?_,rfl,by rw[hnone];exact ⟨z,hz0,rfl⟩⟩;simp[results,hres,Act.put,Array.getElem?_setIfInBounds,show 2 < a'.tmps.size from by omega,show 3 < a'.tmps.size from by omega]
end Go.Kq
