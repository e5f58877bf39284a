/- A part of the library: rules of reasoning about the program's operations and what its shared functions do. -/
import Derived.Test.YtnfigjjpdhhfjaaGreatDoorKqP06
import Derived.Test.YtnfigjjpdhhfjaaGreatDoorKqP05
import Derived.Test.YtnfigjjpdhhfjaaGreatDoorKqP01
set_option linter.unusedVariables false
set_option linter.unusedSimpArgs false
namespace Go.Kq
open Go Go.Proofs
section
variable {P:Program} {N n m s L id id1 id2 b0 b1:Nat} {TI'' TI3:TypeId} {e:AE} {c:Ctx} {k k1 k2:Code} {ys y1 y2:List UInt8} {cv:Value}
  {t0 t1 t2 t3 t4 t5 t6 t7 t8 t9:TypeId} {p0 p1 p2 p3 p4 p5 p6 p7 p8 p9:String} {e0 e1 e2 e3 e4 e5 e6 e7 e8 e9:Array Edge}
theorem Ctx.free_tail {x:Nat × Value} {c:Ctx} {m:Nat} {l:List Nat} (h:Ctx.free (x::c) m l=true):c.free m l=true:=by
  simp only[Ctx.free,List.all_cons,Bool.and_eq_true] at h;exact h.2
theorem ApC.loopV {T TI TI':TypeId} {q:Option Addr} {cap m' q':Nat} {body:Code} {items:List V} {g:V→List UInt8} (hL:(L,Value.slice q items.length cap) ∈ c) (hT:slTy P T=true) (hlen:items.length≤4294967296)
    (hb:(c.free n [1] && decide (1 < n) && decide (n+2 < N) && decide (n+3≤m') && decide (m' < N) && decide (n+3≤q') && decide (q' < N))=true)
    (h:∀ (i:Nat) (y:V),items[i]?=some y→ApC P N e ((n+2,.int .i64 i)::(n+1,.int .i64 items.length)::(n,.slice q items.length cap)::c) body (g y)) :
    ApC P N e c (.seq (Code.region id ⟨[oM n L t0 p0 e0,⟨some (n+1),.call ⟨.builtin .len,#[.tmp n],#[T]⟩,t1,p1,e1,none⟩,⟨some (n+2),.move (.const (.int .i64 0)),t2,p2,e2,none⟩]⟩ false) (.block b0 (.loop (.seq (Code.region id1 ⟨[⟨some m',.binOp .lss TI (.tmp (n+2)) (.tmp (n+1)) TI',t3,p3,e3,none⟩]⟩ false) (.seq (.cond (.tmp m') .skip (.exit b0)) (.seq (.block b1 body) (Code.region id2 ⟨[⟨some q',.binOp .add TI'' (.tmp (n+2)) (.const (.int .i64 1)) TI3,t4,p4,e4,none⟩,⟨some (n+2),.move (.tmp q'),t5,p5,e5,none⟩]⟩ false))))))) (items.map g).flatten:=by
  intro K Q a w v xs hN hd hc hv hst hbd hK;simp only[Bool.and_eq_true,decide_eq_true_eq] at hb;obtain ⟨⟨⟨⟨⟨⟨q1,q2⟩,q3⟩,q4⟩,q5⟩,q6⟩,q7⟩:=hb;have hLn:=(Ctx.lt q1 hL).1;simp only at hLn;refine wS fun K1 hK1=>?_;refine wC (wMv (v:=.slice q items.length cap) (by rw[eTm];exact hc _ hL) ?_);refine wC (Zs hT (q:=q) (n:=items.length) (cap:=cap) (by rw[eTm,gQ]) ?_);refine wC (wMv (v:=.int .i64 0) (eCo _ _) ?_);rw[wNi];generalize ha1:((a.put (some n) (.slice q items.length cap)).put (some (n+1)) (.int .i64 items.length)).put (some (n+2)) (.int .i64 0)=a1;have hN1:a1.tmps.size=N:=by subst ha1;simp only[sPu];exact hN
  have hd1:a1.defers=[]:=by subst ha1;simp only[dPu];exact hd
  have hc1:c.on a1:=by subst ha1;exact Ctx.on_put (Ctx.on_put (Ctx.on_put hc q1 (.inl (by omega))) q1 (.inl (by omega))) q1 (.inl (by omega))
  have hv1:get a1 1=v:=by subst ha1;rw[gR,gR,gR];exact hv
  have hz1:get a1 n = .slice q items.length cap:=by subst ha1;rw[gR,gR,gQ]
  have hl1:get a1 (n+1) = .int .i64 items.length:=by subst ha1;rw[gR,gQ]
  have hi1:get a1 (n+2) = .int .i64 0:=by subst ha1;exact gQ
  refine hK1 a1 w ?_;refine wp_block (wp_loop_ghost (fun r a' w'=>∃ (j:Nat) (v':Value),j+r=items.length∧a'.tmps.size=N∧a'.defers=[]∧c.on a'∧get a' 1=v'∧get a' n = .slice q items.length cap∧get a' (n+1) = .int .i64 items.length∧get a' (n+2) = .int .i64 j∧ASt e (xs++((items.take j).map g).flatten) v' w') items.length ?_ ?_)
  · exact ⟨0,v,by omega,hN1,hd1,hc1,hv1,hz1,hl1,hi1,by simpa using hst⟩
  rintro r a2 w2 ⟨j,v2,hj,hN2,hd2,hc2,hv2,hz2,hl2,hi2,hst2⟩;refine wS fun K2 hK2=>?_;refine wC (Z08 (k1:=.i64) (i:=j) (j:=items.length) (by rw[eTm,hi2]) (by rw[eTm,hl2]) ?_);rw[wNi];generalize ha3:a2.put (some m') (.bool (decide ((j:Int) < items.length)))=a3;have hN3:a3.tmps.size=N:=by subst ha3;simp only[sPu];exact hN2
  have hd3:a3.defers=[]:=by subst ha3;simp only[dPu];exact hd2
  have hc3:c.on a3:=by subst ha3;exact Ctx.on_put hc2 q1 (.inl (by omega))
  have hv3:get a3 1=v2:=by subst ha3;rw[gR];exact hv2
  have hz3:get a3 n = .slice q items.length cap:=by subst ha3;rw[gR];exact hz2
  have hl3:get a3 (n+1) = .int .i64 items.length:=by subst ha3;rw[gR];exact hl2
  have hi3:get a3 (n+2) = .int .i64 j:=by subst ha3;rw[gR];exact hi2
  have hm3:get a3 m' = .bool (decide ((j:Int) < items.length)):=by subst ha3;exact gQ
  refine hK2 a3 w2 ?_;refine wp_seq_k fun K3 hK3=>?_;refine wp_cond_split (t:=decide ((j:Int) < items.length)) (by rw[eTm,hm3]) ?_ ?_
  · intro hlt;have hjl : j < items.length := by simpa using hlt
    refine wp_skip (hK3 a3 w2 ?_);refine wp_seq_k fun K4 hK4=>?_;refine Zm ?_;have htake:((items.take (j+1)).map g).flatten=((items.take j).map g).flatten++g items[j]:=by
      rw[List.take_succ_eq_append_getElem hjl,List.map_append,List.flatten_append];simp
    have hlt2:((items.take (j+1)).map g).flatten.length≤(items.map g).flatten.length:=by
      conv=>rhs;rw[← List.take_append_drop (j+1) items]
      rw[List.map_append,List.flatten_append,List.length_append];omega
    refine h j items[j] (by simp[hjl]) K4 _ a3 w2 v2 _ hN3 hd3 (Ctx.on_cons (Ctx.on_cons (Ctx.on_cons hc3 hz3) hl3) hi3) hv3 hst2 ?_ ?_
    · rw[List.append_assoc,← htake];simp only[List.length_append] at hbd ⊢;omega
    intro a4 w4 v4 hN4 hd4 hc4 hv4 hst4;refine hK4 a4 w4 ?_;have hi4:get a4 (n+2) = .int .i64 j:=hc4 (n+2,.int .i64 j) (by simp);have hz4:get a4 n = .slice q items.length cap:=hc4 (n,.slice q items.length cap) (by simp);have hl4:get a4 (n+1) = .int .i64 items.length:=hc4 (n+1,.int .i64 items.length) (by simp);refine Z2 ?_;refine wC (ZJ (k1:=.i64) (i:=j) (j:=1) (by rw[eTm,hi4]) rfl ?_);rw[wCo,wMw,eTm,gQ,wNi];have hwr:IntKind.i64.wrap ((j:Int)+1)=((j+1:Nat):Int):=by
      simp[IntKind.wrap,IntKind.bits,IntKind.signed];omega
    rw[hwr];refine ⟨r - 1,by omega,j+1,v4,by omega,by simp only[sPu];exact hN4,by simp only[dPu];exact hd4,?_,?_,?_,?_,gQ,?_⟩
    · exact Ctx.on_put (Ctx.on_put (Ctx.on_tail (Ctx.on_tail (Ctx.on_tail hc4))) q1 (.inl (by omega))) q1 (.inl (by omega))
    · rw[gR,gR];exact hv4
    · rw[gR,gR];exact hz4
    · rw[gR,gR];exact hl4
    rw[htake,← List.append_assoc];exact hst4
  intro hge;have hjl:j=items.length:=by
    have:¬ ((j:Int) < items.length):=by simpa using hge
    omega
  subst hjl;refine wp_exit ?_;show Exit.inBlock b0 (Exit.then K Q) (.exit b0) a3 w2
  simp only[Exit.inBlock,if_true];refine hK a3 w2 v2 hN3 hd3 hc3 hv3 ?_;rw[List.take_length] at hst2;exact hst2
theorem ApC.tagsN {te pb po fi o n0 cap:Nat} {q:Option Addr} {flen fuv:FuncId} {S T T1 T2 T3 T4:TypeId} {a0 a1:Array TypeId} {x:V} {t10:TypeId} {p10:String} {e10:Array Edge} (hL:(te,Value.slice q n0 cap) ∈ c) (hTs:slTy P T=true) (hs:(s,Value.pointer (some ⟨pb,po,none⟩)) ∈ c) (hF:Zp P S fi o=true) (hx:FA e pb (po+o) .tags x) (hB:e.B pb) (hl:Z4P P flen) (hu:ApU P fuv)
    (h1:Zk P T1 .i64=true) (h2:Zk P T2 .u32=true) (hn:n0+(ZV x).length < 4294967296) (hb:(c.free n [1] && decide (1 < n) && decide (n+9 < N))=true) :
    ApC P N e c (Code.region id ⟨[oM n 1 t0 p0 e0,oM (n+1) te t1 p1 e1,⟨some (n+2),.call ⟨.builtin .len,#[.tmp (n+1)],#[T]⟩,t2,p2,e2,none⟩,oM (n+3) s t3 p3 e3,⟨some (n+4),.nilCheck (.tmp (n+3)),t4,p4,e4,none⟩,oF (n+5) S (n+4) fi t5 p5 e5,
      oC (n+6) flen #[.tmp (n+5)] a0 t6 p6 e6,⟨some (n+7),.binOp .add T3 (.tmp (n+2)) (.tmp (n+6)) T4,t7,p7,e7,none⟩,⟨some (n+8),.convert T1 T2 (.tmp (n+7)),t8,p8,e8,none⟩,
      oC (n+9) fuv #[.tmp n,.tmp (n+8)] a1 t9 p9 e9,oT 1 (n+9) t10 p10 e10]⟩ false) (uvW (n0+(ZV x).length)):=by
  intro K Q a w v xs hN hd hc hv hst hbd hK;simp only[Bool.and_eq_true,decide_eq_true_eq] at hb;obtain ⟨⟨q1,q2⟩,q3⟩:=hb;have hsn:=(Ctx.lt q1 hs).1;have hLn:=(Ctx.lt q1 hL).1;simp only at hsn hLn;obtain ⟨cc,hcc,hrr⟩:=hx.one rfl;refine Z2 ?_;refine wC (wMv (v:=v) (by rw[eTm];exact hv) ?_);refine wC (wMv (v:=.slice q n0 cap) (by rw[eTm,gR];exact hc _ hL) ?_);refine wC (Zs hTs (q:=q) (n:=n0) (cap:=cap) (by rw[eTm,gQ]) ?_);refine wC (wMv (v:=.pointer (some ⟨pb,po,none⟩)) (by rw[eTm,gR,gR,gR];exact hc _ hs) ?_);refine wC (wNc (q:=⟨pb,po,none⟩) (by rw[eTm,gQ]) ?_);refine wC (wFa hF (b:=pb) (i:=po) (by rw[eTm,gQ]) ?_);rw[wCo];refine wCr (vs:=#[.pointer (some ⟨pb,po+o,none⟩)]) (R:=fun x' w'=>x' = .int .i64 ((ZV x).length:Nat)∧w=w') hl.enters (by simp only[List.map_toArray,List.map_cons,List.map_nil,eTm];rw[gQ])
    ((hl.call w e.B pb (po+o) cc x (hst.cell hB hcc) (hst.rep hrr)).mono (by rintro e' w' ⟨rfl,rfl⟩;exact ⟨_,rfl,rfl,rfl⟩)) ?_
  rintro _ _ ⟨rfl,rfl⟩;refine wC (ZJ (k1:=.i64) (i:=(n0:Int)) (j:=((ZV x).length:Nat)) (by rw[eTm,gR,gR,gR,gR,gQ]) (by rw[eTm,gQ]) ?_);rw[show IntKind.i64.wrap ((n0:Int)+(((ZV x).length:Nat):Int))=((n0+(ZV x).length:Nat):Int) from by simp[IntKind.wrap,IntKind.bits,IntKind.signed];omega];refine wC (wCv (k1:=.i64) (i:=((n0+(ZV x).length:Nat):Int)) h1 h2 (by rw[eTm,gQ]) ?_);rw[show IntKind.u32.wrap ((n0+(ZV x).length:Nat):Int)=((n0+(ZV x).length:Nat):Int) from by simp only[IntKind.wrap,IntKind.bits,IntKind.signed];simp;omega];rw[wCo];refine wCr (vs:=#[v,.int .u32 ((n0+(ZV x).length:Nat):Int)]) hu.enters (by simp only[List.map_toArray,List.map_cons,List.map_nil,eTm];rw[gR,gR,gR,gR,gR,gR,gR,gR,gQ,gQ])
    (Apd.ret (hu.call w _ v xs (n0+(ZV x).length) hst.own hn (Nat.le_of_lt hbd))) ?_
  intro v' w' hr;refine wC (wAs (v:=v') (by rw[eTm,gQ]) ?_);rw[wNi];exact ApC.done (c:=c) (by simp only[sPu];exact hN) (by simp only[dPu];exact hd)
    (Ctx.on_put (Ctx.on_put (Ctx.on_put (Ctx.on_put (Ctx.on_put (Ctx.on_put (Ctx.on_put (Ctx.on_put (Ctx.on_put (Ctx.on_put (Ctx.on_put hc q1 (.inl (by omega))) q1 (.inl (by omega))) q1 (.inl (by omega))) q1 (.inl (by omega))) q1 (.inl (by omega))) q1 (.inl (by omega))) q1 (.inl (by omega))) q1 (.inl (by omega))) q1 (.inl (by omega))) q1 (.inl (by omega))) q1 (.inr (by simp)))
    (gQ) hst hK hr
theorem ApC.turn0 {g o ln cap et bs ti id3 id4 b6 n1 n2:Nat} {T T59 T4:TypeId} (hL:(n,Value.slice (some ⟨g,o,none⟩) ln cap) ∈ c) (hS:(s,Value.int .i64 ((0:Nat):Int)) ∈ c) (hi:0 < ln) (hT:Z3 P T et 1 bs=true) (h59:scal P T59=true) (hg:e.B g) (hcell:e.w0.cell? ⟨g,o,none⟩=some (.int .u32 0))
    (hb:(c.free n1 [ti,1] && c.free n2 [1] && decide (1 < n1) && decide (n1+1 < N) && decide (ti < n1) && decide (ti ≠ 1) && decide (ti < n2) && decide (1 < n2) && decide (n2+2 < N))=true)
    (h:ApC P N e c k ys) :
    ApC P N e c (.seq (Code.region id ⟨[⟨some n1,.indexAddr T (.tmp n) (.tmp s),t0,p0,e0,none⟩,oL (n1+1) T59 n1 t1 p1 e1,oT ti (n1+1) t2 p2 e2]⟩ false) (.seq (Code.region id3 ⟨[oM n2 ti t3 p3 e3]⟩ false) (.block b6 (.seq (Code.region id4 ⟨[⟨some (n2+2),.binOp .eql T59 (.tmp n2) (.const (.int .u32 0)) T4,t4,p4,e4,none⟩,oT (n2+1) (n2+2) t5 p5 e5]⟩ false) (.cond (.tmp (n2+1)) k .skip))))) ys:=by
  intro K Q a w v xs hN hd hc hv hst hbd hK;simp only[Bool.and_eq_true,decide_eq_true_eq] at hb;obtain ⟨⟨⟨⟨⟨⟨⟨⟨q1,q2⟩,q3⟩,q4⟩,q5⟩,q6⟩,q7⟩,q8⟩,q9⟩:=hb;refine wS fun K1 hK1=>?_;refine wC (Zw hT (b:=g) (o:=o) (i:=((0:Nat):Int)) (by rw[eTm];exact hc _ hL) (by rw[eTm];exact hc _ hS) (by omega) (by omega) ?_);refine wC (Zj h59 (b:=g) (o:=o) (v:=.int .u32 0) (by rw[eTm,gQ];simp) (hst.cell hg hcell) ?_);refine wC (wAs (v:=.int .u32 0) (by rw[eTm,gQ]) ?_);rw[wNi];generalize ha1:((a.put (some n1) _).put (some (n1+1)) (.int .u32 0)).put (some ti) (.int .u32 0)=a1;have hN1:a1.tmps.size=N:=by subst ha1;simp only[sPu];exact hN
  have hd1:a1.defers=[]:=by subst ha1;simp only[dPu];exact hd
  have hc1:c.on a1:=by subst ha1;exact Ctx.on_put (Ctx.on_put (Ctx.on_put hc q1 (.inl (by omega))) q1 (.inl (by omega))) q1 (.inr (by simp))
  have hv1:get a1 1=v:=by subst ha1;rw[gR,gR,gR];exact hv
  have ht1:get a1 ti = .int .u32 0:=by subst ha1;exact gQ
  refine hK1 a1 w ?_;refine wS fun K2 hK2=>?_;refine wC (wMv (v:=.int .u32 0) (by rw[eTm];exact ht1) ?_);rw[wNi];refine hK2 _ w ?_;refine Zm ?_;refine wS fun K3 hK3=>?_;refine wC (Z1l (i:=0) (j:=0) rfl (by rw[eTm,gQ]) (eCo _ _) ?_);refine wC (wAs (v:=.bool true) (by rw[eTm,gQ]) ?_);rw[wNi];refine hK3 _ w ?_;refine wp_cond_split (t:=true) (by rw[eTm,gQ]) (fun _=>?_) (fun h=>by cases h);exact h K _ _ w v xs (by simp only[sPu];exact hN1) (by simp only[dPu];exact hd1) (Ctx.on_put (Ctx.on_put (Ctx.on_put hc1 q2 (.inl (by omega))) q2 (.inl (by omega))) q2 (.inl (by omega))) (by rw[gR,gR,gR];exact hv1) hst hbd hK
def CondC (P:Program) (N:Nat) (e:AE) (c:Ctx) (k:Code) (tc:Nat) (b:Bool):Prop :=
  ∀ (K : Act → World → Prop) (Q : Exit → Act → World → Prop) (a : Act) (w : World) (v : Value) (xs : List UInt8),
    a.tmps.size=N→a.defers=[]→c.on a→get a 1=v→ASt e xs v w →
    (∀ a' w',a'.tmps.size=N→a'.defers=[]→c.on a'→get a' 1=v→ASt e xs v w'→get a' tc = .bool b→K a' w') →
    k.wp P (Exit.then K Q) a w
theorem condNe {pb po fi o:Nat} {S T Tb Tc:TypeId} {kd:IntKind} {i j:Int} (hs:(s,Value.pointer (some ⟨pb,po,none⟩)) ∈ c) (hF:Zp P S fi o=true) (hT:scal P T=true) (hcell:e.w0.cell? ⟨pb,po+o,none⟩=some (.int kd i)) (hB:e.B pb)
    (hb:(c.free n [1] && decide (1 < n) && decide (n+4 < N))=true) :
    CondC P N e c (Code.region id ⟨[oM n s t0 p0 e0,⟨some (n+1),.nilCheck (.tmp n),t1,p1,e1,none⟩,oF (n+2) S (n+1) fi t2 p2 e2,oL (n+3) T (n+2) t3 p3 e3,⟨some (n+4),.binOp .neq Tb (.tmp (n+3)) (.const (.int kd j)) Tc,t5,p5,e5,none⟩]⟩ false) (n+4) (i != j):=by
  intro K Q a w v xs hN hd hc hv hst hK;simp only[Bool.and_eq_true,decide_eq_true_eq] at hb;obtain ⟨⟨b1,b3⟩,b4⟩:=hb;refine Z2 ?_;refine wC (wMv (v:=.pointer (some ⟨pb,po,none⟩)) (by rw[eTm];exact hc _ hs) ?_);refine wC (wNc (q:=⟨pb,po,none⟩) (by rw[eTm,gQ]) ?_);refine wC (wFa hF (b:=pb) (i:=po) (by rw[eTm,gQ]) ?_);refine wC (Zj hT (by rw[eTm,gQ]) (hst.cell hB hcell) ?_);refine wC (Z4t (k1:=kd) (i:=i) (j:=j) (by rw[eTm,gQ]) (eCo _ _) ?_);rw[wNi];refine hK _ w (by simp only[sPu];exact hN) (by simp only[dPu];exact hd) (Ctx.on_put (Ctx.on_put (Ctx.on_put (Ctx.on_put (Ctx.on_put hc b1 (.inl (by omega))) b1 (.inl (by omega))) b1 (.inl (by omega))) b1 (.inl (by omega))) b1 (.inl (by omega))) ?_ hst ?_
  · rw[gR,gR,gR,gR,gR];exact hv
  exact gQ
set_option maxHeartbeats 1000000 in
/-- .. from the number of tags on, whatever the list of tags to write is. -/
theorem ApC.known1 {te n1 n2 ti mm qq pb po fo oT id3 id4 id5 id6 id7 id8 id9 b6 nn ng nE:Nat} {kcase:Code} {b:Bool} {yk:List UInt8} {kn:List (Nat × List UInt8)} {S T et T1 T2 T3 T4 T59 T6 TI TI':TypeId} {flen fuv feach:FuncId} {aa0 aa1 aa2:Array TypeId} {y:V} {q:Option Addr} {cap:Nat}
    {u5 u6 u7 u8 u9 u10 u11 u12 u13 u14 u15 u16 u17 u18 u19 u20 u21 u22 u23:TypeId} {q5 q6 q7 q8 q9 q10 q11 q12 q13 q14 q15 q16 q17 q18 q19 q20 q21 q22 q23:String} {f5 f6 f7 f8 f9 f10 f11 f12 f13 f14 f15 f16 f17 f18 f19 f20 f21 f22 f23:Array Edge}
    (hs:(s,Value.pointer (some ⟨pb,po,none⟩)) ∈ c) (hF:Zp P S fo oT=true) (hx:FA e pb (po+oT) .tags y) (hB:e.B pb) (hl:Z4P P flen) (hu:ApU P fuv) (hE:Z4j P feach)
    (hT:Z3 P T et 1 4=true) (hTs:slTy P T=true) (hz:ZG P et [.int .u32 0]) (h1:Zk P T1 .i64=true) (h2:Zk P T2 .u32=true) (h59:scal P T59=true)
    (hkn:kn=if b then [(0,yk)] else [])
    (hn:(kn++ZV y).length < 4294967296)
    (hb1:(Ctx.free ((te,.slice none 0 0)::c) nn [1] && decide (1 < nn) && decide (nn+9 < N))=true)
    (hb2:(Ctx.free ((te,.slice none 0 0)::c) ng [1] && decide (1 < ng) && decide (ng+2 < N) && decide (ng+3≤mm) && decide (mm < N) && decide (ng+3≤qq) && decide (qq < N))=true)
    (hb3:(Ctx.free ((ng+2,.int .i64 0)::(ng+1,.int .i64 1)::(ng,.slice none 0 0)::(te,.slice none 0 0)::c) n1 [ti,1] && Ctx.free ((ng+2,.int .i64 0)::(ng+1,.int .i64 1)::(ng,.slice none 0 0)::(te,.slice none 0 0)::c) n2 [1] && decide (1 < n1) && decide (n1+1 < N) && decide (ti < n1) && decide (ti ≠ 1) && decide (ti < n2) && decide (1 < n2) && decide (n2+2 < N))=true)
    (hb4:(Ctx.free ((te,.slice none 0 0)::c) nE [1] && decide (1 < nE) && decide (nE+4 < N))=true)
    (hcase:b=true→(∃ g o,q=some ⟨g,o,none⟩∧e.B g∧e.w0.cell? ⟨g,o,none⟩=some (.int .u32 0))∧ApC P N e ((ng+2,.int .i64 ((0:Nat):Int))::(ng+1,.int .i64 ((1:Nat):Int))::(ng,.slice q 1 cap)::(te,.slice q 1 cap)::c) kcase (tagW (0,yk))) :
    ApC P N e ((te, .slice q kn.length cap) :: c) (.seq (Code.region id2 ⟨[oM nn 1 t0 p0 e0, oM (nn + 1) te t1 p1 e1, ⟨some (nn + 2), .call ⟨.builtin .len, #[.tmp (nn + 1)], #[T]⟩, t2, p2, e2, none⟩, oM (nn + 3) s t3 p3 e3, ⟨some (nn + 4), .nilCheck (.tmp (nn + 3)), t4, p4, e4, none⟩, oF (nn + 5) S (nn + 4) fo t5 p5 e5,
        oC (nn+6) flen #[.tmp (nn+5)] aa0 t6 p6 e6,⟨some (nn+7),.binOp .add T3 (.tmp (nn+2)) (.tmp (nn+6)) T4,t7,p7,e7,none⟩,⟨some (nn+8),.convert T1 T2 (.tmp (nn+7)),t8,p8,e8,none⟩,
        oC (nn+9) fuv #[.tmp nn,.tmp (nn+8)] aa1 t9 p9 e9,⟨some 1,.assign (.tmp (nn+9)),u5,q5,f5,none⟩]⟩ false) (.seq (.seq (Code.region id3 ⟨[⟨some ng,.move (.tmp te),u6,q6,f6,none⟩,⟨some (ng+1),.call ⟨.builtin .len,#[.tmp ng],#[T]⟩,u7,q7,f7,none⟩,⟨some (ng+2),.move (.const (.int .i64 0)),u8,q8,f8,none⟩]⟩ false) (.block b0 (.loop (.seq (Code.region id4 ⟨[⟨some mm,.binOp .lss TI (.tmp (ng+2)) (.tmp (ng+1)) TI',u9,q9,f9,none⟩]⟩ false) (.seq (.cond (.tmp mm) .skip (.exit b0)) (.seq (.block b1 (.seq (Code.region id5 ⟨[⟨some n1,.indexAddr T (.tmp ng) (.tmp (ng+2)),u10,q10,f10,none⟩,⟨some (n1+1),.load T59 (.tmp n1),u11,q11,f11,none⟩,⟨some ti,.assign (.tmp (n1+1)),u12,q12,f12,none⟩]⟩ false) (.seq (Code.region id6 ⟨[⟨some n2,.move (.tmp ti),u13,q13,f13,none⟩]⟩ false) (.block b6 (.seq (Code.region id7 ⟨[⟨some (n2+2),.binOp .eql T59 (.tmp n2) (.const (.int .u32 0)) T6,u14,q14,f14,none⟩,⟨some (n2+1),.assign (.tmp (n2+2)),u15,q15,f15,none⟩]⟩ false) (.cond (.tmp (n2+1)) kcase .skip))))))
            (Code.region id8 ⟨[⟨some qq,.binOp .add TI'' (.tmp (ng+2)) (.const (.int .i64 1)) TI3,u16,q16,f16,none⟩,⟨some (ng+2),.move (.tmp qq),u17,q17,f17,none⟩]⟩ false)))))))
        (Code.region id9 ⟨[⟨some nE,.move (.tmp s),u18,q18,f18,none⟩,⟨some (nE+1),.nilCheck (.tmp nE),u19,q19,f19,none⟩,⟨some (nE+2),.fieldAddr S (.tmp (nE+1)) fo,u20,q20,f20,none⟩,⟨some (nE+3),.move (.tmp 1),u21,q21,f21,none⟩,⟨some (nE+4),.call ⟨.value (.func feach),#[.tmp (nE+2),.tmp (nE+3)],aa2⟩,u22,q22,f22,none⟩,⟨some 1,.assign (.tmp (nE+4)),u23,q23,f23,none⟩]⟩ false)))
      (uvW (kn++ZV y).length++Zr (kn++ZV y)):=by
  have hfr:∀ (v:Value) (m:Nat) (l:List Nat),Ctx.free ((te,v)::c) m l=Ctx.free ((te,.slice none 0 0)::c) m l:=fun _ _ _=>rfl;have e1:uvW (kn++ZV y).length++Zr (kn++ZV y)=uvW (kn.length+(ZV y).length)++((((List.replicate kn.length (V.n 0)).map fun _=>tagW (0,yk)).flatten)++Zr (ZV y)):=by
    rw[List.length_append,Zr,List.map_append,List.flatten_append,Zr]
    congr 2
    cases b <;> simp[hkn]
  rw[e1];refine ApC.seq (ApC.tagsN (te:=te) (q:=q) (n0:=kn.length) (cap:=cap) (List.mem_cons_self ..) hTs (List.mem_cons_of_mem _ hs) hF hx hB hl hu h1 h2 (by rw[List.length_append] at hn;exact hn) (by rw[hfr];exact hb1)) ?_;refine ApC.seq ?_ (ApC.tags2 (List.mem_cons_of_mem _ hs) hF hx hB hE (by rw[hfr];exact hb4));have hlr:(List.replicate kn.length (V.n 0)).length=kn.length:=List.length_replicate;refine ApC.loopV (L:=te) (q:=q) (cap:=cap) (items:=List.replicate kn.length (V.n 0)) (g:=fun _=>tagW (0,yk)) (by rw[hlr];exact List.mem_cons_self ..) hTs (by rw[hlr];rw[List.length_append] at hn;omega) (by rw[hfr];exact hb2) ?_;intro i y' hi;have hik:i < kn.length:=by
    have:=(List.getElem?_eq_some_iff.1 hi).1
    rwa [hlr] at this
  have hbt:b=true:=by
    cases b with
    | true=>rfl
    | false=>rw[hkn] at hik;simp at hik
  obtain ⟨⟨g,o,hq,hg,hcell⟩,hap⟩:=hcase hbt;have hkl:kn.length=1:=by rw[hkn,hbt];rfl
  have hi0:i=0:=by omega
  subst hi0;subst hq;rw[hlr];rw[hkl];exact ApC.turn0 (g:=g) (o:=o) (ln:=1) (cap:=cap) (by simp) (by simp) (by omega) hT h59 hg hcell hb3 hap
set_option maxHeartbeats 1000000 in
/-- The tags of a struct, the tag nought among them. -/
theorem ApC.known {te tc nb n1 n2 ti mm qq pb po fo oT id3 id4 id5 id6 id7 id8 id9 b6 nn ng nE:Nat} {kc kcase:Code} {b:Bool} {yk:List UInt8} {kn:List (Nat × List UInt8)} {S T et T1 T2 T3 T4 T59 T6 TI TI':TypeId} {flen fuv feach:FuncId} {aa0 aa1 aa2:Array TypeId} {y:V}
    {u0 u1 u2 u3 u4 u5 u6 u7 u8 u9 u10 u11 u12 u13 u14 u15 u16 u17 u18 u19 u20 u21 u22 u23:TypeId} {q0 q1 q2 q3 q4 q5 q6 q7 q8 q9 q10 q11 q12 q13 q14 q15 q16 q17 q18 q19 q20 q21 q22 q23:String} {f0 f1 f2 f3 f4 f5 f6 f7 f8 f9 f10 f11 f12 f13 f14 f15 f16 f17 f18 f19 f20 f21 f22 f23:Array Edge}
    (hwh:e.whole) (hs:(s,Value.pointer (some ⟨pb,po,none⟩)) ∈ c) (hF:Zp P S fo oT=true) (hx:FA e pb (po+oT) .tags y) (hB:e.B pb) (hl:Z4P P flen) (hu:ApU P fuv) (hE:Z4j P feach)
    (hT:Z3 P T et 1 4=true) (hTs:slTy P T=true) (hz:ZG P et [.int .u32 0]) (h1:Zk P T1 .i64=true) (h2:Zk P T2 .u32=true) (h59:scal P T59=true)
    (hkn:kn=if b then [(0,yk)] else [])
    (hcond:CondC P N e ((te,.slice none 0 0)::c) kc tc b)
    (hb:(c.free N [te,1] && Ctx.free ((te,.slice none 0 0)::c) nb [1] && decide (te < N) && decide (te ≠ 1) && decide (te < nb) && decide (1 < nb) && decide (nb+2 < N))=true)
    (hb1:(Ctx.free ((te,.slice none 0 0)::c) nn [1] && decide (1 < nn) && decide (nn+9 < N))=true)
    (hb2:(Ctx.free ((te,.slice none 0 0)::c) ng [1] && decide (1 < ng) && decide (ng+2 < N) && decide (ng+3≤mm) && decide (mm < N) && decide (ng+3≤qq) && decide (qq < N))=true)
    (hb3:(Ctx.free ((ng+2,.int .i64 0)::(ng+1,.int .i64 1)::(ng,.slice none 0 0)::(te,.slice none 0 0)::c) n1 [ti,1] && Ctx.free ((ng+2,.int .i64 0)::(ng+1,.int .i64 1)::(ng,.slice none 0 0)::(te,.slice none 0 0)::c) n2 [1] && decide (1 < n1) && decide (n1+1 < N) && decide (ti < n1) && decide (ti ≠ 1) && decide (ti < n2) && decide (1 < n2) && decide (n2+2 < N))=true)
    (hb4:(Ctx.free ((te,.slice none 0 0)::c) nE [1] && decide (1 < nE) && decide (nE+4 < N))=true)
    (hcase:b=true→∀ (e2:AE) (g:Nat) (w:World) (q:Option Addr) (cap:Nat),Anew e e2 g w→ApC P N e2 ((ng+2,.int .i64 ((0:Nat):Int))::(ng+1,.int .i64 ((1:Nat):Int))::(ng,.slice q 1 cap)::(te,.slice q 1 cap)::c) kcase (tagW (0,yk))) :
    ApC P N e c (.seq (Code.region id ⟨[⟨some te, .assign (.const (.slice none 0 0)), u0, q0, f0, none⟩]⟩ false) (.seq (.seq kc (.cond (.tmp tc) (Code.region id1 ⟨[⟨some nb, .move (.tmp te), u1, q1, f1, none⟩, ⟨some (nb + 1), .buildSlice T 1 #[(0, .const (.int .u32 0))], u2, q2, f2, none⟩, ⟨some (nb + 2), .call ⟨.builtin .append, #[.tmp nb, .tmp (nb + 1)], #[T, T]⟩, u3, q3, f3, none⟩, ⟨some te, .assign (.tmp (nb + 2)), u4, q4, f4, none⟩]⟩ false) .skip)) (.seq (Code.region id2 ⟨[oM nn 1 t0 p0 e0, oM (nn + 1) te t1 p1 e1, ⟨some (nn + 2), .call ⟨.builtin .len, #[.tmp (nn + 1)], #[T]⟩, t2, p2, e2, none⟩, oM (nn + 3) s t3 p3 e3, ⟨some (nn + 4), .nilCheck (.tmp (nn + 3)), t4, p4, e4, none⟩, oF (nn + 5) S (nn + 4) fo t5 p5 e5,
        oC (nn+6) flen #[.tmp (nn+5)] aa0 t6 p6 e6,⟨some (nn+7),.binOp .add T3 (.tmp (nn+2)) (.tmp (nn+6)) T4,t7,p7,e7,none⟩,⟨some (nn+8),.convert T1 T2 (.tmp (nn+7)),t8,p8,e8,none⟩,
        oC (nn+9) fuv #[.tmp nn,.tmp (nn+8)] aa1 t9 p9 e9,⟨some 1,.assign (.tmp (nn+9)),u5,q5,f5,none⟩]⟩ false) (.seq (.seq (Code.region id3 ⟨[⟨some ng,.move (.tmp te),u6,q6,f6,none⟩,⟨some (ng+1),.call ⟨.builtin .len,#[.tmp ng],#[T]⟩,u7,q7,f7,none⟩,⟨some (ng+2),.move (.const (.int .i64 0)),u8,q8,f8,none⟩]⟩ false) (.block b0 (.loop (.seq (Code.region id4 ⟨[⟨some mm,.binOp .lss TI (.tmp (ng+2)) (.tmp (ng+1)) TI',u9,q9,f9,none⟩]⟩ false) (.seq (.cond (.tmp mm) .skip (.exit b0)) (.seq (.block b1 (.seq (Code.region id5 ⟨[⟨some n1,.indexAddr T (.tmp ng) (.tmp (ng+2)),u10,q10,f10,none⟩,⟨some (n1+1),.load T59 (.tmp n1),u11,q11,f11,none⟩,⟨some ti,.assign (.tmp (n1+1)),u12,q12,f12,none⟩]⟩ false) (.seq (Code.region id6 ⟨[⟨some n2,.move (.tmp ti),u13,q13,f13,none⟩]⟩ false) (.block b6 (.seq (Code.region id7 ⟨[⟨some (n2+2),.binOp .eql T59 (.tmp n2) (.const (.int .u32 0)) T6,u14,q14,f14,none⟩,⟨some (n2+1),.assign (.tmp (n2+2)),u15,q15,f15,none⟩]⟩ false) (.cond (.tmp (n2+1)) kcase .skip))))))
            (Code.region id8 ⟨[⟨some qq,.binOp .add TI'' (.tmp (ng+2)) (.const (.int .i64 1)) TI3,u16,q16,f16,none⟩,⟨some (ng+2),.move (.tmp qq),u17,q17,f17,none⟩]⟩ false)))))))
        (Code.region id9 ⟨[⟨some nE,.move (.tmp s),u18,q18,f18,none⟩,⟨some (nE+1),.nilCheck (.tmp nE),u19,q19,f19,none⟩,⟨some (nE+2),.fieldAddr S (.tmp (nE+1)) fo,u20,q20,f20,none⟩,⟨some (nE+3),.move (.tmp 1),u21,q21,f21,none⟩,⟨some (nE+4),.call ⟨.value (.func feach),#[.tmp (nE+2),.tmp (nE+3)],aa2⟩,u22,q22,f22,none⟩,⟨some 1,.assign (.tmp (nE+4)),u23,q23,f23,none⟩]⟩ false)))))
      (uvW (kn++ZV y).length++Zr (kn++ZV y)):=by
  refine ApC.fits fun hf=>?_;have hn:(kn++ZV y).length < 4294967296:=by
    have:=Z3W (kn++ZV y);rw[List.length_append] at hf;omega
  intro K Q a w v xs hN hd hc hv hst hbd hK;simp only[Bool.and_eq_true,decide_eq_true_eq] at hb;obtain ⟨⟨⟨⟨⟨⟨q1,q2⟩,q3⟩,q4⟩,q5⟩,q6⟩,q7⟩:=hb;refine wS fun K1 hK1=>?_;refine wC (wAs (v:=.slice none 0 0) (eCo _ _) ?_);rw[wNi];refine hK1 _ w ?_;refine wp_seq_k fun K2 hK2=>?_;refine wp_seq_k fun K3 hK3=>?_;refine hcond K3 _ _ w v xs (by simp only[sPu];exact hN) (by simp only[dPu];exact hd) (Ctx.on_cons (Ctx.on_put hc q1 (.inr (by simp))) (gQ)) (by rw[gPn q4];exact hv) hst ?_;intro a3 w3 n3 d3 c3 g3 s3 hb3';refine hK3 a3 w3 ?_;refine wp_cond_split (t:=b) (by rw[eTm,hb3']) (fun hbt=>?_) (fun hbt=>?_)
  · -- the list of one
    refine Z2 ?_;refine wC (wMv (v:=.slice none 0 0) (by rw[eTm];exact c3 (te,.slice none 0 0) (by simp)) ?_);rw[wCo];refine Z5d (cs:=[.int .u32 0]) hT hz rfl (by omega) (by rw[eCo];rfl) rfl (fun _=>?_);refine wC (Z3R (A:=fun _=>False) (n:=0) (m:=1) (c:=1) (xs:=[]) (news:=[.int .u32 0]) (b:=w3.heap.size) (o:=0) hT hz rfl (v:=.slice none 0 0) (by rw[eTm,gR,gQ]) (by rw[eTm,gQ]) Own.nil (by omega) rfl ?_ (by simp[Value.oneCell']) (by omega) (by decide) ?_)
    · exact ZE w3 [.int .u32 0].toArray et (0,0)
    intro vt wt ft ot hbk;refine wC (wAs (v:=vt) (by rw[eTm,gQ]) ?_);rw[wNi];have fa:Fr [] w3 (w3.alloc (.cells #[.int .u32 0] et)):=Fr.alloc _ _ _;have sa:(w3.alloc (.cells #[.int .u32 0] et)).heap.size=w3.heap.size+1:=Zb _ _;have ftn:Fr [] (w3.alloc (.cells #[.int .u32 0] et)) wt:=ft;have f3:Fr [] w3 wt:=fa.tr ftn;obtain ⟨_,⟨_,h0⟩ | ⟨g,o,cap,hg,rfl,hcl,hcm,hcr,hct⟩⟩:=ot
    · cases h0
    simp only[false_or,List.nil_append] at hg hcr;have hst4:ASt e xs v wt:=⟨s3.ok,s3.fr.tr (f3.nil (l:=_)),s3.own.upTo f3 (fun b hb=>by rcases hb with hb | hb;exact .inl hb;exact .inr ⟨hb.1,Nat.lt_of_lt_of_le hb.2 f3.size⟩),s3.inn⟩;have hgs:∀ r ∈ Z1 v 1,r.b ≠ g:=by
      intro r hr he;have:=s3.ltA _ (s3.own.spare_in r hr);omega
    obtain ⟨e2,han,hst5,hback⟩:=hst4.anew hwh hg.2 hgs;have hcell:e2.w0.cell? ⟨g,o,none⟩=some (.int .u32 0):=by rw[han.w];exact Zz.1 hcr
    have hkl:kn.length=1:=by rw[hkn,hbt];rfl
    refine hK2 _ wt ?_;have hkv:(Value.slice (some ⟨g,o,none⟩) (0+1) cap) = .slice (some ⟨g,o,none⟩) kn.length cap:=by rw[hkl]
    rw[hkv];refine ApC.known1 (e:=e2) hs hF (han.fa _ _ _ _ hB hx) (han.B _ hB) hl hu hE hT hTs hz h1 h2 h59 hkn hn hb1 hb2 hb3 hb4 (fun _=>⟨⟨g,o,rfl,han.g,hcell⟩,hcase hbt e2 g wt (some ⟨g,o,none⟩) cap han⟩) K Q _ wt v xs (by simp only[sPu];exact n3) (by simp only[dPu];exact d3) (Ctx.on_cons ?_ (gQ)) ?_ hst5 hbd fun a' w' v' n' d' c' g' s'=>hK a' w' v' n' d' (Ctx.on_tail c') g' (hback _ _ _ s')
    · exact Ctx.on_put (Ctx.on_put (Ctx.on_put (Ctx.on_put (Ctx.on_tail c3) (Ctx.free_tail q2) (.inl (by omega))) (Ctx.free_tail q2) (.inl (by omega))) (Ctx.free_tail q2) (.inl (by omega))) q1 (.inr (by simp))
    rw[gPn q4,gR,gR,gR];exact g3
  refine wp_skip (hK2 _ w3 ?_);have hkl:kn.length=0:=by rw[hkn,hbt];rfl
  have hkv:(Value.slice none 0 0) = .slice none kn.length 0:=by rw[hkl]
  rw[hkv] at c3;exact ApC.known1 hs hF hx hB hl hu hE hT hTs hz h1 h2 h59 hkn hn hb1 hb2 hb3 hb4 (fun h=>by rw[hbt] at h;cases h) K Q _ w3 v xs n3 d3 c3 g3 s3 hbd fun a' w' v' n' d' c' g' s'=>hK a' w' v' n' d' (Ctx.on_tail c') g' s'
end
end Go.Kq

namespace Go.Kq
open Go Go.Proofs
def isN0:V→Bool | .n i=>decide (i=0) | _=>true
def FatG (tys:List Ty) (G:List V→List UInt8):Prop:=∀ (w:World) (A:Nat→Prop) (cs:List Value) (xs:List V),Reps w A tys cs xs→1≤(G xs).length
theorem Z8y {ty:Ty} {tys:List Ty} {g:V→List UInt8} {G:List V→List UInt8} (h:Fat ty g):FatG (ty::tys) (gC g G):=by
  rintro w A cs xs ⟨c1,c2,x,r,rfl,rfl,h1,h2⟩;exact Z1L (h w A c1 x h1)
theorem fat_stG {tys:List Ty} {G:List V→List UInt8} (h:FatG tys G):Fat (.st tys) (gSt G):=by
  rintro w A cs x ⟨xs,rfl,h1⟩;exact h w A cs xs h1
section
variable {P:Program} {N n m s L id id1 id2 pb po fi o:Nat} {e:AE} {c:Ctx} {k:Code} {ys:List UInt8}
  {t0 t1 t2 t3 t4 t5 t6 t7 t8 t9:TypeId} {p0 p1 p2 p3 p4 p5 p6 p7 p8 p9:String} {e0 e1 e2 e3 e4 e5 e6 e7 e8 e9:Array Edge}
theorem condInt {S T Tb Tc:TypeId} {kd:IntKind} {x:V} (hs:(s,Value.pointer (some ⟨pb,po,none⟩)) ∈ c) (hF:Zp P S fi o=true) (hT:scal P T=true) (hx:FA e pb (po+o) (.int kd) x) (hB:e.B pb)
    (hb:(c.free n [1] && decide (1 < n) && decide (n+4 < N))=true) :
    CondC P N e c (Code.region id ⟨[oM n s t0 p0 e0,⟨some (n+1),.nilCheck (.tmp n),t1,p1,e1,none⟩,oF (n+2) S (n+1) fi t2 p2 e2,oL (n+3) T (n+2) t3 p3 e3,⟨some (n+4),.binOp .neq Tb (.tmp (n+3)) (.const (.int kd 0)) Tc,t4,p4,e4,none⟩]⟩ false) (n+4) (!isN0 x):=by
  obtain ⟨cv,hcv,i,hcs,rfl,_⟩:=hx.one rfl;obtain rfl:cv = .int kd i:=by simpa using hcs
  rw[show (!isN0 (.n i))=(i != 0) from by simp[isN0];by_cases h:i=0 <;> simp[h]];exact condNe hs hF hT hcv hB hb
theorem ApC.uvc {fuv:FuncId} {a0:Array TypeId} {kk:Nat} {ki:Int} (hki:ki=(kk:Int)) (hu:ApU P fuv) (hk:kk < 4294967296) (hb:(c.free n [1] && decide (1 < n) && decide (n+1 < N))=true) :
    ApC P N e c (Code.region id ⟨[oM n 1 t0 p0 e0,oC (n+1) fuv #[.tmp n,.const (.int .u32 ki)] a0 t1 p1 e1,oT 1 (n+1) t2 p2 e2]⟩ false) (uvW kk):=by
  subst hki;intro K Q a w v xs hN hd hc hv hst hbd hK;simp only[Bool.and_eq_true,decide_eq_true_eq] at hb;obtain ⟨⟨q1,q2⟩,q3⟩:=hb;refine Z2 ?_;refine wC (wMv (v:=v) (by rw[eTm];exact hv) ?_);refine wC (wCr (vs:=#[v,.int .u32 (kk:Int)]) hu.enters (by simp only[List.map_toArray,List.map_cons,List.map_nil,eTm,eCo];rw[gQ]) (Apd.ret (hu.call w _ v xs kk hst.own hk (Nat.le_of_lt hbd))) ?_);intro v' w' hr;refine wC (wAs (v:=v') (by rw[eTm,gQ]) ?_);rw[wNi];exact ApC.done (c:=c) (by simp only[sPu];exact hN) (by simp only[dPu];exact hd) (Ctx.on_put (Ctx.on_put (Ctx.on_put hc q1 (.inl (by omega))) q1 (.inl (by omega))) q1 (.inr (by simp))) (gQ) hst hK hr
theorem ak_tag {fuv:FuncId} {n2:Nat} {a0 a1:Array TypeId} {kk:Nat} {ki:Int} {val:List UInt8} (hu:ApU P fuv) (hki:ki=(kk:Int)) (hkk:val.length=kk) (hk:kk < 4294967296)
    (hb:(c.free n [1] && decide (1 < n) && decide (n+1 < N))=true) (hb2:(c.free n2 [1] && decide (1 < n2) && decide (n2+1 < N))=true) (h:ApC P N e c k val) :
    ApC P N e c (.seq (Code.region id ⟨[oM n 1 t0 p0 e0,oC (n+1) fuv #[.tmp n,.const (.int .u32 0)] a0 t1 p1 e1,oT 1 (n+1) t2 p2 e2]⟩ false) (.seq (Code.region id1 ⟨[oM n2 1 t3 p3 e3,oC (n2+1) fuv #[.tmp n2,.const (.int .u32 ki)] a1 t4 p4 e4,oT 1 (n2+1) t5 p5 e5]⟩ false) k)) (tagW (0,val)):=by
  subst hkk;exact ApC.seq (ApC.uvc rfl hu (by omega) hb) (ApC.seq (ApC.uvc hki hu hk hb2) h)
theorem Z8I {kd:IntKind} {w:World} {A:Nat→Prop} {cs:List Value} {x:V} {sz:Nat} (hr:Rep w A (.int kd) cs x):(Z0N sz x).length=sz:=by
  obtain ⟨i,_,rfl,_⟩:=hr;exact fxL _ _
end
end Go.Kq

namespace Go.Kq
open Go Go.Proofs
def RunS (P:Program) (ge:Nat) (cx:Cx) (c:Code) (o:Nat) (tys:List Ty) (ds:List V) (f:Rd):Prop :=
  ∀ (e : Env) (pb po : Nat) (Q : Exit → Act → World → Prop) (a : Act) (w : World) (st : RSt) (xs : List V) (st' : RSt),
    Z1a cx e pb po a→Mem e pb po ge w st→w.there pb (po+o) (Ty.sizes tys)→(∃ z,w.rangeAt pb (po+o) z∧Reps w Z00 tys z ds)→f e.ver e.flex st=some (.l xs,st')→st'.bad=false →
    (∀ a' w',a'.tmps.size=cx.N→a'.defers=[]→get a' cx.tr = .nilIface→Fr [⟨e.rb,0,2⟩,⟨pb,po+o,po+o+Ty.sizes tys⟩] w w' →
      (∃ z,w'.rangeAt pb (po+o) z∧Reps w' (Foot e.sb w.heap.size w'.heap.size) tys z xs)→Q .ret a' w') →
    c.wp P Q a w
theorem Z6i {f g:Rd} {ver:Int} {fl:Bool} {st st':RSt} {y:V} (h:ZM f g ver fl st=some (y,st')):∃ x s1 z,f ver fl st=some (x,s1)∧g ver fl s1=some (z,st')∧y=Z56 x z:=by
  unfold ZM at h
  split at h
  · cases h
  rename_i x s1 h1
  split at h
  · cases h
  rename_i z s2 h2
  simp only[Option.some.injEq,Prod.mk.injEq] at h;obtain ⟨rfl,rfl⟩:=h;exact ⟨x,s1,z,h1,h2,rfl⟩
def BdyS (P:Program) (ge N tb tv tr:Nat) (c:Code) (tys:List Ty) (ds:List V) (fl:Int→Bool) (g:Rd):Prop :=
  ∀ (e : Env) (pb : Nat) (Q : Exit → Act → World → Prop) (a : Act) (w : World) (st : RSt) (xs : List V) (st' : RSt),
    a.tmps.size=N→a.defers=[]→get a tb = .pointer (some ⟨e.rb,0,none⟩)→get a 0 = .pointer (some ⟨pb,0,none⟩)→get a 2 = .bool e.uns→get a tv = .int .i16 e.ver→e.flex=fl e.ver →
    Mem e pb 0 ge w st→w.there pb 1 (Ty.sizes tys)→(∃ z,w.rangeAt pb 1 z∧Reps w Z00 tys z ds)→g e.ver (fl e.ver) st=some (.l xs,st')→st'.bad=false →
    (∀ a' w',a'.tmps.size=N→a'.defers=[]→get a' tr = .nilIface→Fr [⟨e.rb,0,2⟩,⟨pb,1,1+Ty.sizes tys⟩] w w' →
      (∃ z,w'.rangeAt pb 1 z∧Reps w' (Foot e.sb w.heap.size w'.heap.size) tys z xs)→Q .ret a' w') →
    c.wp P Q a w
theorem bdyS_s {P:Program} {ge N tb tv tr ts n i:Nat} {tf:Option Nat} {c:Code} {tys:List Ty} {ds:List V} {g:Rd} {e:Env} {pb:Nat} {Q:Exit→Act→World→Prop} {a:Act} {w:World} {st st':RSt} {xs:List V}
    {t1 t2:TypeId} {p1 p2:String} {e1 e2:Array Edge} (h:RunS P ge ⟨N,tb,ts,tv,tf,2,tr⟩ c 1 tys ds g)
    (hb:(decide (n < N) && decide (ts < N) && decide (2 < ts) && decide (tb < ts) && decide (tv < ts) && (match tf with | some u=>decide (u < ts) | none=>true) && decide (ts≤n))=true)
    (hN:a.tmps.size=N) (hd:a.defers=[]) (hgb:get a tb = .pointer (some ⟨e.rb,0,none⟩)) (hg0:get a 0 = .pointer (some ⟨pb,0,none⟩)) (hg2:get a 2 = .bool e.uns) (hgv:get a tv = .int .i16 e.ver)
    (hgf:∀ u,tf=some u→get a u = .bool e.flex) (hm:Mem e pb 0 ge w st) (ht:w.there pb 1 (Ty.sizes tys)) (hz:∃ z,w.rangeAt pb 1 z∧Reps w Z00 tys z ds)
    (hg:g e.ver e.flex st=some (.l xs,st')) (hbad:st'.bad=false)
    (hk:∀ a' w',a'.tmps.size=N→a'.defers=[]→get a' tr = .nilIface→Fr [⟨e.rb,0,2⟩,⟨pb,1,1+Ty.sizes tys⟩] w w' →
      (∃ z,w'.rangeAt pb 1 z∧Reps w' (Foot e.sb w.heap.size w'.heap.size) tys z xs)→Q .ret a' w') :
    (Code.seq (Code.region i ⟨[oM n 0 t1 p1 e1,oT ts n t2 p2 e2]⟩ false) c).wp P Q a w:=by
  simp only[Bool.and_eq_true,decide_eq_true_eq] at hb;obtain ⟨⟨⟨⟨⟨⟨b1,b2⟩,b3⟩,b4⟩,b5⟩,b6⟩,b7⟩:=hb;refine tId (wp_seq_k fun K1 hK1=>?_);refine Z43 (m:=ts) (by omega) (by omega) b7 (Nat.le_refl _) fun a1 k1 g1=>hK1 a1 w (tUp ?_);have hs:Z1a ⟨N,tb,ts,tv,tf,2,tr⟩ e pb 0 a1:=by
    refine ⟨k1.size.trans hN,k1.defers.trans hd,(k1.get _ b4).trans hgb,g1.trans hg0,(k1.get _ b5).trans hgv,fun u hu=>?_,(k1.get _ b3).trans hg2⟩;subst hu;simp only[decide_eq_true_eq] at b6;exact (k1.get _ b6).trans (hgf u rfl)
  refine h e pb 0 Q a1 w st xs st' hs hm (by rw[Nat.zero_add];exact ht) (by rw[Nat.zero_add];exact hz) hg hbad ?_;simp only[Nat.zero_add];exact hk
theorem bdyS_fl {P:Program} {ge N tb tv tr ts tf n n1 n2 n3 i i0 i1 i2:Nat} {c:Code} {tys:List Ty} {ds:List V} {g:Rd} {j:Int} {T U:TypeId}
    {t0 t1 t2 t3 t4 t5 t6:TypeId} {p0 p1 p2 p3 p4 p5 p6:String} {e0 e1 e2 e3 e4 e5 e6:Array Edge} (h:RunS P ge ⟨N,tb,ts,tv,some tf,2,tr⟩ c 1 tys ds g)
    (hb:(decide (n < N) && decide (ts < N) && decide (2 < tf) && decide (tb < tf) && decide (tv < tf) && decide (tf < ts) && decide (ts≤n) && decide (n1 < N) && decide (ts≤n1) && decide (n2+1 < N) && decide (ts≤n2) && decide (n3 < N) && decide (ts≤n3))=true) :
    BdyS P ge N tb tv tr (.seq (Code.region i0 ⟨[oM n1 tv t0 p0 e0]⟩ false) (.seq (Code.region i1 ⟨[oM n2 tv t1 p1 e1,⟨some (n2+1),.binOp .geq T (.tmp n2) (.const (.int .i16 j)) U,t2,p2,e2,none⟩,oT tf (n2+1) t3 p3 e3]⟩ false) (.seq (Code.region i2 ⟨[oM n3 tf t4 p4 e4]⟩ false) (.seq (Code.region i ⟨[oM n 0 t5 p5 e5,oT ts n t6 p6 e6]⟩ false) c)))) tys ds (fun v=>decide (v≥j)) g:=by
  intro e pb Q a w st xs st' hN hd hgb hg0 hg2 hgv hfl hm ht hz hg hbad hk;simp only[Bool.and_eq_true,decide_eq_true_eq] at hb;obtain ⟨⟨⟨⟨⟨⟨⟨⟨⟨⟨⟨⟨b1,b2⟩,b3⟩,b4⟩,b5⟩,b6⟩,b7⟩,b8⟩,b9⟩,b10⟩,b11⟩,b12⟩,b13⟩:=hb;refine tId (wp_seq_k fun K1 hK1=>?_);refine Z5C (m:=ts) (by omega) b9 fun a1 k1 _=>hK1 a1 w (tUp ?_);refine tId (wp_seq_k fun K2 hK2=>?_);have hv1:get a1 tv = .int .i16 e.ver:=(k1.get _ (by omega)).trans hgv;refine Z2 ?_;rw[wCo,wMw,eTm,hv1,wCo];have hs1:=k1.size;refine Z2P (k1:=.i16) (i:=e.ver) (j:=j) (by rw[eTm,gQ]) rfl ?_;rw[wCo,wAg,eTm,gQ];generalize ha2:((a1.put (some n2) (Value.int .i16 e.ver)).put (some (n2+1)) (.bool (decide (e.ver≥j)))).put (some tf) (.bool (decide (e.ver≥j)))=a2;have k2:Kept tf a1 a2:=by subst ha2;exact ((Kept.put0 (by omega) _).pt).put (Nat.le_refl _) _
  have g2:get a2 tf = .bool (decide (e.ver≥j)):=by subst ha2;exact gQ
  have hs2:=k2.size;refine hK2 a2 w (tUp ?_);refine tId (wp_seq_k fun K3 hK3=>?_);refine Z5C (m:=ts) (by omega) b13 fun a3 k3 _=>hK3 a3 w (tUp ?_);have g2:get a2 tf = .bool e.flex:=by rw[hfl];exact g2
  rw[← hfl] at hg;have kk:Kept tf a a3:=((k1.mono (by omega)).trans k2).trans (k3.mono (by omega));exact bdyS_s h (by simp only[Bool.and_eq_true,decide_eq_true_eq];exact ⟨⟨⟨⟨⟨⟨b1,b2⟩,by omega⟩,by omega⟩,by omega⟩,b6⟩,b7⟩) (kk.size.trans hN) (kk.defers.trans hd) ((kk.get _ b4).trans hgb) ((kk.get _ (by omega)).trans hg0) ((kk.get _ b3).trans hg2)
    ((kk.get _ b5).trans hgv) (fun u hu=>by cases hu;exact (k3.get _ b6).trans g2) hm ht hz hg hbad hk
structure ReadS (P:Program) (ge:Nat) (f:FuncId) (tys:List Ty) (ds:List V) (fl:Int→Bool) (g:Rd):Prop where
  enters:Enters P f
  call:∀ w pb sb ver uns srcv xs nl er ys st',w.there pb 0 (1+Ty.sizes tys) → -32768≤ver→ver≤32767→w.cell? ⟨pb,0,none⟩=some (.int .i16 ver)→(∃ z,w.rangeAt pb 1 z∧Reps w Z00 tys z ds)→Src w sb srcv xs nl →
    w.cell? ⟨ge,0,none⟩=some er→ge ≠ pb→pb ≠ sb→sb < w.heap.size→g ver (fl ver) ⟨xs,nl,false⟩=some (.l ys,st')→st'.bad=false →
    Calls P f #[.pointer (some ⟨pb,0,none⟩),srcv,.bool uns] w fun e w'=>Fr [⟨pb,0,1+Ty.sizes tys⟩] w w'∧e = .returned .nilIface∧w'.cell? ⟨pb,0,none⟩=some (.int .i16 ver)∧∃ z,w'.rangeAt pb 1 z∧Reps w' (Foot sb w.heap.size w'.heap.size) tys z ys
theorem rootS {P:Program} {ge:Nat} {f fd:FuncId} {fn:Func} {N tb tv tr:Nat} {cv:Code} {tys:List Ty} {ds:List V} {g:Rd} {d:List V→List V} {fl:Int→Bool}
    {n1 n2 n3 i0 i1 i2 i3:Nat} {TR S Tv:Nat} {kv:Nat} {x0:Value} {ats:Array TypeId}
    {t0 t1 t2 t3 t4 t5 t6 t7 t8 t9 t10 t11:TypeId} {p0 p1 p2 p3 p4 p5 p6 p7 p8 p9 p10 p11:String} {e0 e1 e2 e3 e4 e5 e6 e7 e8 e9 e10 e11:Array Edge}
    (hf:P.funcs[f]?=some fn) (hname:nG fn=false) (hres:fn.results = #[.tmp tr]) (hN:fn.ntmps=N)
    (hbody:fn.body=some (.seq (Code.region i0 ⟨[oA tr (.const x0) t0 p0 e0]⟩ false) (.seq (Code.region i1 ⟨[oM n1 0 t1 p1 e1,oC (n1+1) fd #[.tmp n1] ats t2 p2 e2]⟩ false) (.seq (Code.region i2 ⟨[oM n2 1 t3 p3 e3,⟨some (n2+1),.build TR #[(0,.tmp n2)],t4,p4,e4,none⟩,⟨some tb,.alloc TR,t5,p5,e5,none⟩,oS TR tb (n2+1) t6 p6 e6]⟩ false) (.seq (Code.region i3 ⟨[oM n3 0 t7 p7 e7,⟨some (n3+1),.nilCheck (.tmp n3),t8,p8,e8,none⟩,oF (n3+2) S (n3+1) kv t9 p9 e9,oL (n3+3) Tv (n3+2) t10 p10 e10,oT tv (n3+3) t11 p11 e11]⟩ false)
        cv)))))
    (hcv:BdyS P ge N tb tv tr cv tys ds fl g) (hd:DefM P fd (.int .i16::tys) d) (hdd:∀ v,d (v::ds)=v::ds) (hTR:Z1H P TR) (hTv:scal P Tv=true) (hS:Zp P S kv 0=true)
    (hb:(decide (2 < tr) && decide (tr < tb) && decide (tb < tv) && decide (tv < n1) && decide (tv < n2) && decide (tv < n3) && decide (n1+1 < N) && decide (n2+1 < N) && decide (n3+3 < N))=true) :
    ReadS P ge f tys ds fl g:=by
  simp only[Bool.and_eq_true,decide_eq_true_eq] at hb;obtain ⟨⟨⟨⟨⟨⟨⟨⟨b1,b2⟩,b3⟩,b4⟩,b5⟩,b6⟩,b7⟩,b8⟩,b9⟩:=hb;refine ⟨enters_of hf hname hbody,?_⟩;intro w pb sb ver uns srcv xs nl er ys st' ht hv1 hv2 hver hz hsrc her hgp hps hsl hg hbd;refine calls_of_wp hf hbody ?_;generalize ha0:({ tmps:=#[Value.pointer (some ⟨pb,0,none⟩),srcv,Value.bool uns]++Array.replicate (fn.ntmps - #[Value.pointer (some ⟨pb,0,none⟩),srcv,Value.bool uns].size) undef,defers:=[] }:Act)=a0;have hsz:a0.tmps.size=N:=by subst ha0;simp[hN];omega
  have hd0:a0.defers=[]:=by subst ha0;rfl
  have q0:get a0 0 = .pointer (some ⟨pb,0,none⟩):=by subst ha0;exact gAr rfl
  have q1:get a0 1=srcv:=by subst ha0;exact gAr rfl
  have q2:get a0 2 = .bool uns:=by subst ha0;exact gAr rfl
  refine tId (wp_seq_k fun K1 hK1=>?_);refine Zu (m:=3) (by omega) (by omega) fun a1 k1 _=>hK1 a1 w (tUp ?_);have hs1:=k1.size;refine tId (wp_seq_k fun K2 hK2=>?_);obtain ⟨z,hz1,hz2⟩:=hz;have hzl:=hz2.length;have hzr:w.rangeAt pb 0 (.int .i16 ver::z):=by rw[Zn];exact ⟨hver,by rw[Nat.zero_add];exact hz1⟩
  have hzz:Reps w Z00 (.int .i16::tys) (.int .i16 ver::z) (.n ver::ds):=⟨[.int .i16 ver],z,.n ver,ds,rfl,rfl,⟨ver,rfl,rfl,by simpa [IntKind.min,IntKind.signed,IntKind.bits] using hv1,by simpa [IntKind.max,IntKind.signed,IntKind.bits] using hv2⟩,hz2⟩;have hlen:(Value.int .i16 ver::z).length=1+Ty.sizes tys:=by simp[hzl];omega
  refine r_do (m:=3) (R:=fun w'=>(∃ z',w'.rangeAt pb 0 z'∧Reps w' Z00 (.int .i16::tys) z' (d (.n ver::ds)))∧Fr [⟨pb,0,1+Ty.sizes tys⟩] w w') hd.enters ((k1.get _ (by omega)).trans q0)
    ((hd.call w pb 0 _ _ hzr (by rw[hlen];exact ht) hzz).mono (by rintro e' w' ⟨x,h1,h2,h3⟩;refine ⟨x,h1,h2,?_⟩;rw[hlen,Nat.zero_add] at h3;exact h3)) (by omega) (by omega) ?_
  rintro a2 w2 ⟨⟨z2,hz3,hz4⟩,f2⟩ k2;refine hK2 a2 w2 (tUp ?_);have hs2:=k2.size;rw[hdd] at hz4;obtain ⟨c1,c2,x1,r1,rfl,hx1,⟨iv,rfl,hiv,_,_⟩,hr2⟩:=hz4;simp at hx1
  obtain ⟨rfl,rfl⟩:=hx1;simp at hiv
  subst hiv;rw[List.singleton_append,Zn,Nat.zero_add] at hz3;refine tId (wp_seq_k fun K3 hK3=>?_);have hsrc2:=hsrc.kept f2 (by intro r hr;simp at hr;subst hr;exact hps);have kk2:=k1.trans k2;refine r_reader (m:=3) hTR ((kk2.get _ (by omega)).trans q1) hsrc2.oneCell (by omega) (by omega) (by omega) (by omega) ?_;intro a3 w3 rb k3 g3 hrb hrb2 f3 hrr htr;refine hK3 a3 w3 (tUp ?_);have hs3:=k3.size;have kk3:=kk2.trans k3;have hpbw:pb < w.heap.size:=Z0f ht (by omega);have hgew:=Zo her;have f2s:=f2.size;have f3s:=f3.size;have f23:Fr [⟨pb,0,1+Ty.sizes tys⟩] w w3:=f2.tr (Fr.nil f3);have ver3:w3.cell? ⟨pb,0,none⟩=some (.int .i16 ver):=f3.cell hz3.1 .nil;refine tId (wp_seq_k fun K4 hK4=>?_);refine Z88 (m:=tv) (pb:=pb) (po:=0) ((kk3.get _ (by omega)).trans q0) hTv hS ver3 (by omega) (by omega) (by omega) (by omega) (Nat.le_refl _) fun a4 k4 g4=>hK4 a4 w3 (tUp ?_);have hs4:=k4.size;have hrw:RW w3 rb sb ⟨xs,nl,false⟩:=(hsrc2.kept f3 (by simp)).reader hrr htr (by omega);have er3:w3.cell? ⟨ge,0,none⟩=some er:=f3.cell (f2.cell her (.cons (.inl (fun h=>hgp h.symm)) .nil)) .nil;have hm:Mem ⟨rb,sb,ver,fl ver,uns,er⟩ pb 0 ge w3 ⟨xs,nl,false⟩:=⟨hrw,er3,hgp,by simp only;omega,by simp only;omega,hps,by simp only;omega⟩;have fall:∀ w4,Fr [⟨rb,0,2⟩,⟨pb,1,1+Ty.sizes tys⟩] w3 w4→Fr [⟨pb,0,1+Ty.sizes tys⟩] w w4:=by
    intro w4 h4;refine f23.trans h4 ?_;intro r hr;simp at hr
    rcases hr with rfl | rfl
    · exact .inl (by simp only;omega)
    exact .inr ⟨⟨pb,0,1+Ty.sizes tys⟩,by simp,rfl,by simp,by simp⟩
  refine hcv ⟨rb,sb,ver,fl ver,uns,er⟩ pb _ a4 w3 ⟨xs,nl,false⟩ ys st' (by rw[k4.size,k3.size,k2.size,k1.size,hsz]) (by rw[k4.defers,k3.defers,k2.defers,k1.defers,hd0]) ((k4.get _ b3).trans g3)
    ((k4.get _ (by omega)).trans ((kk3.get _ (by omega)).trans q0)) ((k4.get _ (by omega)).trans ((kk3.get _ (by omega)).trans q2)) g4 rfl hm ((f23.there (Z6 ht (by omega) (by omega)))) ⟨c2,f3.range hz3.2 .nil,Reps.kept f3 (by simp) (fun _ h=>h) hr2⟩ hg hbd ?_
  intro a5 w5 hN5 hd5 hr5 hfr ⟨z5,hz5,hr6⟩;refine ⟨hd5,_,Z5 hres,fall w5 hfr,by rw[hr5],hfr.cell ver3 (.cons (.inl (by simp only;omega)) (.cons (.inr (.inl (by simp))) .nil)),z5,hz5,?_⟩;exact Reps.kept (Fr.refl [] w5) (by simp) (fun b hb=>hb.mono (by omega) (Nat.le_refl _)) hr6
structure Z8R (P:Program) (ge:Nat) (f:FuncId) (tys:List Ty) (ds:List V) (fl:Int→Bool) (g:Rd):Prop where
  enters:Enters P f
  call:∀ w pb sb ver srcv xs nl er ys st',w.there pb 0 (1+Ty.sizes tys) → -32768≤ver→ver≤32767→w.cell? ⟨pb,0,none⟩=some (.int .i16 ver)→(∃ z,w.rangeAt pb 1 z∧Reps w Z00 tys z ds)→Src w sb srcv xs nl →
    w.cell? ⟨ge,0,none⟩=some er→ge ≠ pb→pb ≠ sb→sb < w.heap.size→g ver (fl ver) ⟨xs,nl,false⟩=some (.l ys,st')→st'.bad=false →
    Calls P f #[.pointer (some ⟨pb,0,none⟩),srcv] w fun e w'=>∃ v,e = .returned v∧Fr [⟨pb,0,1+Ty.sizes tys⟩] w w'∧v = .nilIface∧w'.cell? ⟨pb,0,none⟩=some (.int .i16 ver)∧∃ z,w'.rangeAt pb 1 z∧Reps w' (Foot sb w.heap.size w'.heap.size) tys z ys
theorem read_ds {P:Program} {ge:Nat} {f fr:FuncId} {fn:Func} {uns:Bool} {tys:List Ty} {ds:List V} {fl:Int→Bool} {g:Rd} {i0 i1:Nat} {ats:Array TypeId} {t0 t1 t2 t3 t4:TypeId} {p0 p1 p2 p3 p4:String} {e0 e1 e2 e3 e4:Array Edge}
    (hr:ReadS P ge fr tys ds fl g) (hf:P.funcs[f]?=some fn) (hname:nG fn=false) (hres:fn.results = #[.tmp 4]) (hN:fn.ntmps=8)
    (hbody:fn.body=some (.seq (Code.region i0 ⟨[oA 4 (.const .nilIface) t0 p0 e0]⟩ false) (.seq (Code.region i1 ⟨[oM 5 0 t1 p1 e1,oM 6 1 t2 p2 e2,oC 7 fr #[.tmp 5,.tmp 6,.const (.bool uns)] ats t3 p3 e3,oT 4 7 t4 p4 e4]⟩ false) .ret))):Z8R P ge f tys ds fl g:=by
  refine ⟨enters_of hf hname hbody,?_⟩;intro w pb sb ver srcv xs nl er ys st' h1 h2 h3 h4 h5 h6 h7 h8 h9 h10 h11 h12;have hc:=hr.call w pb sb ver uns srcv xs nl er ys st' h1 h2 h3 h4 h5 h6 h7 h8 h9 h10 h11 h12;refine read_m hf hname hres hN hbody hr.enters (hc.mono ?_);rintro e w' ⟨hF,rfl,hm⟩;exact ⟨.nilIface,rfl,hF,rfl,hm⟩
structure BehSM (P:Program) (ge:Nat) (f:FuncId) (res:Int→List UInt8→Option (List UInt8)):Prop where
  enters:Enters P f
  call:∀ w A B ver dv dxs v xs er ty u ys,0≤ver→ver≤32767→OctE w A dv dxs→OctE w B v xs→xs.length≤4294967296→w.cell? ⟨ge,0,none⟩=some er→er = .iface ty u →
    res ver xs=some ys→(dxs++ys).length < 4294967296 →
    Calls P f #[.int .i64 ver,dv,v] w fun e w'=>Fr [] w w'∧∃ ov,e = .returned (.tuple #[ov,.bool true])∧OctE w' (From w.heap.size w') ov (dxs++ys)
theorem Z8D {P:Program} {ge fd:Nat} {fn:Func} {tys:List Ty} {ds:List V} {fl:Int→Bool} {g:Rd} {ga:Int→V→List UInt8}
    {T3 T22 T40 T49 te:TypeId} {f24 f27 f28 f29:FuncId} {b0 b1 b2 b3:Array TypeId} {i0 i1 i2 i3 i4 i5:Nat}
    {t0 t1 t2 t3 t4 t5 t6 t7 t8 t9 t10 t11 t12 t13 t14 t15 t16 t17 t18 t19 t20:TypeId} {p0 p1 p2 p3 p4 p5 p6 p7 p8 p9 p10 p11 p12 p13 p14 p15 p16 p17 p18 p19 p20:String} {e0 e1 e2 e3 e4 e5 e6 e7 e8 e9 e10 e11 e12 e13 e14 e15 e16 e17 e18 e19 e20:Array Edge}
    (hf:P.funcs[fd]?=some fn) (hname:nG fn=false) (hres:fn.results = #[.tmp 6,.tmp 7]) (hN:fn.ntmps=23)
    (hbody:fn.body=some (.seq (Code.region i0 ⟨[oA 6 (.const (.slice none 0 0)) t0 p0 e0,oA 7 (.const (.bool false)) t1 p1 e1]⟩ false) (.seq (Code.region i1 ⟨[oC 9 f24 #[] b0 t2 p2 e2,oT 8 9 t3 p3 e3]⟩ false) (.seq (Code.region i2 ⟨[oM 10 8 t4 p4 e4,oM 11 0 t5 p5 e5,⟨some 12,.convert T3 T40 (.tmp 11),t6,p6,e6,none⟩,oC 13 f27 #[(.tmp 10),(.tmp 12)] b1 t7 p7 e7]⟩ false) (.seq (.seq (Code.region i3 ⟨[oM 14 8 t8 p8 e8,oM 15 2 t9 p9 e9,⟨some 16,.call ⟨.builtin .append,#[(.const (.slice none 0 0)),(.tmp 15)],#[T22,T22]⟩,t10,p10,e10,none⟩,
    oC 17 f28 #[(.tmp 14),(.tmp 16)] b2 t11 p11 e11,⟨some 18,.binOp .neq T49 (.tmp 17) (.const .nilIface) T49,t12,p12,e12,none⟩]⟩ false) (.cond (.tmp 18) (.seq (Code.region i4 ⟨[oA 6 (.const (.slice none 0 0)) t13 p13 e13,oA 7 (.const (.bool false)) t14 p14 e14]⟩ false) .ret) .skip)) (.seq (Code.region i5 ⟨[oM 19 8 t15 p15 e15,oM 20 1 t16 p16 e16,⟨some 21,.call ⟨.builtin .append,#[(.const (.slice none 0 0)),(.tmp 20)],#[T22,T22]⟩,t17,p17,e17,none⟩,
    oC 22 f29 #[(.tmp 19),(.tmp 21)] b3 t18 p18 e18,oT 6 22 t19 p19 e19,oA 7 (.const (.bool true)) t20 p20 e20]⟩ false) .ret))))))
    (hs:Z3 P T22 te 1 1=true) (hz:ZG P te [.int .u8 0]) (h3:Zk P T3 .i64=true) (h50:Zk P T40 .i16=true) (h56:Z3l P T49=true)
    (hnew:NewM P f24 (.int .i16::tys) (.n 0::ds)) (hset:SetM P f27) (hread:Z8R P ge f28 tys ds fl g) (happ:∀ ver,AppMW P f29 (.st (.int .i16::tys)) (ga ver) ver) :
    BehSM P ge fd (Z5Y g fl ga):=by
  refine ⟨enters_of hf hname hbody,?_⟩;intro w AD A ver dv dxs v xs er ty u ys0 hv0 hv1 hdv hv hxl her hiface hres0 hb2;obtain ⟨ys,st',hgs,hgb,rfl⟩:∃ ys st',g ver (fl ver) ⟨xs,xs.isEmpty,false⟩=some (.l ys,st')∧st'.bad=false∧ys0=ga ver (.l (.n ver::ys)):=by
    unfold Z5Y at hres0
    split at hres0
    · rename_i ys st' h1
      by_cases hb:st'.bad
      · rw[if_pos hb] at hres0;cases hres0
      rw[if_neg hb] at hres0;simp only[Option.some.injEq] at hres0;exact ⟨ys,st',h1,by simpa using hb,hres0.symm⟩
    cases hres0
  have hge:=Zo her;refine calls_of_wp hf hbody ?_;generalize ha0:({ tmps:=#[Value.int .i64 ver,dv,v]++Array.replicate (fn.ntmps - #[Value.int .i64 ver,dv,v].size) undef,defers:=[] }:Act)=a0;have hsz:a0.tmps.size=23:=by subst ha0;simp[hN]
  have hd0:a0.defers=[]:=by subst ha0;rfl
  have g0:get a0 0 = .int .i64 ver:=by subst ha0;exact gAr rfl
  have g1:get a0 1=dv:=by subst ha0;exact gAr rfl
  have g2:get a0 2=v:=by subst ha0;exact gAr rfl
  refine wT fun K1 hK1=>?_;rw[wCo,wAg,eCo,wCo,wAg,eCo,wNi];generalize ha1:(a0.put (some 6) (.slice none 0 0)).put (some 7) (.bool false)=a1;have k1:Kept 6 a0 a1:=by subst ha1;exact (Kept.put0 (by omega) _).pt
  have hz1:=k1.size;refine hK1 a1 w (tUp ?_);refine wT fun K2 hK2=>?_;rw[wCo];refine Ze (R:=fun x w'=>∃ pb z,x = .pointer (some ⟨pb,0,none⟩)∧w.heap.size≤pb∧pb < w'.heap.size∧Fr [] w w'∧w'.rangeAt pb 0 z∧Reps w' Z00 (.int .i16::tys) z (.n 0::ds)∧w'.there pb 0 (Ty.sizes (.int .i16::tys))) hnew.enters (vs:=#[]) (by simp)
    ((hnew.call w).mono (by rintro e' w' ⟨pb,z,rfl,h⟩;exact ⟨_,rfl,pb,z,rfl,h⟩)) ?_
  rintro x w2 ⟨pb,z,rfl,hpb1,hpb2,f2,hzr,hzs,hth⟩;rw[wCo,wAg,eTm,gQ,wNi];generalize ha2:(a1.put (some 9) (.pointer (some ⟨pb,0,none⟩))).put (some 8) (.pointer (some ⟨pb,0,none⟩))=a2;have k2:Kept 8 a1 a2:=by subst ha2;exact (Kept.put0 (by omega) _).pt
  have q6:get a2 8 = .pointer (some ⟨pb,0,none⟩):=by subst ha2;exact gQ
  have hz2:=k2.size;refine hK2 a2 w2 (tUp ?_);refine wT fun K3 hK3=>?_;rw[wCo,wMw,eTm,q6,wCo,wMw,eTm,gR,k2.get 0 (by omega),k1.get 0 (by omega),g0,wCo];refine wCv (k1:=.i64) (i:=ver) h3 h50 (by rw[eTm,gQ]) ?_;rw[wrap16 (by omega),wCo];refine Ze (R:=fun x w'=>w'=w2.setCell ⟨pb,0,none⟩ (.int .i16 ver)) hset.enters (vs:=#[.pointer (some ⟨pb,0,none⟩),.int .i16 ver])
    (by
      simp only[List.map_toArray,List.map_cons,List.map_nil,eTm];rw[gR,gR,gQ,gQ])
    ((hset.call w2 pb ver (Z6 hth (by omega) (by simp[Ty.sizes,Ty.size]))).mono (by rintro e' w' ⟨⟨x,rfl⟩,rfl⟩;exact ⟨x,rfl,rfl⟩)) ?_
  rintro x w3 hw3;rw[wNi];generalize ha3:(((a2.put (some 10) (.pointer (some ⟨pb,0,none⟩))).put (some 11) (.int .i64 ver)).put (some 12) (.int .i16 ver)).put (some 13) x=a3;have k3:Kept 10 a2 a3:=by subst ha3;exact (((Kept.put0 (by omega) _).pt).pt).pt
  have hz3:=k3.size;have f3:Fr [⟨pb,0,0+1⟩] w2 w3:=by rw[hw3];exact Fr.set w2 pb 0 _
  have c3:w3.cell? ⟨pb,0,none⟩=some (.int .i16 ver):=by rw[hw3];exact ZO (Z6 hth (by omega) (by simp[Ty.sizes,Ty.size]))
  clear hw3;obtain ⟨c1,c2,x1,r1,rfl,hx1,hr1,hr2⟩:=hzs;obtain ⟨rfl,rfl⟩:=List.cons.inj hx1;obtain ⟨i,rfl,_⟩:=hr1;have hz4:w3.rangeAt pb 1 c2∧Reps w3 Z00 tys c2 ds:=by
    refine ⟨f3.range (Z4.1 hzr).2 (.cons (.inr (.inr (by simp))) .nil),Reps.kept f3 (fun _ _ h=>h) (fun _ h=>h) hr2⟩
  have hth3:w3.there pb 0 (1+Ty.sizes tys):=f3.there hth;have f03:Fr [] w w3:=by
    refine Fr.trans (l':=[⟨pb,0,0+1⟩]) (f2.nil (l:=[])) f3 ?_;intro r hr;simp at hr;subst hr;exact .inl (by simp only;omega)
  have sz2:=f2.size;have sz3:=f3.size;refine hK3 a3 w3 (tUp ?_);refine tId (wp_seq_k fun K4 hK4=>?_);refine wS fun K5 hK5=>?_;rw[wCo,wMw,eTm,k3.get 8 (by omega),q6,wCo,wMw,eTm,gR,k3.get 2 (by omega),k2.get 2 (by omega),k1.get 2 (by omega),g2,wCo];refine Z7b (xs:=xs) (A:=A) (v:=v) hs hz (by rw[eTm,gQ]) (hv.kept f03 (by simp) (fun _ h=>h)) (by omega) ?_;intro v' w4 sb' f4 hsb1 hsb2 hsrc';rw[wCo];have sz4:=f4.size;obtain ⟨sb,hsbp,hsbl,hsrc⟩:∃ sb,pb ≠ sb∧sb < w4.heap.size∧Src w4 sb v' xs xs.isEmpty:=by
    by_cases hx:xs=[]
    · subst hx;refine ⟨ge, by omega, by omega, ?_⟩
      rcases hsrc' with h | ⟨h,_⟩
      · exact .inl h
      simp at h
    exact ⟨sb',by omega,hsb2 hx,hsrc'⟩
  have c4:=f4.cell c3 .nil;have her4:w4.cell? ⟨ge,0,none⟩=some er:=f4.cell (f03.cell her .nil) .nil;refine Ze hread.enters (vs:=#[.pointer (some ⟨pb,0,none⟩),v'])
    (by
      simp only[List.map_toArray,List.map_cons,List.map_nil,eTm];rw[gR,gR,gQ,gQ])
    (hread.call w4 pb sb ver v' xs xs.isEmpty er ys st' (f4.there hth3) (by omega) hv1 c4 ⟨c2,f4.range hz4.1 .nil,Reps.kept f4 (by simp) (fun _ h=>h) hz4.2⟩ hsrc her4 (by omega) hsbp hsbl hgs hgb) ?_
  rintro rv w5 ⟨f5,rfl,c5,z,hrz,hrs⟩;rw[wCo];have f05:Fr [] w w5:=by
    refine f03.trans (Fr.trans (l':=[⟨pb,0,1+Ty.sizes tys⟩]) (l:=[⟨pb,0,1+Ty.sizes tys⟩]) (f4.nil (l:=_)) f5 (fun _ h=>Rng.in_self h)) ?_;intro r hr;simp at hr;subst hr;exact .inl (by simp only;omega)
  have sz5:=f5.size;have hpb5:pb < w5.heap.size:=by omega
  refine Z5e (b:=false) h56 (by rw[eTm,gQ]) .no ?_;rw[wNi];generalize ha5:(((((a3.put (some 14) (.pointer (some ⟨pb,0,none⟩))).put (some 15) v).put (some 16) v').put (some 17) .nilIface).put (some 18) (.bool false))=a5;have k5:Kept 14 a3 a5:=by subst ha5;exact ((((Kept.put0 (by omega) _).pt).pt).pt).pt
  have q16:get a5 18 = .bool false:=by subst ha5;exact gQ
  have hz5:=k5.size;have q6':get a5 8 = .pointer (some ⟨pb,0,none⟩):=by rw[k5.get 8 (by omega),k3.get 8 (by omega),q6]
  have q1':get a5 1=dv:=by rw[k5.get 1 (by omega),k3.get 1 (by omega),k2.get 1 (by omega),k1.get 1 (by omega),g1]
  have hd5:a5.defers=[]:=by rw[k5.defers,k3.defers,k2.defers,k1.defers,hd0]
  refine hK5 a5 w5 ?_;refine wp_cond_split (t:=false) (by rw[eTm,q16]) (fun hb=>by cases hb) fun hb=>wp_skip (hK4 a5 w5 (tUp ?_))
  skip
  refine wT fun K6 hK6=>?_;rw[wCo,wMw,eTm,q6',wCo,wMw,eTm,gR,q1',wCo];refine Z0r (A:=fun _=>False) (xs:=[]) (ys:=dxs) (v:=.slice none 0 0) hs hz (eCo _ _) (by rw[eTm,gQ]) Own.nil (hdv.kept f05 (by simp) (fun _ h=>h)) (by simp only[List.length_append,List.length_nil] at hb2 ⊢;omega) ?_;intro nv w6 hap;obtain ⟨_,hnv,f6,ho6,_⟩:=hap _ rfl
  cases hnv
  have f6:Fr [] w5 w6:=f6;have sz6:=f6.size;rw[wCo];refine wCr (vs:=#[.pointer (some ⟨pb,0,none⟩),nv]) (happ ver).enters (by simp only[List.map_toArray,List.map_cons,List.map_nil,eTm];rw[gR,gR,gQ,gQ])
    (((happ ver).call w6 _ (fun b'=>b'=pb∨Foot sb w4.heap.size w5.heap.size b') pb 0 (.int .i16 ver::z) ys nv ([]++dxs) (Zn.2 ⟨f6.cell c5 .nil,f6.range hrz .nil⟩)
      ⟨_,rfl,[.int .i16 ver],z,.n ver,ys,rfl,rfl,⟨ver,rfl,rfl,by simp[IntKind.min,IntKind.signed,IntKind.bits];omega,by simp[IntKind.max,IntKind.signed,IntKind.bits];omega⟩,Reps.kept f6 (by simp) (fun _ h=>.inr h) hrs⟩
      (.inl rfl) ho6 ?_ ?_ ?_ (by rw[List.nil_append];exact hb2))) ?_
  · rintro b' (h | h) (rfl | rfl | h2)
    · exact h
    · exact h
    · exact h
    · omega
    · omega
    omega
  · rintro b' (rfl | rfl | h2)
    · omega
    · omega
    omega
  · rintro b' (h | h)
    · exact h.elim
    exact h.2
  rintro ov w7 ⟨f7,ho7⟩;refine wC (wAs (v:=ov) (by rw[eTm,gQ]) ?_);rw[wCo,wAg,eCo,wNi];refine hK6 _ _ (wp_ret ?_);refine ⟨by simp only[dPu];exact hd5,_,Z6g hres (by rw[gR,gQ]) (gQ),?_,?_⟩
  · refine (f05.trans f6 (by simp)).trans f7 ?_;intro r hr
    rcases Z4Q ho6 r hr with h | h
    · exact h.elim
    have:=f05.size;exact .inl (by omega)
  rw[List.nil_append] at ho7;refine ⟨ov,rfl,?_⟩;have h7:=f7.size;have h05:=f05.size;exact (ho7.imp_A (A':=From w.heap.size w7) (by rintro b' ((h | h) | h);exact h.elim;exact ⟨by omega,by omega⟩;exact ⟨by omega,h.2⟩)).octE (by simp only[List.length_append] at hb2 ⊢;omega)
end Go.Kq

namespace Go.Kq
open Go Go.Proofs
theorem lawbs_m {P:Program} {f:FuncId} {fn:Func} {T3 T4 T22 T26 T31:TypeId} {f7 f8 f9 f10 f11 f12 f13:FuncId} {a0:Array TypeId} {a1:Array TypeId} {a2:Array TypeId} {a3:Array TypeId} {a4:Array TypeId} {a5:Array TypeId} {a6:Array TypeId} {i0 i1 i2 i3 i4 i5 i6 i7 i8 i9 i10 i11:Nat} {t0 t1 t2 t3 t4 t5 t6 t7 t8 t9 t10 t11 t12 t13 t14 t15 t16 t17 t18 t19 t20 t21 t22 t23 t24 t25 t26 t27 t28 t29 t30 t31 t32 t33 t34 t35 t36 t37 t38 t39 t40 t41 t42 t43 t44 t45 t46 t47 t48 t49 t50 t51:TypeId} {p0 p1 p2 p3 p4 p5 p6 p7 p8 p9 p10 p11 p12 p13 p14 p15 p16 p17 p18 p19 p20 p21 p22 p23 p24 p25 p26 p27 p28 p29 p30 p31 p32 p33 p34 p35 p36 p37 p38 p39 p40 p41 p42 p43 p44 p45 p46 p47 p48 p49 p50 p51:String} {e0 e1 e2 e3 e4 e5 e6 e7 e8 e9 e10 e11 e12 e13 e14 e15 e16 e17 e18 e19 e20 e21 e22 e23 e24 e25 e26 e27 e28 e29 e30 e31 e32 e33 e34 e35 e36 e37 e38 e39 e40 e41 e42 e43 e44 e45 e46 e47 e48 e49 e50 e51:Array Edge} {te:TypeId} {ge mx:Nat} {fx:Int} {fs:List Fd} {enc:Int→Bool→T→List UInt8} {res:Int→List UInt8→Option (List UInt8)} {small:T→Prop}
    (hf:P.funcs[f]?=some fn) (hname:nG fn=false) (hres':fn.results = #[.tmp 6]) (hN:fn.ntmps=52)
    (hbody:fn.body=some (.seq (Code.region i0 ⟨[⟨some 5,.box T26 (.tmp 2),t0,p0,e0,none⟩,
    oA 6 (.const (.bool false)) t1 p1 e1]⟩ false) (.seq (.seq (Code.region i1 ⟨[oM 13 1 t2 p2 e2,⟨some 14,.call ⟨.builtin .len,#[(.tmp 13)],#[T22]⟩,t3,p3,e3,none⟩,⟨some 15,.binOp .gtr T3 (.tmp 14) (.const (.int .i64 2147483647)) T3,t4,p4,e4,none⟩,
    oM 16 15 t5 p5 e5,⟨some 17,.load T26 (.tmp 5),t6,p6,e6,some (3,false)⟩,⟨some 18,.call ⟨.value (.func f7),#[(.tmp 17)],a0⟩,t7,p7,e7,some (3,false)⟩,⟨some 19,.unOp .not T4 (.tmp 18),t8,p8,e8,some (3,false)⟩,⟨some 20,.pick (.tmp 16) (.const (.bool true)) (.tmp 19),t9,p9,e9,none⟩]⟩ false) (.cond (.tmp 20) (.seq (Code.region i2 ⟨[oA 6 (.const (.bool true)) t10 p10 e10]⟩ false) .ret) .skip)) (.seq (Code.region i3 ⟨[oC 21 f8 #[] a1 t11 p11 e11,
    oT 7 21 t12 p12 e12]⟩ false) (.seq (.seq (Code.region i4 ⟨[oM 22 7 t13 p13 e13,⟨some 23,.binOp .lss T3 (.tmp 22) (.const (.int .i64 0)) T3,t14,p14,e14,none⟩]⟩ false) (.cond (.tmp 23) (.seq (Code.region i5 ⟨[oA 6 (.const (.bool false)) t15 p15 e15]⟩ false) .ret) .skip)) (.seq (Code.region i6 ⟨[oC 24 f9 #[] a2 t16 p16 e16,
    oM 25 0 t17 p17 e17,
    oM 26 7 t18 p18 e18,
    oC 27 f10 #[(.tmp 25),(.tmp 26)] a3 t19 p19 e19,⟨some 8,.alloc T31,t20,p20,e20,none⟩,
    oS T31 8 24 t21 p21 e21,
    oT 9 27 t22 p22 e22]⟩ false) (.seq (.seq (Code.region i7 ⟨[oM 28 1 t23 p23 e23,⟨some 29,.call ⟨.builtin .len,#[(.tmp 28)],#[T22]⟩,t24,p24,e24,none⟩,⟨some 30,.binOp .gtr T3 (.tmp 29) (.const (.int .i64 1000)) T3,t25,p25,e25,none⟩]⟩ false) (.cond (.tmp 30) (.seq (Code.region i8 ⟨[oA 6 (.const (.bool true)) t26 p26 e26]⟩ false) .ret) .skip)) (.seq (Code.region i9 ⟨[oL 31 T31 8 t27 p27 e27,
    oM 32 9 t28 p28 e28,
    oL 33 T26 5 t29 p29 e29,
    oC 34 f11 #[(.tmp 31),(.tmp 32),(.tmp 33)] a4 t30 p30 e30,
    oT 10 34 t31 p31 e31]⟩ false) (.seq (Code.region i10 ⟨[oM 36 9 t32 p32 e32,
    oM 37 1 t33 p33 e33,
    oM 38 10 t34 p34 e34,
    oC 39 f12 #[(.tmp 36),(.tmp 37),(.tmp 38)] a5 t35 p35 e35,
    oM 35 39 t36 p36 e36,⟨some 40,.extract (.tmp 35) 0,t37,p37,e37,none⟩,⟨some 41,.extract (.tmp 35) 1,t38,p38,e38,none⟩,
    oT 11 40 t39 p39 e39,
    oT 12 41 t40 p40 e40]⟩ false) (.seq (Code.region i11 ⟨[oM 42 12 t41 p41 e41,
    oM 43 42 t42 p42 e42,⟨some 44,.move (.tmp 11),t43,p43,e43,some (1,true)⟩,⟨some 45,.buildSlice T22 0 #[],t44,p44,e44,some (1,true)⟩,⟨some 46,.move (.tmp 1),t45,p45,e45,some (1,true)⟩,⟨some 47,.call ⟨.builtin .append,#[(.tmp 45),(.tmp 46)],#[T22,T22]⟩,t46,p46,e46,some (1,true)⟩,⟨some 48,.move (.tmp 10),t47,p47,e47,some (1,true)⟩,⟨some 49,.call ⟨.builtin .append,#[(.tmp 47),(.tmp 48)],#[T22,T22]⟩,t48,p48,e48,some (1,true)⟩,⟨some 50,.call ⟨.value (.func f13),#[(.tmp 44),(.tmp 49)],a6⟩,t49,p49,e49,some (1,true)⟩,⟨some 51,.pick (.tmp 43) (.tmp 50) (.const (.bool false)),t50,p50,e50,none⟩,
    oT 6 51 t51 p51 e51]⟩ false) .ret))))))))))
    (hs_T22:Z3 P T22 te 1 1=true) (hz_T22:ZG P te [.int .u8 0]) (hsT22:slTy P T22=true) (hFlT26:Flat P T26 zT) (hFlT31:Flat P T31 zM) (hFit:FitM P f7) (hMax:MaxM P f8 mx) (hmx:mx < 32768) (hSch:SchM P f9 fs fx) (hVer:VerM P f10) (hWr:Z8N P f11 fs enc) (hBeh:BehSM P ge f12 res) (hSame:SameM P f13)
    (hplain:∀ ver:Int,0≤ver→ver≤mx→∀ t,small t→(enc ver (decide (fx≥0) && decide (ver≥fx)) t).length≤2147483648∧res ver (enc ver (decide (fx≥0) && decide (ver≥fx)) t)=some (enc ver (decide (fx≥0) && decide (ver≥fx)) t)):LawB P ge f small:=by
  refine ⟨enters_of hf hname hbody,?_⟩;intro w n A B dv dxs ct t er ty uer hn hdv hdl ht hA hB her hiface hsm
  cases t with
  | mk tn s nl l u =>
  have ht0:=ht;obtain ⟨sv,lv,uv,rfl,hn0,hs,hl,hu⟩:=Z0O.1 ht;obtain ⟨dq,dcap,rfl,-,-,-⟩:=hdv.slice2;have hv1:n % (mx+1)≤mx:=by have:=Nat.mod_lt n (show 0 < mx+1 by omega);omega
  obtain ⟨hlen,hres⟩:=hplain ((n % (mx+1):Nat):Int) (by omega) (by omega) _ hsm;refine calls_of_wp hf hbody ?_;generalize ha0:({ tmps:=#[Value.int .u8 (n:Int),Value.slice dq dxs.length dcap,Value.agg ([.int .i64 tn,sv,.bool nl,lv,uv]:List Value).toArray]++Array.replicate (fn.ntmps - (#[Value.int .u8 (n:Int),Value.slice dq dxs.length dcap,Value.agg ([.int .i64 tn,sv,.bool nl,lv,uv]:List Value).toArray]:Array Value).size) undef,defers:=[] }:Act)=a0;have hz0:a0.tmps.size=52:=by subst ha0;simp[hN]
  have hd0:a0.defers=[]:=by subst ha0;rfl
  have g0_0:get a0 0 = .int .u8 (n:Int):=by subst ha0;exact gAr rfl
  have g0_1:get a0 1 = .slice dq dxs.length dcap:=by subst ha0;exact gAr rfl
  have g0_2:get a0 2 = .agg ([.int .i64 tn,sv,.bool nl,lv,uv]:List Value).toArray:=by subst ha0;exact gAr rfl
  refine wT fun K1 hK1=>?_;refine wC (ZS (cs:=[.int .i64 tn,sv,.bool nl,lv,uv]) (eK g0_2) ?_);rintro w2 f2 sz2 r2 th2;have hF3:Fr [] w w2:=f2;refine wC (wAs (v:=.bool false) rfl ?_);refine wEk hz0 hd0 fun a4 ha4 hz4 hd4=>?_;have g4_0:=kP ha4 g0_0;have g4_1:=kP ha4 g0_1;have g4_5:get a4 5 = .pointer (some ⟨w.heap.size,0,none⟩):=kG ha4 hz0;refine hK1 a4 w2 (tUp ?_);refine tId (wp_seq_k fun K5 hK5=>?_);refine wp_seq_k fun K6 hK6=>?_;refine Z0c ?_;refine gCn ?_;refine wMv (v:=.slice dq dxs.length dcap) (eK g4_1) ?_;refine gCn ?_;refine Zs (n:=dxs.length) hsT22 (eS hz4) ?_;refine gCn ?_;refine wp_gtrF (k1:=.i64) (i:=((dxs.length:Nat):Int)) (j:=2147483647) (by omega) (eS hz4) rfl ?_;refine gCn ?_;refine wMv (v:=.bool false) (eS hz4) ?_;refine Zq (dj:=16) rfl (lZ hz4) (gS hz4) ?_;refine Z8 (cs:=[.int .i64 tn,sv,.bool nl,lv,uv]) (b:=w.heap.size) (o:=0) hFlT26 rfl (eK g4_5) r2 ?_;refine Zq (dj:=16) rfl (lZ hz4) (gS hz4) ?_;refine wCr (R:=fun vz wz=>(∃ b:Bool,vz = .bool b)∧Fr [] w2 wz) (vs:=#[.agg ([.int .i64 tn,sv,.bool nl,lv,uv]:List Value).toArray]) hFit.enters (mX1 (eS hz4)) ((hFit.call w2 B _ _ (ht0.kept hF3 (by simp) (fun _ h=>h))).mono (by rintro e wz ⟨⟨b,rfl⟩,h⟩;exact ⟨_,rfl,⟨b,rfl⟩,h⟩)) ?_;rintro _ w7 ⟨⟨bb,rfl⟩,fr7⟩;have hF8:Fr [] w w7:=hF3.tr fr7;have hL8_w2:Fr [] w2 w7:=(Fr.refl [] w2).tr fr7;have rb9:=fr7.range r2 .nil;refine Zq (dj:=16) rfl (lZ hz4) (gS hz4) ?_;refine Z4s (b:=bb) (eS hz4) ?_;refine gCn ?_;refine ZL (v:=.bool (!bb)) (eS hz4) (eS hz4) ?_;refine Z0u fun a10 ha10=>?_;have hz10:=kS ha10 hz4;have hd10:=kD ha10 hd4;have g10_0:=kP ha10 g4_0;have g10_1:=kP ha10 g4_1;have g10_5:=kP ha10 g4_5;have g10_20:get a10 20 = .bool (!bb):=kG ha10 hz4;refine hK6 a10 w7 ?_;refine wp_cond_split (t := !bb) (eK g10_20) (fun hc11=>?_) (fun hc11=>?_)
  · refine wp_seq_k fun K12 hK12=>?_;refine Z2 ?_;refine wC (wAs (v:=.bool true) rfl ?_);refine wEk hz10 hd10 fun a13 ha13 hz13 hd13=>?_;have g13_6:get a13 6 = .bool true:=kG ha13 hz10;refine hK12 a13 w7 ?_;refine wp_ret ?_;exact ⟨hd13,_,rIs hres' g13_6,rfl,hF8⟩
  refine wp_skip ?_;refine hK5 a10 w7 (tUp ?_);refine wT fun K14 hK14=>?_;refine wC (wCr (R:=fun vz wz=>vz = .int .i64 (mx:Int)∧Fr [] w7 wz) (vs:=#[]) hMax.1 (by simp) ((hMax.2 w7).mono (by rintro e wz ⟨rfl,h⟩;exact ⟨_,rfl,rfl,h⟩)) ?_);rintro _ w15 ⟨rfl,fr15⟩;have hF16:Fr [] w w15:=hF8.tr fr15;have hL16_w2:Fr [] w2 w15:=hL8_w2.tr fr15;have rb17:=fr15.range rb9 .nil;refine wC (wAs (v:=.int .i64 (mx:Int)) (eS hz10) ?_);refine wEk hz10 hd10 fun a18 ha18 hz18 hd18=>?_;have g18_0:=kP ha18 g10_0;have g18_1:=kP ha18 g10_1;have g18_5:=kP ha18 g10_5;have g18_7:get a18 7 = .int .i64 (mx:Int):=kG ha18 hz10;refine hK14 a18 w15 (tUp ?_);refine tId (wp_seq_k fun K19 hK19=>?_);refine wS fun K20 hK20=>?_;refine wC (wMv (v:=.int .i64 (mx:Int)) (eK g18_7) ?_);refine wC (Z1E (k1:=.i64) (i:=(mx:Int)) (j:=0) (by omega) (eS hz18) rfl ?_);refine wEk hz18 hd18 fun a21 ha21 hz21 hd21=>?_;have g21_0:=kP ha21 g18_0;have g21_1:=kP ha21 g18_1;have g21_5:=kP ha21 g18_5;have g21_7:=kP ha21 g18_7;have g21_23:get a21 23 = .bool false:=kG ha21 hz18;refine hK20 a21 w15 ?_;refine wp_cond_split (t:=false) (eK g21_23) (fun h=>by cases h) (fun _=>?_);refine wp_skip ?_;refine hK19 a21 w15 (tUp ?_);refine wT fun K23 hK23=>?_;refine wC (wCr (R:=fun vz wz=>∃ fsv,vz = .agg ([fsv,.int .i64 fx]:List Value).toArray∧Fr [] w15 wz∧FdsR wz (From w15.heap.size wz) fsv fs) (vs:=#[]) hSch.enters (by simp) ((hSch.call w15).mono (by rintro e wz ⟨v,rfl,h⟩;exact ⟨_,rfl,v,rfl,h⟩)) ?_);rintro _ w24 ⟨fsv,rfl,fr24,hfs⟩;have hF25:Fr [] w w24:=hF16.tr fr24;have hL25_w2:Fr [] w2 w24:=hL16_w2.tr fr24;have rb26:=fr24.range rb17 .nil;refine wC (wMv (v:=.int .u8 (n:Int)) (eK g21_0) ?_);refine wC (wMv (v:=.int .i64 (mx:Int)) (eK g21_7) ?_);refine wC (wCr (R:=fun vz wz=>vz = .int .i64 ((n % (mx+1):Nat):Int)∧Fr [] w24 wz) (vs:=#[.int .u8 (n:Int),.int .i64 (mx:Int)]) hVer.1 (mX2 (eS hz21) (eS hz21)) ((hVer.2 w24 n mx hn hmx).mono (by rintro e wz ⟨rfl,rfl⟩;exact ⟨_,rfl,rfl,Fr.refl _ _⟩)) ?_);rintro _ w27 ⟨rfl,fr27⟩;have hF28:Fr [] w w27:=hF25.tr fr27;have hL28_w2:Fr [] w2 w27:=hL25_w2.tr fr27;have hL28_w24:Fr [] w24 w27:=(Fr.refl [] w24).tr fr27;have rb29:=fr27.range rb26 .nil;rw[wCo];have hgt1:=hL28_w2.size;refine Z0A hFlT31 ?_;rintro w30 f30 sz30 r30 th30;have hF31:Fr [] w w30:=hF28.tr f30;have hL31_w24:Fr [] w24 w30:=hL28_w24.tr f30;have rb32:=f30.range rb29 .nil;refine wC (Z0g (cs:=[fsv,.int .i64 fx]) (o:=0) hFlT31 rfl (eS hz21) (eS hz21) (by intro u hu;simp at hu;rcases hu with rfl | rfl;exact hfs.one;rfl) th30 ?_);rintro w33 f33 sz33 r33 th33;have hF33:Fr [] w w33:=hF31.trans f33 (fun r hr=>.inl (by simp at hr;subst hr;have:=hF28.size;simp only;omega));have rb34:=f33.range rb32 (.cons (.inl (by simp only;omega)) .nil);have hL33_w24:Fr [] w24 w33:=hL31_w24.trans f33 (fun r hr=>.inl (by simp at hr;subst hr;have:=hL28_w24.size;simp only;omega));refine wC (wAs (v:=.int .i64 ((n % (mx+1):Nat):Int)) (by rw[eTm,pNo,nZ (by decide),sZ (zZ (zZ (zZ hz21))) (by decide)]) ?_);refine wEk hz21 hd21 fun a35 ha35 hz35 hd35=>?_;have g35_1:=kP ha35 g21_1;have g35_5:=kP ha35 g21_5;have g35_8:get a35 8 = .pointer (some ⟨w27.heap.size,0,none⟩):=kG ha35 hz21;have g35_9:get a35 9 = .int .i64 ((n % (mx+1):Nat):Int):=kG ha35 hz21;refine hK23 a35 w33 (tUp ?_);refine tId (wp_seq_k fun K36 hK36=>?_);refine wS fun K37 hK37=>?_;refine wC (wMv (v:=.slice dq dxs.length dcap) (eK g35_1) ?_);refine wC (Zs (n:=dxs.length) hsT22 (eS hz35) ?_);refine wC (Z2o (k1:=.i64) (i:=((dxs.length:Nat):Int)) (j:=1000) (eS hz35) rfl ?_);refine wEk hz35 hd35 fun a38 ha38 hz38 hd38=>?_;have g38_1:=kP ha38 g35_1;have g38_5:=kP ha38 g35_5;have g38_8:=kP ha38 g35_8;have g38_9:=kP ha38 g35_9;have g38_30:get a38 30 = .bool (decide ((((dxs.length:Nat):Int):Int) > (1000:Int))):=kG ha38 hz35;refine hK37 a38 w33 ?_;refine wp_cond_split (t:=decide ((((dxs.length:Nat):Int):Int) > (1000:Int))) (eK g38_30) (fun hc39=>?_) (fun hc39=>?_)
  · refine wp_seq_k fun K40 hK40=>?_;refine Z2 ?_;refine wC (wAs (v:=.bool true) rfl ?_);refine wEk hz38 hd38 fun a41 ha41 hz41 hd41=>?_;have g41_6:get a41 6 = .bool true:=kG ha41 hz38;refine hK40 a41 w33 ?_;refine wp_ret ?_;exact ⟨hd41,_,rIs hres' g41_6,rfl,hF33⟩
  refine wp_skip ?_;refine hK36 a38 w33 (tUp ?_);refine wT fun K42 hK42=>?_;refine wC (Z8 (cs:=[fsv,.int .i64 fx]) (b:=w27.heap.size) (o:=0) hFlT31 rfl (eK g38_8) r33 ?_);refine wC (wMv (v:=.int .i64 ((n % (mx+1):Nat):Int)) (eK g38_9) ?_);refine wC (Z8 (cs:=[.int .i64 tn,sv,.bool nl,lv,uv]) (b:=w.heap.size) (o:=0) hFlT26 rfl (eK g38_5) rb34 ?_);refine wC (wCr (R:=fun vz wz=>Fr [] w33 wz∧Own wz (From w33.heap.size wz) 1 vz (enc ((n % (mx+1):Nat):Int) (decide (fx≥0) && decide (((n % (mx+1):Nat):Int)≥fx)) (.mk tn s nl l u)).length (Z0 (enc ((n % (mx+1):Nat):Int) (decide (fx≥0) && decide (((n % (mx+1):Nat):Int)≥fx)) (.mk tn s nl l u)))) (vs:=#[.agg ([fsv,.int .i64 fx]:List Value).toArray,.int .i64 ((n % (mx+1):Nat):Int),.agg ([.int .i64 tn,sv,.bool nl,lv,uv]:List Value).toArray]) hWr.enters (mX3 (eS hz38) (eS hz38) (eS hz38)) (Za (hWr.call w33 _ B ((n % (mx+1):Nat):Int) fx fsv _ _ (hfs.kept hL33_w24 (by simp) (fun _ h=>h)) (ht0.kept hF33 (by simp) (fun _ h=>h)) (fun b hb=>Nat.lt_of_lt_of_le hb.2 hL33_w24.size) (fun b hb=>Nat.lt_of_lt_of_le (hB b hb) hF33.size) (by omega))) ?_);rintro x43 w43 ⟨fr43,ow43⟩;have hF44:Fr [] w w43:=hF33.tr fr43;have rb45:=fr43.range rb34 .nil;have rb46:=fr43.range r33 .nil;refine wC (wAs (v:=x43) (eS hz38) ?_);refine wEk hz38 hd38 fun a47 ha47 hz47 hd47=>?_;have g47_1:=kP ha47 g38_1;have g47_9:=kP ha47 g38_9;have g47_10:get a47 10=x43:=kG ha47 hz38;refine hK42 a47 w43 (tUp ?_);refine wT fun K48 hK48=>?_;refine wC (wMv (v:=.int .i64 ((n % (mx+1):Nat):Int)) (eK g47_9) ?_);refine wC (wMv (v:=.slice dq dxs.length dcap) (eK g47_1) ?_);refine wC (wMv (v:=x43) (eK g47_10) ?_);rw[wCo];have hoW:OctE w43 (From w33.heap.size w43) x43 (enc ((n % (mx+1):Nat):Int) (decide (fx≥0) && decide (((n % (mx+1):Nat):Int)≥fx)) (.mk tn s nl l u)):=ow43.octE (by omega);have hbe:=hBeh.call w43 _ _ ((n % (mx+1):Nat):Int) _ dxs _ (enc ((n % (mx+1):Nat):Int) (decide (fx≥0) && decide (((n % (mx+1):Nat):Int)≥fx)) (.mk tn s nl l u)) er ty uer _ (by omega) (by omega) (hdv.kept hF44 (by simp) (fun _ h=>h)) hoW (by omega) (hF44.cell her .nil) hiface hres (by rw[List.length_append];omega);refine wCr (R:=fun vz wz=>∃ ov,vz = .tuple #[ov,.bool true]∧Fr [] w43 wz∧OctE wz (From w43.heap.size wz) ov (dxs++(enc ((n % (mx+1):Nat):Int) (decide (fx≥0) && decide (((n % (mx+1):Nat):Int)≥fx)) (.mk tn s nl l u)))) (vs:=#[.int .i64 ((n % (mx+1):Nat):Int),.slice dq dxs.length dcap,x43]) hBeh.enters (mX3 (eS hz47) (eS hz47) (eS hz47)) (hbe.mono (by rintro e wz ⟨h1,ov,rfl,h2⟩;exact ⟨_,rfl,ov,rfl,h1,h2⟩)) ?_;rintro _ w49 ⟨ov,rfl,fr49,hov⟩;have hF50:Fr [] w w49:=hF44.tr fr49;have rb51:=fr49.range rb45 .nil;have rb52:=fr49.range rb46 .nil;have hoW2:=hoW.kept fr49 (by simp) (fun _ h=>h);refine wC (wMv (v:=.tuple #[ov,.bool true]) (eS hz47) ?_);refine wC (Z0K (vs:=#[ov,.bool true]) (v:=ov) (eS hz47) rfl ?_);refine wC (Z0K (vs:=#[ov,.bool true]) (v:=.bool true) (eS hz47) rfl ?_);refine wC (wAs (v:=ov) (eS hz47) ?_);refine wC (wAs (v:=.bool true) (eS hz47) ?_);refine wEk hz47 hd47 fun a53 ha53 hz53 hd53=>?_;have g53_1:=kP ha53 g47_1;have g53_10:=kP ha53 g47_10;have g53_11:get a53 11=ov:=kG ha53 hz47;have g53_12:get a53 12 = .bool true:=kG ha53 hz47;refine hK48 a53 w49 (tUp ?_);refine tId (wp_seq_k fun K54 hK54=>?_);refine Z0c ?_;refine gCn ?_;refine wMv (v:=.bool true) (eK g53_12) ?_;refine gCn ?_;refine wMv (v:=.bool true) (eS hz53) ?_;refine Zq (dj:=43) rfl (lZ hz53) (gS hz53) ?_;refine wMv (v:=ov) (eK g53_11) ?_;refine Zq (dj:=43) rfl (lZ hz53) (gS hz53) ?_;refine Z7F hs_T22 ?_;intro wA fA oA;have hF55:Fr [] w wA:=hF50.tr fA;have rb56:=fA.range rb51 .nil;have rb57:=fA.range rb52 .nil;refine Zq (dj:=43) rfl (lZ hz53) (gS hz53) ?_;refine wMv (v:=.slice dq dxs.length dcap) (eK g53_1) ?_;refine Zq (dj:=43) rfl (lZ hz53) (gS hz53) ?_;have hdA:=hdv.kept hF55 (by simp) (fun _ h=>h);refine Z0r (xs:=[]) (ys:=dxs) hs_T22 hz_T22 (eS hz53) (eS hz53) oA hdA (by simp;omega) ?_;intro vB wB haB;obtain ⟨_,hvB,fB,oB,iB⟩:=haB _ rfl
  cases hvB
  have szA:=fA.size;have szB:=fB.size;have hinB:∀ r ∈ Z1 (.slice (some ⟨w49.heap.size,0,none⟩) 0 0) 1,w49.heap.size≤r.b:=by intro r hr;have:=oA.spare_in r hr;exact this.1
  have hFB:Fr [] w wB:=hF55.trans fB (fun r hr=>.inl (by have:=hinB r hr;have:=hF50.size;omega));refine Zq (dj:=43) rfl (lZ hz53) (gS hz53) ?_;refine wMv (v:=x43) (eK g53_10) ?_;refine Zq (dj:=43) rfl (lZ hz53) (gS hz53) ?_;have hoB:=(hoW2.kept fA (by simp) (fun _ h=>h)).kept fB (fun r hr hA=>by have:=hinB r hr;have:=hA.2;have:=fr49.size;omega) (fun _ h=>h);have hovB:=(hov.kept fA (by simp) (fun _ h=>h)).kept fB (fun r hr hA=>by have:=hinB r hr;have:=hA.2;omega) (fun _ h=>h);refine Z0r (xs:=[]++dxs) (ys:=(enc ((n % (mx+1):Nat):Int) (decide (fx≥0) && decide (((n % (mx+1):Nat):Int)≥fx)) (.mk tn s nl l u))) hs_T22 hz_T22 (eS hz53) (eS hz53) oB hoB (by simp only[List.nil_append];omega) ?_;intro vC wC haC;obtain ⟨_,hvC,fC,oC,iC⟩:=haC _ rfl
  cases hvC
  have szC:=fC.size;have hinC:∀ r ∈ Z1 vB 1,w49.heap.size≤r.b:=by intro r hr;rcases oB.spare_in r hr with h | h;exact h.1;omega
  have hFC:Fr [] w wC:=hFB.trans fC (fun r hr=>.inl (by have:=hinC r hr;have:=hF50.size;omega));have hovC:=hovB.kept fC (fun r hr hA=>by have:=hinC r hr;have:=hA.2;omega) (fun _ h=>h);rw[List.nil_append] at oC;have hoC:=oC.octE (by rw[List.length_append];omega);refine Zq (dj:=43) rfl (lZ hz53) (gS hz53) ?_;refine wCr (R:=fun vz wz=>vz = .bool true∧Fr [] wC wz) (vs:=#[ov,vC]) hSame.enters (mX2 (eS hz53) (eS hz53)) ((hSame.call wC _ _ _ _ _ hovC hoC).mono (by rintro e wz ⟨rfl,h⟩;exact ⟨_,rfl,rfl,h⟩)) ?_;rintro _ w58 ⟨rfl,fr58⟩;have hF59:Fr [] w w58:=hFC.tr fr58;refine gCn ?_;refine Zv (v:=.bool true) (eS hz53) (eS hz53) ?_;refine gCn ?_;refine wAs (v:=.bool true) (eS hz53) ?_;refine Z0u fun a60 ha60=>?_;have hz60:=kS ha60 hz53;have hd60:=kD ha60 hd53;have g60_6:get a60 6 = .bool true:=kG ha60 hz53;refine hK54 a60 w58 (tUp ?_);refine wp_ret ?_;exact ⟨hd60,_,rIs hres' g60_6,rfl,hF59⟩
end Go.Kq

namespace Go.Kq
open Go Go.Proofs
def FldY (P:Program) (ge:Nat) (cx:Cx) (m:Nat) (c:Code) (o:Nat) (ty:Ty) (dv:V) (f:Rd):Prop :=
  ∀ (e : Env) (pb po : Nat) (K : Act → World → Prop) (Q : Exit → Act → World → Prop) (a : Act) (w : World) (st : RSt),
    Z1a cx e pb po a→Mem e pb po ge w st→w.there pb (po+o) ty.size→(∃ z,w.rangeAt pb (po+o) z∧Rep w Z00 ty z dv) →
    (∀ a' w' x st',f e.ver e.flex st=some (x,st')→Kept m a a'→RW w' e.rb e.sb st'→Fr [⟨e.rb,0,2⟩,⟨pb,po+o,po+o+ty.size⟩] w w' →
      (∃ z,w'.rangeAt pb (po+o) z∧Rep w' (Foot e.sb w.heap.size w'.heap.size) ty z x)→K a' w') →
    (f e.ver e.flex st=none→False) →
    c.wp P (Exit.then K Q) a w
theorem Fld.y {P:Program} {ge:Nat} {cx:Cx} {m:Nat} {c:Code} {o:Nat} {ty:Ty} {dv:V} {f:Rd} (h:Fld P ge cx m c o ty dv f):FldY P ge cx m c o ty dv f :=
  fun e pb po K Q a w st h1 h2 h3 h4 h5 h6=>h e pb po K Q a w st h1 h2 h3 h4 h5 fun hf=>(h6 hf).elim
theorem FldY.cons {P:Program} {ge:Nat} {cx:Cx} {m m':Nat} {c c':Code} {o o':Nat} {ty:Ty} {dv:V} {f g:Rd} {ts:List Ty} {ds:List V}
    (h:FldY P ge cx m c o ty dv f) (h':FldY P ge cx m' c' o' (.st ts) (.l ds) g) (ho:o'=o+ty.size) (hb:cx.below m=true) (hm:m≤m') (hn:0 < ty.size) :
    FldY P ge cx m (.seq c c') o (.st (ty::ts)) (.l (dv::ds)) (ZM f g):=by
  intro e pb po K Q a w st hs hm0 ht hz hk hq;subst ho;have hsz:(Ty.st (ty::ts)).size=ty.size+(Ty.st ts).size:=by simp[Ty.size,Ty.sizes]
  simp only[hsz] at ht hk hq;obtain ⟨z,hz1,xs,hxs,hz2⟩:=hz;obtain ⟨c1,c2,x,r,rfl,rfl,h1,h2⟩:=hz2;simp at hxs
  obtain ⟨rfl,rfl⟩:=hxs;rw[Z4] at hz1;have hl1:=h1.length;refine wp_seq_k fun K1 hK1=>?_;have hpb:pb < w.heap.size:=Z0f ht (by omega);refine h e pb po K1 (Exit.then K Q) a w st hs hm0 (Z6 ht (by omega) (by omega)) ⟨c1,hz1.1,h1⟩ ?_ ?_
  · rintro a1 w1 x st1 hf hka hrw hfr ⟨z1,hz3,hz4⟩;refine hK1 a1 w1 ?_;have hm1:Mem e pb po ge w1 st1:=hm0.kept hfr (by simp) hrw;have hap:Z39 [⟨e.rb,0,2⟩,⟨pb,po+o,po+o+ty.size⟩] pb (po+o+ty.size) (po+o+ty.size+c2.length) :=
      .cons (.inl (fun h=>hm0.pr h.symm)) (.cons (.inr (.inr (by simp))) .nil)
    refine h' e pb po K Q a1 w1 st1 (hs.kept hb hka) hm1 ?_ ⟨c2,?_,?_⟩ ?_ ?_
    · have := hfr.there (Z6 ht (o' := po + o + ty.size) (n' := (Ty.st ts).size) (by omega) (by omega))
      rwa [show po+(o+ty.size)=po+o+ty.size from by omega]
    · have := hfr.range (cs := c2) (b := pb) (o := po + o + ty.size) (by have := hz1.2; rwa [hl1] at this) hap
      rwa [show po+(o+ty.size)=po+o+ty.size from by omega]
    · exact ⟨ds,rfl,Reps.kept hfr (fun _ _ h=>h) (fun _ h=>h) h2⟩
    · rintro a2 w2 y st2 hg hka2 hrw2 hfr2 ⟨z2,hz5,ys,rfl,hz6⟩;have hfr':Fr [⟨e.rb,0,2⟩,⟨pb,po+o,po+o+(ty.size+(Ty.st ts).size)⟩] w w2:=by
        refine (hfr.mono (l':=[⟨e.rb,0,2⟩,⟨pb,po+o,po+o+(ty.size+(Ty.st ts).size)⟩]) ?_).trans hfr2 ?_
        · intro r hr;simp at hr
          rcases hr with rfl | rfl
          · exact .inr ⟨_,by simp,rfl,by simp,by simp⟩
          exact .inr ⟨⟨pb,po+o,po+o+(ty.size+(Ty.st ts).size)⟩,by simp,rfl,by simp,by simp <;> omega⟩
        intro r hr;simp at hr
        rcases hr with rfl | rfl
        · exact .inr ⟨_,by simp,rfl,by simp,by simp⟩
        exact .inr ⟨⟨pb,po+o,po+o+(ty.size+(Ty.st ts).size)⟩,by simp,rfl,by simp <;> omega,by simp <;> omega⟩
      refine hk a2 w2 (.l (x::ys)) st2 ?_ (hka.trans (hka2.mono hm)) hrw2 hfr' ⟨z1++z2,?_,x::ys,rfl,z1,z2,x,ys,rfl,rfl,?_,?_⟩
      · simp[ZM,hf,hg,Z56]
      · rw [Z4];have hl3 := hz4.length;refine ⟨hfr2.range hz3 (.cons (.inl (fun h => hm0.pr h.symm)) (.cons (.inr (.inl (by simp <;> omega))) .nil)), ?_⟩;rw [hl3]
        rwa [show po+(o+ty.size)=po+o+ty.size from by omega] at hz5
      · refine Rep.kept hfr2 ?_ (fun b hb => hb.mono (Nat.le_refl _) hfr2.size) hz4;intro r hr hF;simp at hr
        have h3:=Zo (Zn.1 hm0.rw.2.2.choose_spec.1).1
        rcases hr with rfl | rfl
        · rcases hF with hF | ⟨hF, _⟩
          · exact hm0.rw.1 hF
          simp at hF;omega
        rcases hF with hF | ⟨hF,_⟩
        · exact hm0.ps hF
        simp at hF;omega
      exact Reps.kept (Fr.refl [] w2) (by simp) (fun b hb=>hb.mono hfr.size (Nat.le_refl _)) hz6
    exact fun hg=>hq (by simp[ZM,hf,hg])
  exact fun hf=>hq (by simp[ZM,hf])
def EltY (P:Program) (ge:Nat) (cx:Cx) (m:Nat) (c:Code) (sa si:Nat) (zs:List Value) (et:Ty) (f:Rd):Prop :=
  ∀ (e : Env) (pb po : Nat) (K : Act → World → Prop) (Q : Exit → Act → World → Prop) (a : Act) (w : World) (st : RSt) (ba bo len cap i : Nat),
    Z1a cx e pb po a→Mem e pb po ge w st→Mem e ba bo ge w st→get a sa = .slice (some ⟨ba,bo,none⟩) len cap→get a si = .int .i32 i→i < len →
    w.there ba (bo+i * et.size) et.size→w.rangeAt ba (bo+i * et.size) zs →
    (∀ a' w' x st',f e.ver e.flex st=some (x,st')→Kept m a a'→RW w' e.rb e.sb st'→Fr [⟨e.rb,0,2⟩,⟨ba,bo+i * et.size,bo+i * et.size+et.size⟩] w w' →
      (∃ z,w'.rangeAt ba (bo+i * et.size) z∧Rep w' (Foot e.sb w.heap.size w'.heap.size) et z x)→K a' w') →
    (f e.ver e.flex st=none→False) →
    c.wp P (Exit.then K Q) a w
theorem Z7k {P:Program} {ge:Nat} {cx:Cx} {m m' id id1 n n' sa sl si r0 r1 r2:Nat} {c:Code} {zs:List Value} {et:Ty} {f:Rd}
    {t0 t1 t2 t3 t4 t5 t6:TypeId} {p0 p1 p2 p3 p4 p5 p6:String} {e0 e1 e2 e3 e4 e5 e6:Array Edge} {T U T' U':TypeId}
    (h:EltY P ge cx m' c sa si zs et f)
    (hb:(decide (m≤sa) && decide (m≤sl) && decide (m≤si) && decide (sa < si) && decide (sl < si) && decide (si < m') && decide (si < n) && decide (si < n') && decide (n+2 < cx.N) && decide (n'+1 < cx.N) && cx.below m && cx.below m')=true)
    (hn0:m'≤n) (hn1:m'≤n')
    {e:Env} {pb po:Nat} {K:Act→World→Prop} {Q:Exit→Act→World→Prop} {a:Act} {w ws:World} {st:RSt} {L ba cap:Nat} {l:Int} {slv:Value}
    (hs:Z1a cx e pb po a) (hm:Mem e pb po ge w st) (hL:L=l.toNat) (hl:l < 2147483648) (hsl:get a sl = .int .i32 l) (hsa:get a sa=slv) (hslv:0 < L→slv = .slice (some ⟨ba,0,none⟩) L cap)
    (hba:0 < L→Mem e ba 0 ge w st) (hnew:0 < L→ws.heap.size≤ba∧ba < w.heap.size) (ht:0 < L→w.there ba 0 (L * et.size)) (hz:0 < L→∀ i,i < L→w.rangeAt ba (i * et.size) zs) (hfs:Fr [⟨e.rb,0,2⟩] ws w)
    (hk:∀ a' w' xs st',ZQ f e.ver e.flex L st=some (xs,st')→Kept m a a'→get a' sa=slv→RW w' e.rb e.sb st'→Fr [⟨e.rb,0,2⟩] ws w'→w.heap.size≤w'.heap.size →
      (∀ i y,xs[i]?=some y→∃ z,w'.rangeAt ba (i * et.size) z∧Rep w' (Foot e.sb w.heap.size w'.heap.size) et z y)→K a' w')
    (hq:ZQ f e.ver e.flex L st=none→False) :
    (Code.seq (Code.region r0 ⟨[oA si (.const (.int .i32 0)) t0 p0 e0]⟩ false) (.block id (.loop (.seq (.seq (Code.region r1 ⟨[oM n si t1 p1 e1,oM (n+1) sl t2 p2 e2,⟨some (n+2),.binOp .lss T (.tmp n) (.tmp (n+1)) U,t3,p3,e3,none⟩]⟩ false) (.cond (.tmp (n+2)) .skip (.exit id))) (.seq (.block id1 c) (Code.region r2 ⟨[⟨some n',.move (.tmp si),t4,p4,e4,none⟩,⟨some (n'+1),.binOp .add T' (.tmp n') (.const (.int .i32 1)) U',t5,p5,e5,none⟩,⟨some si,.assign (.tmp (n'+1)),t6,p6,e6,none⟩]⟩ false)))))).wp P (Exit.then K Q) a w:=by
  simp only[Bool.and_eq_true,decide_eq_true_eq] at hb;obtain ⟨⟨⟨⟨⟨⟨⟨⟨⟨⟨⟨b1,b2⟩,b3⟩,b4⟩,b5⟩,b6⟩,b7⟩,b8⟩,b9⟩,b10⟩,b11⟩,b12⟩:=hb;have hN:=hs.size;have hbl:=Cx.below_spec b11;have hbl':=Cx.below_spec b12;refine wp_seq_k fun K1 hK1=>?_;refine Zu (m:=si) (by omega) (Nat.le_refl _) fun a1 k1 hi0=>hK1 a1 w ?_;have s1:=hs.kept b11 (k1.mono b3);refine wp_block (wp_loop (fun a' w'=>∃ (j:Nat) (ys:List V) (sj:RSt),j≤L∧ZQ f e.ver e.flex j st=some (ys,sj)∧Kept m a a'∧get a' sa=slv∧get a' sl = .int .i32 l∧get a' si = .int .i32 j ∧
      Z1a cx e pb po a'∧Mem e pb po ge w' sj∧Fr [⟨e.rb,0,2⟩] ws w'∧w.heap.size≤w'.heap.size∧(0 < L→Mem e ba 0 ge w' sj∧w'.there ba 0 (L * et.size)∧∀ i,j≤i→i < L→w'.rangeAt ba (i * et.size) zs) ∧
      (∀ i y,ys[i]?=some y→∃ z,w'.rangeAt ba (i * et.size) z∧Rep w' (Foot e.sb w.heap.size w'.heap.size) et z y))
    (fun a' _=>L - Z2J (get a' si)) ?_ ?_)
  · exact ⟨0,[],st,Nat.zero_le _,rfl,k1.mono b3,(k1.get _ b4).trans hsa,(k1.get _ b5).trans hsl,hi0,s1,hm,hfs,Nat.le_refl _,fun h0=>⟨hba h0,ht h0,fun i _ hi=>hz h0 i hi⟩,by intro i y hy;simp at hy⟩
  rintro a2 w2 ⟨j,ys,sj,hj,hys,k2,ga,gl,gi,s2,m2,f2,z2,hL2,hd2⟩;have hN2:=s2.size;refine wp_seq_k fun K2 hK2=>?_;refine wp_seq_k fun K3 hK3=>?_;refine r_lss (m:=m') (k:=.i32) (i:=j) (j:=l) (by omega) hn0 (by omega) gi gl fun a3 k3 g3=>hK3 a3 w2 ?_;have ga3:=(k3.get sa (by omega)).trans ga;have gl3:=(k3.get sl (by omega)).trans gl;have gi3:=(k3.get si (by omega)).trans gi;have s3:=s2.kept b12 k3;refine wp_cond_split (t:=decide ((j:Int) < l)) (by rw[eTm,g3]) ?_ ?_
  · intro hlt;have hlt : (j : Int) < l := by simpa using hlt
    have hjL:j < L:=by omega
    have h0:0 < L:=by omega
    obtain ⟨mb,htb,hzb⟩:=hL2 h0;refine wp_skip (hK2 a3 w2 ?_);refine wp_seq_k fun K4 hK4=>?_;have hblk:=hslv h0;rw[hblk] at ga3;have hmul:j * et.size+et.size≤L * et.size:=by
      have:(j+1) * et.size≤L * et.size:=Nat.mul_le_mul_right _ hjL;rw[Nat.add_mul] at this;omega
    refine wp_block (wp_mono (h e pb po K4 (Exit.inBlock id1 (Exit.then K4 _)) a3 w2 sj ba 0 L cap j s3 m2 mb ga3 gi3 hjL
      (by rw[Nat.zero_add];exact Z6 htb (by omega) (by omega)) (by rw[Nat.zero_add];exact hzb j (Nat.le_refl _) hjL) ?_ ?_) (fun _ _ _=>Z05))
    · rintro a4 w4 x s5 hf k4 hrw hfr ⟨z,hz4,hr4⟩;rw[Nat.zero_add] at hz4 hfr;refine hK4 a4 w4 ?_;have gi4:=(k4.get si (by omega)).trans gi3;have ga4:=(k4.get sa (by omega)).trans ga3;have gl4:=(k4.get sl (by omega)).trans gl3;have s4:=s3.kept b12 k4;have hbaw:=hnew h0;have hN4:=s4.size;refine r_inc (m:=si) (k:=.i32) (i:=j) (j:=1) (by omega) (by omega) (by omega) (Nat.le_refl _) gi4 fun a5 k5 gi5=>?_;have hwr:IntKind.i32.wrap ((j:Int)+1)=((j+1:Nat):Int):=by
        simp[IntKind.wrap,IntKind.bits,IntKind.signed];omega
      rw[hwr] at gi5;have hbr:ba ≠ e.rb:=mb.pr;have f4:Fr [⟨e.rb,0,2⟩] ws w4:=f2.trans hfr (by
        intro r hr;simp at hr
        rcases hr with rfl | rfl
        · exact .inr ⟨_,by simp,rfl,by simp,by simp⟩
        · exact .inl hbaw.1)
      have m4:Mem e pb po ge w4 s5:=⟨hrw,hfr.cell m2.er (.cons (.inl (fun h=>m2.gr h.symm)) (.cons (.inl (fun h=>mb.gp h.symm)) .nil)),m2.gp,m2.gr,m2.pr,m2.ps,Nat.lt_of_lt_of_le m2.sl hfr.size⟩;have mb4:Mem e ba 0 ge w4 s5:=⟨hrw,m4.er,mb.gp,mb.gr,mb.pr,mb.ps,m4.sl⟩;refine ⟨⟨j+1,ys++[x],s5,hjL,Z2B _ _ _ _ _ _ _ _ _ hys hf,?_,?_,?_,gi5,s4.kept b11 (k5.mono b3),m4,f4,Nat.le_trans z2 hfr.size,fun _=>⟨mb4,hfr.there htb,?_⟩,?_⟩,?_⟩
      · exact ((k2.trans (k3.mono (by omega))).trans (k4.mono (by omega))).trans (k5.mono b3)
      · rw[k5.get sa b4,ga4,hblk]
      · rw[k5.get sl b5,gl4]
      · intro i hi1 hi2;have hzi:=hzb i (by omega) hi2;refine hfr.range hzi (.cons (.inl (fun h=>hbr h.symm)) (.cons (.inr (.inr ?_)) .nil));have:(j+1) * et.size≤i * et.size:=Nat.mul_le_mul_right _ hi1;rw[Nat.add_mul] at this;simp only;omega
      · intro i y hy;have hyl : ys.length = j := Z0D _ _ _ _ _ _ _ hys
        by_cases hi:i < j
        · rw [List.getElem?_append_left (by omega)] at hy;obtain ⟨z', hz', hr'⟩ := hd2 i y hy;have hlen := hr'.length;refine ⟨z', hfr.range hz' (.cons (.inl (fun h => hbr h.symm)) (.cons (.inr (.inl ?_)) .nil)), ?_⟩
          · have:(i+1) * et.size≤j * et.size:=Nat.mul_le_mul_right _ hi;rw[Nat.add_mul] at this;simp only;omega
          refine Rep.kept hfr ?_ (fun b hb=>hb.mono (Nat.le_refl _) hfr.size) hr';intro r hr hF;simp at hr
          have hrb:e.rb < w.heap.size:=Zo (Zn.1 hm.rw.2.2.choose_spec.1).1
          rcases hr with rfl | rfl
          · rcases hF with hF | ⟨hF, _⟩
            · exact hm.rw.1 hF
            simp at hF;omega
          rcases hF with hF | ⟨hF,_⟩
          · exact mb.ps hF
          simp at hF;omega
        rw[List.getElem?_append_right (by omega)] at hy;have hi':i=j:=by
          rcases Nat.lt_or_ge (i - ys.length) 1 with h1 | h1
          · omega
          rw[List.getElem?_eq_none (by simpa using h1)] at hy;simp at hy
        subst hi';rw[hyl,Nat.sub_self] at hy;simp at hy
        subst hy;exact ⟨z,hz4,Rep.kept (Fr.refl [] w4) (by simp) (fun b hb=>hb.mono z2 (Nat.le_refl _)) hr4⟩
      rw[gi,gi5];simp[Z2J];omega
    intro hf;have hst:=Z2A f e.ver e.flex j (L - (j+1)) st ys sj hys hf;rw[show j+1+(L - (j+1))=L from by omega] at hst;exact hq hst
  intro hge;have hge:¬ ((j:Int) < l):=by simpa using hge
  have hjL:j=L:=by omega
  subst hjL;refine wp_exit ?_;show Exit.inBlock id (Exit.then K Q) (.exit id) a3 w2
  simp only[Exit.inBlock,if_true];refine hk a3 w2 ys sj hys (k2.trans (k3.mono (by omega))) ga3 m2.rw f2 z2 hd2
theorem elt_stY {P:Program} {ge:Nat} {cx:Cx} {m m' sa si sv ss n1 n2 n3 i1 i2 i3:Nat} {fd:FuncId} {c:Code} {zs:List Value} {tys:List Ty} {z0:List V} {d:List V→List V} {f:Rd} {ats:Array TypeId}
    {t1 t2 t3 t4 t5 t6 t7 t8:TypeId} {p1 p2 p3 p4 p5 p6 p7 p8:String} {e1 e2 e3 e4 e5 e6 e7 e8:Array Edge} {T et bs:Nat}
    (h:FldY P ge { cx with ts:=ss } m' c 0 (.st tys) (.l (d z0)) f) (hd:DefM P fd tys d) (hz:∀ w,Reps w Z00 tys zs z0)
    (hT:Z3 P T et (Ty.st tys).size bs=true)
    (hb:(decide (m≤sv) && decide (m≤ss) && decide (sa < m) && decide (si < m) && decide (sv < ss) && decide (ss < m') && decide (m'≤n1) && decide (m'≤n2) && decide (m'≤n3) && decide (n1+2 < cx.N) && decide (n2+1 < cx.N) && decide (n3 < cx.N) && cx.below m && decide (m'≤cx.N))=true) :
    EltY P ge cx m (.seq (Code.region i1 ⟨[oM n1 sa t1 p1 e1,oM (n1+1) si t2 p2 e2,⟨some (n1+2),.indexAddr T (.tmp n1) (.tmp (n1+1)),t3,p3,e3,none⟩,oT sv (n1+2) t4 p4 e4]⟩ false) (.seq (Code.region i2 ⟨[oM n2 sv t5 p5 e5,oC (n2+1) fd #[.tmp n2] ats t6 p6 e6]⟩ false) (.seq (Code.region i3 ⟨[oM n3 sv t7 p7 e7,oT ss n3 t8 p8 e8]⟩ false) c))) sa si zs (.st tys) f:=by
  intro e pb po K Q a w st ba bo len cap i hs hm hmb hsa hsi hi ht hzs hk hq;simp only[Bool.and_eq_true,decide_eq_true_eq] at hb;obtain ⟨⟨⟨⟨⟨⟨⟨⟨⟨⟨⟨⟨⟨b1,b2⟩,b3⟩,b4⟩,b5⟩,b6⟩,b7⟩,b8⟩,b9⟩,b10⟩,b11⟩,b12⟩,b13⟩,b14⟩:=hb;have hN:=hs.size;have hbl:=Cx.below_spec b13;generalize hq0:bo+i * (Ty.st tys).size=q0 at *;refine wp_seq_k fun K1 hK1=>?_;refine r_elem (m:=m) (k:=.i32) (i:=i) hT hsa hsi (by omega) (by omega) (by omega) (by omega) (by omega) b1 (by omega) fun a1 k1 g1=>hK1 a1 w ?_;have g1:get a1 sv = .pointer (some ⟨ba,q0,none⟩):=by rw[g1,← hq0];simp
  have s1:=hs.kept b13 k1;have hN1:=s1.size;have hz0:=hz w;have hzl:zs.length=(Ty.st tys).size:=by have:=hz0.length;simpa [Ty.size] using this
  rw[← hzl] at ht;refine wp_seq_k fun K2 hK2=>?_;refine r_do (m:=m') (R:=fun w'=>(∃ z',w'.rangeAt ba q0 z'∧Reps w' Z00 tys z' (d z0))∧Fr [⟨ba,q0,q0+zs.length⟩] w w') hd.enters g1
    ((hd.call w ba q0 zs z0 hzs ht hz0).mono (by rintro e' w' ⟨x,h1,h2,h3⟩;exact ⟨x,h1,h2,h3⟩)) (by omega) b8 ?_
  rintro a2 w2 ⟨⟨z',hz1,hz2⟩,f2⟩ k2;refine hK2 a2 w2 ?_;have s2:=s1.kept b13 (k2.mono (by omega));have hN2:=s2.size;refine wp_seq_k fun K3 hK3=>?_;refine Z43 (m:=ss) (by omega) (by omega) (by omega) (Nat.le_refl _) fun a3 k3 g3=>hK3 a3 w2 ?_;have s3:=s2.kept b13 (k3.mono b2);have g3:get a3 ss = .pointer (some ⟨ba,q0,none⟩):=by rw[g3,k2.get sv (by omega),g1]
  have rw2:RW w2 e.rb e.sb st:=hmb.rw.kept f2 (by intro r hr;simp at hr;subst hr;exact ⟨hmb.pr,hmb.ps⟩);have m3:Mem e ba q0 ge w2 st:=⟨rw2,f2.cell hmb.er (.cons (.inl (fun h=>hmb.gp h.symm)) .nil),hmb.gp,hmb.gr,hmb.pr,hmb.ps,Nat.lt_of_lt_of_le hmb.sl f2.size⟩;have sc:Z1a { cx with ts:=ss } e ba q0 a3:=⟨s3.size,s3.defers,s3.b,g3,s3.v,s3.f,s3.u⟩;have hkk:Kept m a a3:=(k1.trans (k2.mono (by omega))).trans (k3.mono b2);refine h e ba q0 K Q a3 w2 st sc m3 ?_ ⟨z',hz1,d z0,rfl,hz2⟩ ?_ ?_
  · rw[← hzl];exact f2.there ht
  · rintro a4 w4 x st' hf k4 hrw hfr ⟨z4,hz4,hr4⟩;simp only[Nat.add_zero] at hfr hz4;have hF:Fr [⟨e.rb,0,2⟩,⟨ba,q0,q0+(Ty.st tys).size⟩] w w4:=by
      refine (f2.mono (l':=[⟨e.rb,0,2⟩,⟨ba,q0,q0+(Ty.st tys).size⟩]) ?_).tr hfr;intro r hr;simp at hr;subst hr;exact .inr ⟨⟨ba,q0,q0+(Ty.st tys).size⟩,by simp,rfl,by simp,by simp[hzl]⟩
    refine hk a4 w4 x st' hf (hkk.trans (k4.mono (by omega))) hrw hF ⟨z4,hz4,Rep.kept (Fr.refl [] w4) (by simp) (fun b hb=>hb.mono f2.size (Nat.le_refl _)) hr4⟩
  exact hq
theorem Z8F {P:Program} {ge:Nat} {cx:Cx} {fo fc:FuncId} {m m' sv sa sl si nl nc nk nr ns ng na n n' nb nt o k S Tl T it e0 bs:Nat} {i5 i6 i7 i8 i9 i10 i11 i12 i13 i14 id id1:Nat} {c:Code} {zs:List Value} {et:Ty} {f:Rd}
    {t9 t10 t11 t12 t13 t14 t15 t16 t17 t18 t19 t20 t21 t22 t23 t25 t26 t27 t28 t29 t30 t31 t32 t33 t34 t35 t36 t37 t38 t39 t40 t41 t42 t43:TypeId}
    {p9 p11 p12 p13 p14 p15 p16 p18 p21 p22 p23 p24 p25 p26 p27 p28 p31 p32 p35 p36 p37 p38 p39 p40 p41 p42 p43:String}
    {e9 e11 e12 e13 e14 e15 e16 e18 e21 e22 e23 e24 e25 e26 e27 e28 e31 e32 e35 e36 e37 e38 e39 e40 e41 e42 e43:Array Edge} {a1 a2:Array TypeId}
    (ho:OkM P fo) (hc:Z0S P ge fc) (h:EltY P ge cx m' c sa si zs et f)
    (hT:Z3 P T e0 et.size bs=true) (hbs:bs≤65536) (hTl:scal P Tl=true) (hF:Zp P S k o=true) (hit:Zk P it .i32=true) (hz:ZG P e0 zs) (hzl:zs.length=et.size) (htt:t17=T)
    (hb:(decide (m≤sv) && decide (sv < sa) && decide (sa < sl) && decide (sl < si) && decide (si < m') && decide (m'≤nl) && decide (nl+3 < cx.N) && decide (m'≤nc) && decide (nc < cx.N) && decide (m'≤nk) && decide (nk+1 < cx.N) && decide (m'≤nr) && decide (nr < cx.N) &&
      decide (m'≤ns) && decide (ns+1 < cx.N) && decide (m'≤ng) && decide (ng+1 < cx.N) && decide (m'≤na) && decide (na+2 < cx.N) && decide (m'≤n) && decide (n+2 < cx.N) && decide (m'≤n') && decide (n'+1 < cx.N) && decide (m'≤nb) && decide (nb < cx.N) && decide (m'≤nt) && decide (nt+3 < cx.N) && cx.below m && decide (m'≤cx.N))=true)
    {e:Env} {pb po:Nat} {K:Act→World→Prop} {Q:Exit→Act→World→Prop} {a a4:Act} {w w4:World} {q:Option Addr} {l:Int} {s:RSt} {st0:RSt}
    (hm:Mem e pb po ge w st0) (ht:w.there pb (po+o) 1) (hkk4:Kept m a a4) (s4:Z1a cx e pb po a4) (m4:Mem e pb po ge w4 s) (ga4:get a4 sa = .slice q 0 0) (g4:get a4 sl = .int .i32 l) (hl1 : -2147483648≤l) (hl2:l≤2147483647) (f4:Fr [⟨e.rb,0,2⟩] w w4)
    (hqa:∀ y,q=some y→∃ b,y=⟨b,0,none⟩∧w.heap.size≤b∧b < w4.heap.size)
    (hk:∀ a' w' x st',(s.bad=false∧((0 < l∧∃ xs,ZQ f e.ver e.flex l.toNat s=some (xs,st')∧x = .l xs)∨(¬ 0 < l∧st'=s∧x=if q.isNone then .nil else .l [])))→Kept m a a'→RW w' e.rb e.sb st'→Fr [⟨e.rb,0,2⟩,⟨pb,po+o,po+o+1⟩] w w'→(∃ z,w'.rangeAt pb (po+o) z∧Rep w' (Foot e.sb w.heap.size w'.heap.size) (.arr et) z x)→K a' w')
    (hq:(s.bad=true∨(s.bad=false∧0 < l∧ZQ f e.ver e.flex l.toNat s=none))→False) :
    (Code.seq (.seq (Code.region i5 ⟨[oC nk fo #[.tmp cx.tb] a1 t9 p9 e9,⟨some (nk+1),.unOp .not t10 (.tmp nk),t11,p11,e11,none⟩]⟩ false) (.cond (.tmp (nk+1)) (.seq (Code.region i6 ⟨[oC nr fc #[.tmp cx.tb] a2 t12 p12 e12,⟨some cx.tr,.assign (.tmp nr),t13,p13,e13,none⟩]⟩ false) .ret) .skip)) (.seq (Code.region i7 ⟨[oM ns sa t14 p14 e14,⟨some (ns+1),.slice T (.tmp ns) none (some (.const (.int .i64 0))) none,t15,p15,e15,none⟩,oT sa (ns+1) t16 p16 e16]⟩ false) (.seq (.seq (Code.region i8 ⟨[oM ng sl t18 p18 e18,⟨some (ng+1),.binOp .gtr t19 (.tmp ng) (.const (.int .i32 0)) t20,t21,p21,e21,none⟩]⟩ false) (.cond (.tmp (ng+1)) (Code.region i9 ⟨[oM na sa t22 p22 e22,oM (na+1) sl t23 p23 e23,⟨some (na+2),.call ⟨.builtin .append,#[.tmp na,.tmp (na+1)],#[T,it]⟩,t17,p24,e24,none⟩,oT sa (na+2) t25 p25 e25]⟩ false) .skip)) (.seq (Code.seq (Code.region i10 ⟨[oA si (.const (.int .i32 0)) t26 p26 e26]⟩ false) (.block id (.loop (.seq (.seq (Code.region i11 ⟨[oM n si t27 p27 e27,oM (n+1) sl t28 p28 e28,⟨some (n+2),.binOp .lss t29 (.tmp n) (.tmp (n+1)) t30,t31,p31,e31,none⟩]⟩ false) (.cond (.tmp (n+2)) .skip (.exit id))) (.seq (.block id1 c) (Code.region i12 ⟨[⟨some n',.move (.tmp si),t32,p32,e32,none⟩,⟨some (n'+1),.binOp .add t33 (.tmp n') (.const (.int .i32 1)) t34,t35,p35,e35,none⟩,⟨some si,.assign (.tmp (n'+1)),t36,p36,e36,none⟩]⟩ false)))))) (.seq (Code.region i13 ⟨[oM nb sa t37 p37 e37,oT sv nb t38 p38 e38]⟩ false)
        (Code.region i14 ⟨[⟨some nt,.move (.tmp cx.ts),t39,p39,e39,none⟩,oM (nt+1) sv t40 p40 e40,⟨some (nt+2),.nilCheck (.tmp nt),t41,p41,e41,none⟩,oF (nt+3) S (nt+2) k t42 p42 e42,oS Tl (nt+3) (nt+1) t43 p43 e43]⟩ false)))))).wp P (Exit.then K Q) a4 w4:=by
  subst htt;simp only[Bool.and_eq_true,decide_eq_true_eq] at hb;obtain ⟨⟨⟨⟨⟨⟨⟨⟨⟨⟨⟨⟨⟨⟨⟨⟨⟨⟨⟨⟨⟨⟨⟨⟨⟨⟨⟨⟨b1,b2⟩,b3⟩,b4⟩,b5⟩,b6⟩,b7⟩,b8⟩,b9⟩,b10⟩,b11⟩,b12⟩,b13⟩,b14⟩,b15⟩,b16⟩,b17⟩,b18⟩,b19⟩,b20⟩,b21⟩,b22⟩,b23⟩,b24⟩,b25⟩,b26⟩,b27⟩,b28⟩,b29⟩:=hb;have hbl:=Cx.below_spec b28;have hlow:∀ x,m≤x→x≤m'→cx.below x=true:=by
    intro x h1 h2;obtain ⟨g1,g2,g3,g4,g5,g6,g7⟩:=hbl;simp only[Cx.below,Bool.and_eq_true,decide_eq_true_eq];refine ⟨⟨⟨⟨⟨⟨by omega,by omega⟩,by omega⟩,?_⟩,by omega⟩,by omega⟩,by omega⟩
    cases hf:cx.tf with
    | none=>rfl
    | some u=>have:=g4 u hf;simp;omega
  have hsz1:(Ty.arr et).size=1:=rfl;have hpb:pb < w.heap.size:=Z0f ht (by omega);have hN4:=s4.size;have rw4:=m4.rw;have f4':Fr [⟨e.rb,0,2⟩,⟨pb,po+o,po+o+1⟩] w w4:=f4.mono (by intro r hr;simp at hr;subst hr;exact .inr ⟨_,by simp,rfl,by simp,by simp⟩)
  -- if !b.Ok()
  refine wp_seq_k fun K5 hK5=>?_;refine Z5B (m:=m') ho hc s4 m4 (by omega) (by omega) (by omega) (hlow m' (by omega) (by omega)) ?_ ?_
  case refine_2 =>
    intro hbad a5 hN5 hd5 hr5;exact (hq (.inl hbad)).elim
  intro hbad a5 k5;refine hK5 a5 w4 ?_;have s5:=s4.kept (hlow m' (by omega) (by omega)) k5;have hN5:=s5.size
  -- a = a[:0]
  refine wp_seq_k fun K6 hK6=>?_;refine Z6I (m:=sa) hT ((k5.get sa (by omega)).trans ga4) (by omega) (by omega) (by omega) (Nat.le_refl _) fun a6 k6 g6 x6=>hK6 a6 w4 ?_;have s6:=s5.kept (hlow sa (by omega) (by omega)) k6;have hN6:=s6.size;have gl6:get a6 sl = .int .i32 l:=by rw[x6 sl (by omega) (by omega),k5.get sl (by omega),g4]
  have hkk6:Kept m a a6:=(hkk4.trans (k5.mono (by omega))).trans (k6.mono (by omega))
  -- if l > 0
  refine wp_seq_k fun K7 hK7=>?_;refine wp_seq_k fun K8 hK8=>?_;refine r_cmp (m:=m') (op:=.gtr) (r:=decide (l > 0)) (by omega) (by omega) gl6 rfl fun a7 k7 g7=>hK8 a7 w4 ?_;have s7:=s6.kept (hlow m' (by omega) (by omega)) k7;have hN7:=s7.size;have ga7:=(k7.get sa (by omega)).trans g6;have gl7:=(k7.get sl (by omega)).trans gl6;have hl32:l≤2147483647:=hl2
  -- what is done behind the list's making: the loop, and the store
  have rest:∀ (a8:Act) (w8:World) (L ba cap:Nat) (slv:Value),L=l.toNat→(0 < L→slv = .slice (some ⟨ba,0,none⟩) L cap)→(L=0→slv = .slice q 0 0)→L≤cap→Kept m a a8→Z1a cx e pb po a8→get a8 sa=slv→get a8 sl = .int .i32 l →
      Fr [] w4 w8→(0 < L→w4.heap.size≤ba∧ba < w8.heap.size)→(0 < L→w8.rangeAt ba 0 (Z3L zs L))→(0 < L→w8.there ba 0 (L * zs.length))→K7 a8 w8:=by
    intro a8 w8 L ba cap slv hL hsv hsv0 hcap k8 s8 ga8 gl8 f8 hba hzr8 htr8;refine hK7 a8 w8 ?_;have m8:Mem e pb po ge w8 s:=m4.kept f8 (by simp) (m4.rw.kept f8 (by simp));have hgew:ge < w4.heap.size:=Zo m4.er;have hrbw:e.rb < w4.heap.size:=Zo (Zn.1 m4.rw.2.2.choose_spec.1).1;refine wp_seq_k fun K9 hK9=>?_;refine Z7k (m:=m) (m':=m') (ws:=w4) (L:=L) (ba:=ba) (cap:=cap) (slv:=slv) h ?_ (by omega) (by omega) s8 m8 hL (by omega) gl8 ga8 hsv ?_ hba ?_ ?_ (Fr.nil f8) ?_ ?_
    · simp only[Bool.and_eq_true,decide_eq_true_eq];exact ⟨⟨⟨⟨⟨⟨⟨⟨⟨⟨⟨by omega,by omega⟩,by omega⟩,by omega⟩,by omega⟩,by omega⟩,by omega⟩,by omega⟩,by omega⟩,by omega⟩,b28⟩,hlow m' (by omega) (by omega)⟩
    · intro h0;refine ⟨m8.rw, m8.er, ?_, m8.gr, ?_, ?_, m8.sl⟩
      · have:=hba h0;omega
      · have:=hba h0;omega
      have:=hba h0;have:=m4.sl;omega
    · intro h0;rw[← hzl];exact htr8 h0
    · intro h0 i hi;rw[← hzl];exact Z4r (hzr8 h0) i hi
    · intro a9 w9 xs st' hmany k9 g9 rw9 f9 z9 hd9;refine hK9 a9 w9 ?_;have s9 := s8.kept b28 k9;have hN9 := s9.size
      -- v = a; s.F = v
      refine wp_seq_k fun K10 hK10=>?_;refine Z43 (m:=sv) (by omega) (by omega) (by omega) (Nat.le_refl _) fun a10 k10 g10=>hK10 a10 w9 ?_;rw[g9] at g10;have s10:=s9.kept (hlow sv (by omega) (by omega)) k10;have f49:Fr [⟨e.rb,0,2⟩,⟨pb,po+o,po+o+1⟩] w w9:=f4'.trans f9 (by intro r hr;simp at hr;subst hr;exact .inr ⟨_,by simp,rfl,by simp,by simp⟩);have ht9:=f49.there ht;have h1c:slv.oneCell'=true:=by
        rcases Nat.eq_zero_or_pos L with h0 | h0
        · rw[hsv0 h0];rfl
        rw[hsv h0];rfl
      refine Z4Z (m:=m) (x:=slv) s10.s g10 h1c hTl hF ht9 (by omega) (by omega) (by rw[s10.size];omega) (by omega) ?_;intro a11 k11;have f11:=Fr.set w9 pb (po+o) slv;have hF11:Fr [⟨e.rb,0,2⟩,⟨pb,po+o,po+o+1⟩] w (w9.setCell ⟨pb,po+o,none⟩ slv):=f49.trans f11 (by intro r hr;simp at hr;subst hr;exact .inr ⟨⟨pb,po+o,po+o+1⟩,by simp,rfl,by simp,by simp⟩);have hrw11:RW (w9.setCell ⟨pb,po+o,none⟩ slv) e.rb e.sb st':=rw9.kept f11 (by intro r hr;simp at hr;subst hr;exact ⟨hm.pr,hm.ps⟩);have hkk:Kept m a a11:=((k8.trans k9).trans (k10.mono b1)).trans k11
      rcases Nat.eq_zero_or_pos L with h0 | h0
      · have hl0 : ¬ (0 < l) := by omega
        have hst:st'=s:=by rw[h0] at hmany;simp[ZQ] at hmany;exact hmany.2.symm
        subst hst;refine hk a11 _ (if q.isNone then .nil else .l []) st' ⟨hbad,.inr ⟨hl0,rfl,rfl⟩⟩ hkk hrw11 hF11 ⟨[slv],Zz.2 (ZO ht9),?_⟩;have hsz11:w4.heap.size≤(w9.setCell ⟨pb,po+o,none⟩ slv).heap.size:=by have:=f8.size;have:=f9.size;have:=f11.size;omega
        rw[hsv0 h0] at hsz11 ⊢
        cases hqq:q with
        | none=>exact .inl ⟨rfl,rfl⟩
        | some y =>
          obtain ⟨b,rfl,hb1,hb2⟩:=hqa y hqq;exact .inr ⟨b,0,0,[],.inr ⟨hb1,by rw[hqq] at hsz11;omega⟩,rfl,⟨by simp,by simp⟩,rfl,by simp⟩
      have hl0:0 < l:=by omega
      have hlen:=Z0D _ _ _ _ _ _ _ hmany;refine hk a11 _ (.l xs) st' ?_ hkk hrw11 hF11 ⟨[slv],Zz.2 (ZO ht9),?_⟩
      · rw[hL] at hmany;exact ⟨hbad,.inl ⟨hl0,xs,hmany,rfl⟩⟩
      have hbah:=hba h0;have hpba:pb ≠ ba:=by have:=f4.size;omega
      refine .inr ⟨ba,0,cap,xs,.inr ⟨by have:=f4.size;omega,?_⟩,by rw[hsv h0,hlen],⟨by omega,by omega⟩,rfl,?_⟩
      · have:=f9.size;have:=f11.size;omega
      intro i y hy;obtain ⟨zi,hzi,hri⟩:=hd9 i y hy;refine ⟨zi,?_,hri.length,?_⟩
      · rw[Nat.zero_add];exact f11.range hzi (.cons (.inl hpba) .nil)
      refine Rep.kept f11 ?_ (fun b hb=>hb.mono (by have:=f4.size;have:=f8.size;omega) f11.size) hri;intro r hr hFt;simp at hr;subst hr
      rcases hFt with hFt | ⟨hFt,_⟩
      · exact hm.ps hFt
      simp at hFt;have:=f4.size;have:=f8.size;omega
    intro hmany;have hl0:0 < l:=by
      rcases Nat.eq_zero_or_pos L with h0 | h0
      · rw[h0] at hmany;simp[ZQ] at hmany
      omega
    refine hq (.inr ⟨hbad,hl0,?_⟩);rw[hL] at hmany;exact hmany
  refine wp_cond_split (t:=decide (l > 0)) (by rw[eTm,g7]) ?_ ?_
  · intro hpos;have hpos : 0 < l := by simpa using hpos
    obtain ⟨L,rfl⟩:∃ L:Nat,l=L:=⟨l.toNat,by omega⟩;have hLb:L * bs≤140737488355328:=by
      have h1:L * bs≤L * 65536:=Nat.mul_le_mul_left _ hbs;omega
    refine Z3C (m:=sa) (l:=L) hT hit hz (by omega) hLb (by omega) ga7 gl7 (by omega) (by omega) (by omega) (by omega) (Nat.le_refl _) rfl ?_;intro a8 w8 ba cap k8 g8 hcap hb1 hb2 hz8 ht8 f8 x8;have s8:=s7.kept (hlow sa (by omega) (by omega)) k8;exact rest a8 w8 L ba cap _ (by simp) (fun _=>rfl) (fun h0=>by omega) hcap ((hkk6.trans (k7.mono (by omega))).trans (k8.mono (by omega))) s8 g8 ((x8 sl (by omega) (by omega)).trans gl7) f8 (fun _=>⟨hb1,hb2⟩) (fun _=>hz8) (fun _=>ht8)
  intro hneg;have hneg:¬ (0 < l):=by simpa using hneg
  refine wp_skip ?_;exact rest a7 w4 0 0 0 _ (by omega) (fun h0=>by omega) (fun _=>rfl) (Nat.le_refl _) (hkk6.trans (k7.mono (by omega))) s7 ga7 gl7 (Fr.refl _ _) (fun h0=>by omega) (fun h0=>by omega) (fun h0=>by omega)
theorem fld_arrY {P:Program} {ge:Nat} {cx:Cx} {fo fc:FuncId} {m m' sv sa sl si nl nc nk nr ns ng na n n' nb nt o k S Tl T it e0 bs:Nat} {i1 i2 i3 i5 i6 i7 i8 i9 i10 i11 i12 i13 i14 id id1:Nat} {cl c:Code} {zs:List Value} {et:Ty} {len:Int→Bool→RSt→V × RSt} {f:Rd}
    {t1 t2 t3 t4 t5 t6 t7 t8 t9 t10 t11 t12 t13 t14 t15 t16 t17 t18 t19 t20 t21 t22 t23 t25 t26 t27 t28 t29 t30 t31 t32 t33 t34 t35 t36 t37 t38 t39 t40 t41 t42 t43:TypeId}
    {p1 p2 p3 p4 p5 p6 p7 p8 p9 p11 p12 p13 p14 p15 p16 p18 p21 p22 p23 p24 p25 p26 p27 p28 p31 p32 p35 p36 p37 p38 p39 p40 p41 p42 p43:String}
    {e1 e2 e3 e4 e5 e6 e7 e8 e9 e11 e12 e13 e14 e15 e16 e18 e21 e22 e23 e24 e25 e26 e27 e28 e31 e32 e35 e36 e37 e38 e39 e40 e41 e42 e43:Array Edge} {x0:Value} {a1 a2:Array TypeId}
    (ho:OkM P fo) (hc:Z0S P ge fc) (hlen:Asg P ge cx sl cl sl (.int .i32) len) (h:EltY P ge cx m' c sa si zs et f)
    (hT:Z3 P T e0 et.size bs=true) (hbs:bs≤65536) (hTl:scal P Tl=true) (hF:Zp P S k o=true) (hit:Zk P it .i32=true) (hz:ZG P e0 zs) (hzl:zs.length=et.size) (htt:t17=T)
    (hb:(decide (m≤sv) && decide (sv < sa) && decide (sa < sl) && decide (sl < si) && decide (si < m') && decide (m'≤nl) && decide (nl+3 < cx.N) && decide (m'≤nc) && decide (nc < cx.N) && decide (m'≤nk) && decide (nk+1 < cx.N) && decide (m'≤nr) && decide (nr < cx.N) &&
      decide (m'≤ns) && decide (ns+1 < cx.N) && decide (m'≤ng) && decide (ng+1 < cx.N) && decide (m'≤na) && decide (na+2 < cx.N) && decide (m'≤n) && decide (n+2 < cx.N) && decide (m'≤n') && decide (n'+1 < cx.N) && decide (m'≤nb) && decide (nb < cx.N) && decide (m'≤nt) && decide (nt+3 < cx.N) && cx.below m && decide (m'≤cx.N))=true) :
    FldY P ge cx m
      (.seq (Code.region i1 ⟨[⟨some nl,.move (.tmp cx.ts),t1,p1,e1,none⟩,⟨some (nl+1),.nilCheck (.tmp nl),t2,p2,e2,none⟩,oF (nl+2) S (nl+1) k t3 p3 e3,oL (nl+3) Tl (nl+2) t4 p4 e4,oT sv (nl+3) t5 p5 e5]⟩ false) (.seq (Code.region i2 ⟨[oM nc sv t6 p6 e6,oT sa nc t7 p7 e7]⟩ false) (.seq (Code.region i3 ⟨[oA sl (.const x0) t8 p8 e8]⟩ false) (.seq cl
      (.seq (.seq (Code.region i5 ⟨[oC nk fo #[.tmp cx.tb] a1 t9 p9 e9,⟨some (nk+1),.unOp .not t10 (.tmp nk),t11,p11,e11,none⟩]⟩ false) (.cond (.tmp (nk+1)) (.seq (Code.region i6 ⟨[oC nr fc #[.tmp cx.tb] a2 t12 p12 e12,⟨some cx.tr,.assign (.tmp nr),t13,p13,e13,none⟩]⟩ false) .ret) .skip)) (.seq (Code.region i7 ⟨[oM ns sa t14 p14 e14,⟨some (ns+1),.slice T (.tmp ns) none (some (.const (.int .i64 0))) none,t15,p15,e15,none⟩,oT sa (ns+1) t16 p16 e16]⟩ false) (.seq (.seq (Code.region i8 ⟨[oM ng sl t18 p18 e18,⟨some (ng+1),.binOp .gtr t19 (.tmp ng) (.const (.int .i32 0)) t20,t21,p21,e21,none⟩]⟩ false) (.cond (.tmp (ng+1)) (Code.region i9 ⟨[oM na sa t22 p22 e22,oM (na+1) sl t23 p23 e23,⟨some (na+2),.call ⟨.builtin .append,#[.tmp na,.tmp (na+1)],#[T,it]⟩,t17,p24,e24,none⟩,oT sa (na+2) t25 p25 e25]⟩ false) .skip)) (.seq (Code.seq (Code.region i10 ⟨[oA si (.const (.int .i32 0)) t26 p26 e26]⟩ false) (.block id (.loop (.seq (.seq (Code.region i11 ⟨[oM n si t27 p27 e27,oM (n+1) sl t28 p28 e28,⟨some (n+2),.binOp .lss t29 (.tmp n) (.tmp (n+1)) t30,t31,p31,e31,none⟩]⟩ false) (.cond (.tmp (n+2)) .skip (.exit id))) (.seq (.block id1 c) (Code.region i12 ⟨[⟨some n',.move (.tmp si),t32,p32,e32,none⟩,⟨some (n'+1),.binOp .add t33 (.tmp n') (.const (.int .i32 1)) t34,t35,p35,e35,none⟩,⟨some si,.assign (.tmp (n'+1)),t36,p36,e36,none⟩]⟩ false)))))) (.seq (Code.region i13 ⟨[oM nb sa t37 p37 e37,oT sv nb t38 p38 e38]⟩ false)
        (Code.region i14 ⟨[⟨some nt,.move (.tmp cx.ts),t39,p39,e39,none⟩,oM (nt+1) sv t40 p40 e40,⟨some (nt+2),.nilCheck (.tmp nt),t41,p41,e41,none⟩,oF (nt+3) S (nt+2) k t42 p42 e42,oS Tl (nt+3) (nt+1) t43 p43 e43]⟩ false))))))))))
      o (.arr et) .nil (Z4W len f):=by
  subst htt;intro e pb po K Q a w st hs hm ht hzr hk hq;have hb0:=hb;simp only[Bool.and_eq_true,decide_eq_true_eq] at hb;obtain ⟨⟨⟨⟨⟨⟨⟨⟨⟨⟨⟨⟨⟨⟨⟨⟨⟨⟨⟨⟨⟨⟨⟨⟨⟨⟨⟨⟨b1,b2⟩,b3⟩,b4⟩,b5⟩,b6⟩,b7⟩,b8⟩,b9⟩,b10⟩,b11⟩,b12⟩,b13⟩,b14⟩,b15⟩,b16⟩,b17⟩,b18⟩,b19⟩,b20⟩,b21⟩,b22⟩,b23⟩,b24⟩,b25⟩,b26⟩,b27⟩,b28⟩,b29⟩:=hb;have hN:=hs.size;have hbl:=Cx.below_spec b28;have hlow:∀ x,m≤x→x≤m'→cx.below x=true:=by
    intro x h1 h2;obtain ⟨g1,g2,g3,g4,g5,g6,g7⟩:=hbl;simp only[Cx.below,Bool.and_eq_true,decide_eq_true_eq];refine ⟨⟨⟨⟨⟨⟨by omega,by omega⟩,by omega⟩,?_⟩,by omega⟩,by omega⟩,by omega⟩
    cases hf:cx.tf with
    | none=>rfl
    | some u=>have:=g4 u hf;simp;omega
  have hsz1:(Ty.arr et).size=1:=rfl;simp only[hsz1] at ht hk hq;have hpb:pb < w.heap.size:=Z0f ht (by omega);obtain ⟨z,hz1,hz2⟩:=hzr;have hcell:w.cell? ⟨pb,po+o,none⟩=some (.slice none 0 0):=by
    rcases hz2 with ⟨rfl,_⟩ | ⟨_,_,_,_,_,_,_,h4,_⟩
    · exact Zz.1 hz1
    exact absurd h4 (by simp)
  -- v := s.F
  refine wp_seq_k fun K1 hK1=>?_;refine Z88 (m:=sv) hs.s hTl hF hcell (by omega) (by omega) (by omega) (by omega) (Nat.le_refl _) fun a1 k1 g1=>hK1 a1 w ?_;have s1:=hs.kept (hlow sv (by omega) (by omega)) k1;have hN1:=s1.size
  -- a := v
  refine wp_seq_k fun K2 hK2=>?_;refine Z43 (m:=sa) (by omega) (by omega) (by omega) (Nat.le_refl _) fun a2 k2 g2=>hK2 a2 w ?_;rw[g1] at g2;have s2:=s1.kept (hlow sa (by omega) (by omega)) k2;have hN2:=s2.size
  -- var l
  refine wp_seq_k fun K3 hK3=>?_;refine Zu (m:=sl) (by omega) (Nat.le_refl _) fun a3 k3 _=>hK3 a3 w ?_;have s3:=s2.kept (hlow sl (by omega) (by omega)) k3
  -- l = ..
  refine wp_seq_k fun K4 hK4=>?_;refine hlen e pb po K4 _ a3 w st s3 hm ?_;intro a4 w4 xl k4 g4 hr4 rw4 f4;refine hK4 a4 w4 ?_;obtain ⟨l,hx,hv4,hl1,hl2⟩:=hr4;simp at hx
  subst hx;have s4:=s3.kept (hlow sl (by omega) (by omega)) k4;have hN4:=s4.size;have m4:Mem e pb po ge w4 (len e.ver e.flex st).2:=hm.kept f4 (by simp) rw4;have ga4:get a4 sa = .slice none 0 0:=by rw[k4.get sa b3,k3.get sa b3,g2]
  generalize hln:len e.ver e.flex st=ln at *;obtain ⟨lv,s⟩:=ln;simp only at hv4 rw4 m4;subst hv4;have hkk4:Kept m a a4:=(((k1.mono (by omega)).trans (k2.mono (by omega))).trans (k3.mono (by omega))).trans (k4.mono (by omega));have f4':Fr [⟨e.rb,0,2⟩,⟨pb,po+o,po+o+1⟩] w w4:=f4.mono (by intro r hr;simp at hr;subst hr;exact .inr ⟨_,by simp,rfl,by simp,by simp⟩);refine Z8F (q:=none) (st0:=st) ho hc h hT hbs hTl hF hit hz hzl rfl hb0 hm ht hkk4 s4 m4 ga4 g4 hl1 hl2 f4 (fun y hy=>by cases hy) ?_ ?_
  · rintro a' w' x st' ⟨hb1, h1 | ⟨h1, rfl, rfl⟩⟩ k1 k2 k3 k4
    · obtain ⟨h1,xs,h2,rfl⟩:=h1;exact hk a' w' _ st' (by simp[Z4W,hln,hb1,h1,h2]) k1 k2 k3 k4
    exact hk a' w' _ _ (by simp[Z4W,hln,hb1,h1]) k1 k2 k3 k4
  rintro (h1 | ⟨h1,h2,h3⟩)
  · exact hq (by simp[Z4W,hln,h1])
  exact hq (by simp[Z4W,hln,h1,h2,h3])
theorem RunS.consY {P:Program} {ge:Nat} {cx:Cx} {m:Nat} {c c':Code} {o o':Nat} {ty:Ty} {dv:V} {f g:Rd} {ts:List Ty} {ds:List V}
    (h:FldY P ge cx m c o ty dv f) (h':RunS P ge cx c' o' ts ds g) (ho:o'=o+ty.size) (hb:cx.below m=true) (hn:0 < ty.size) (hg0:∀ ver fl s y s',g ver fl s=some (y,s')→∃ ys,y = .l ys) :
    RunS P ge cx (.seq c c') o (ty::ts) (dv::ds) (ZM f g):=by
  intro e pb po Q a w st xs st' hs hm0 ht hz hf0 hbad hk;obtain ⟨x0,s0,z0,hf1,hg1,hxs0⟩:=Z6i hf0;obtain ⟨ys0,rfl⟩:=hg0 _ _ _ _ _ hg1;obtain rfl:xs=x0::ys0:=by simpa [Z56] using hxs0
  subst ho;have hsz:Ty.sizes (ty::ts)=ty.size+Ty.sizes ts:=by simp[Ty.sizes]
  simp only[hsz] at ht hk;obtain ⟨z,hz1,hz2⟩:=hz;obtain ⟨c1,c2,x,r,rfl,hxs,h1,h2⟩:=hz2;simp at hxs
  obtain ⟨rfl,rfl⟩:=hxs;rw[Z4] at hz1;have hl1:=h1.length;have hpb:pb < w.heap.size:=Z0f ht (by omega);have hrbw:e.rb < w.heap.size:=Zo (Zn.1 hm0.rw.2.2.choose_spec.1).1;have first:∀ w1,Fr [⟨e.rb,0,2⟩,⟨pb,po+o,po+o+ty.size⟩] w w1→Fr [⟨e.rb,0,2⟩,⟨pb,po+o,po+o+(ty.size+Ty.sizes ts)⟩] w w1:=by
    intro w1 hfr;refine hfr.mono ?_;intro r hr;simp at hr
    rcases hr with rfl | rfl
    · exact .inr ⟨_,by simp,rfl,by simp,by simp⟩
    exact .inr ⟨⟨pb,po+o,po+o+(ty.size+Ty.sizes ts)⟩,by simp,rfl,by simp,by simp <;> omega⟩
  have both:∀ w1 w2,Fr [⟨e.rb,0,2⟩,⟨pb,po+o,po+o+ty.size⟩] w w1→Fr [⟨e.rb,0,2⟩,⟨pb,po+(o+ty.size),po+(o+ty.size)+Ty.sizes ts⟩] w1 w2→Fr [⟨e.rb,0,2⟩,⟨pb,po+o,po+o+(ty.size+Ty.sizes ts)⟩] w w2:=by
    intro w1 w2 hfr hfr2;refine (first w1 hfr).trans hfr2 ?_;intro r hr;simp at hr
    rcases hr with rfl | rfl
    · exact .inr ⟨_,by simp,rfl,by simp,by simp⟩
    exact .inr ⟨⟨pb,po+o,po+o+(ty.size+Ty.sizes ts)⟩,by simp,rfl,by simp <;> omega,by simp <;> omega⟩
  refine tId (wp_seq_k fun K1 hK1=>?_);refine h e pb po K1 (Exit.then (Q .normal) Q) a w st hs hm0 (Z6 ht (by omega) (by omega)) ⟨c1,hz1.1,h1⟩ ?_ ?_
  · rintro a1 w1 x st1 hf hka hrw hfr ⟨z1,hz3,hz4⟩;rw[hf1] at hf;simp only[Option.some.injEq,Prod.mk.injEq] at hf;obtain ⟨rfl,rfl⟩:=hf;refine hK1 a1 w1 (wp_mono (show Code.wp P c' Q a1 w1 from ?_) (fun e _ _ h=>by cases e <;> exact h));have hm1:Mem e pb po ge w1 s0:=hm0.kept hfr (by simp) hrw;have hap:Z39 [⟨e.rb,0,2⟩,⟨pb,po+o,po+o+ty.size⟩] pb (po+o+ty.size) (po+o+ty.size+c2.length) :=
      .cons (.inl (fun h=>hm0.pr h.symm)) (.cons (.inr (.inr (by simp))) .nil)
    refine h' e pb po Q a1 w1 s0 ys0 st' (hs.kept hb hka) hm1 ?_ ⟨c2,?_,?_⟩ hg1 hbad ?_
    · have := hfr.there (Z6 ht (o' := po + o + ty.size) (n' := Ty.sizes ts) (by omega) (by omega))
      rwa [show po+(o+ty.size)=po+o+ty.size from by omega]
    · have := hfr.range (cs := c2) (b := pb) (o := po + o + ty.size) (by have := hz1.2; rwa [hl1] at this) hap
      rwa [show po+(o+ty.size)=po+o+ty.size from by omega]
    · exact Reps.kept hfr (fun _ _ h=>h) (fun _ h=>h) h2
    rintro a2 w2 hN2 hd2 hr2 hfr2 ⟨z2,hz5,hz6⟩;refine hk a2 w2 hN2 hd2 hr2 (both w1 w2 hfr hfr2) ⟨z1++z2,?_,z1,z2,x0,ys0,rfl,rfl,?_,?_⟩
    · rw [Z4];have hl3 := hz4.length;refine ⟨hfr2.range hz3 (.cons (.inl (fun h => hm0.pr h.symm)) (.cons (.inr (.inl (by simp <;> omega))) .nil)), ?_⟩;rw [hl3]
      rwa [show po+(o+ty.size)=po+o+ty.size from by omega] at hz5
    · refine Rep.kept hfr2 ?_ (fun b hb => hb.mono (Nat.le_refl _) hfr2.size) hz4;intro r hr hF;simp at hr
      rcases hr with rfl | rfl
      · rcases hF with hF | ⟨hF, _⟩
        · exact hm0.rw.1 hF
        simp at hF;omega
      rcases hF with hF | ⟨hF,_⟩
      · exact hm0.ps hF
      simp at hF;omega
    exact Reps.kept (Fr.refl [] w2) (by simp) (fun b hb=>hb.mono hfr.size (Nat.le_refl _)) hz6
  intro hf;rw[hf1] at hf;cases hf
theorem runS_end {P:Program} {ge:Nat} {cx:Cx} {fc:FuncId} {n o i1:Nat} {t1 t2:TypeId} {p1 p2:String} {e1 e2:Array Edge} {a1:Array TypeId}
    (hc:Z0S P ge fc) (hb:(decide (n < cx.N) && decide (cx.tr < cx.N))=true) :
    RunS P ge cx (.seq (Code.region i1 ⟨[oC n fc #[.tmp cx.tb] a1 t1 p1 e1,⟨some cx.tr,.assign (.tmp n),t2,p2,e2,none⟩]⟩ false) .ret) o [] [] Z4n:=by
  intro e pb po Q a w st xs st' hs hm ht hz hf hbad hk;simp only[Bool.and_eq_true,decide_eq_true_eq] at hb;obtain ⟨b1,b2⟩:=hb;obtain ⟨rfl,rfl⟩:xs=[]∧st'=st:=by
    simp only[Z4n,Option.some.injEq,Prod.mk.injEq,V.l.injEq] at hf;exact ⟨hf.1.symm,hf.2.symm⟩
  have hN1:=hs.size;refine tId (wp_seq_k fun K2 hK2=>?_);refine Z4B (m:=0) (R:=fun x w'=>x = .nilIface∧w'=w) hc.enters hs.b ((hc.call w e.rb e.sb st' e.er hm.rw hm.er).mono (by rintro e' w' ⟨h1,h2⟩;exact ⟨_,h1,by rw[hbad];rfl,h2⟩)) (by omega) (by omega) (by omega) (by omega) ?_;rintro a2 x w' ⟨rfl,rfl⟩ k2 g2;refine hK2 a2 _ (wp_ret ?_);obtain ⟨z,hz1,rfl,_⟩:=hz;exact hk a2 _ (by rw[k2.size,hN1]) (by rw[k2.defers,hs.defers]) g2 (Fr.refl _ _) ⟨[],hz1,rfl,rfl⟩
end Go.Kq

namespace Go.Kq
open Go Go.Proofs
def FldZ (P:Program) (ge:Nat) (cx:Cx) (m:Nat) (c:Code) (ox:Nat) (tx:Ty) (dx:V) (o:Nat) (tys:List Ty) (ds:List V) (f:Rd):Prop :=
  ∀ (e : Env) (pb po : Nat) (K : Act → World → Prop) (Q : Exit → Act → World → Prop) (a : Act) (w : World) (st : RSt) (x0 : V) (xs : List V) (st' : RSt),
    Z1a cx e pb po a→Mem e pb po ge w st→w.there pb (po+ox) tx.size→w.there pb (po+o) (Ty.sizes tys)→(∃ z,w.rangeAt pb (po+ox) z∧Rep w Z00 tx z dx)→(∃ z,w.rangeAt pb (po+o) z∧Reps w Z00 tys z ds) →
    f e.ver e.flex st=some (.l (x0::xs),st') →
    (∀ a' w',Kept m a a'→RW w' e.rb e.sb st'→Fr [⟨e.rb,0,2⟩,⟨pb,po+ox,po+ox+tx.size⟩,⟨pb,po+o,po+o+Ty.sizes tys⟩] w w' →
      (∃ z,w'.rangeAt pb (po+ox) z∧Rep w' (Foot e.sb w.heap.size w'.heap.size) tx z x0)→(∃ z,w'.rangeAt pb (po+o) z∧Reps w' (Foot e.sb w.heap.size w'.heap.size) tys z xs)→K a' w') →
    c.wp P (Exit.then K Q) a w
theorem FldZ.s {P:Program} {ge:Nat} {cx:Cx} {m:Nat} {c:Code} {ox o:Nat} {tx:Ty} {dx:V} {tys:List Ty} {ds:List V} {f:Rd} (h:FldZ P ge cx m c ox tx dx o tys ds f) (ho:o=ox+tx.size)
    (hf:∀ ver fl s y s',f ver fl s=some (y,s')→∃ x ys,y = .l (x::ys)):FldY P ge cx m c ox (.st (tx::tys)) (.l (dx::ds)) f:=by
  intro e pb po K Q a w st hs hm ht hz hk hq;subst ho;have hsz:(Ty.st (tx::tys)).size=tx.size+Ty.sizes tys:=by simp[Ty.size,Ty.sizes]
  simp only[hsz] at ht hk;obtain ⟨z,hz1,xs0,hxs,c1,c2,x1,r1,rfl,hxr,h1,h2⟩:=hz
  cases hxs
  cases hxr
  rw[Z4,h1.length] at hz1
  cases hx:f e.ver e.flex st with
  | none=>exact (hq hx).elim
  | some r =>
    obtain ⟨y,st'⟩:=r;obtain ⟨x,ys,rfl⟩:=hf _ _ _ _ _ hx;refine h e pb po K Q a w st x ys st' hs hm (Z6 ht (by omega) (by omega)) (Z6 ht (by omega) (by omega)) ⟨c1,hz1.1,h1⟩ ⟨c2,by rw[← Nat.add_assoc];exact hz1.2,h2⟩ hx ?_;rintro a' w' k1 hrw hfr ⟨z1,hz3,hz4⟩ ⟨z2,hz5,hz6⟩;refine hk a' w' _ st' hx k1 hrw (hfr.mono ?_) ⟨z1++z2,?_,x::ys,rfl,z1,z2,x,ys,rfl,rfl,hz4,hz6⟩
    · intro r hr;simp at hr
      rcases hr with rfl | rfl | rfl
      · exact .inr ⟨⟨e.rb,0,2⟩,by simp,rfl,by simp,by simp⟩
      · exact .inr ⟨⟨pb,po+ox,po+ox+(tx.size+Ty.sizes tys)⟩,by simp,rfl,by simp,by simp only;omega⟩
      exact .inr ⟨⟨pb,po+ox,po+ox+(tx.size+Ty.sizes tys)⟩,by simp,rfl,by simp only;omega,by simp only;omega⟩
    rw[Z4,hz4.length,Nat.add_assoc];exact ⟨hz3,hz5⟩
def consK (x:V):V→V
  | .l (k::xs)=>.l (k::x::xs)
  | y=>y
def Z1q (f g:Rd):Rd:=fun v fl st =>
  match f v fl st with
  | none=>none
  | some (x, st) => match g v fl st with
    | none=>none
    | some (y,st)=>some (consK x y,st)
theorem Z3B {f g:Rd} {ver:Int} {fl:Bool} {st st':RSt} {y:V} (h:Z1q f g ver fl st=some (y,st')):∃ x s1 z,f ver fl st=some (x,s1)∧g ver fl s1=some (z,st')∧y=consK x z:=by
  unfold Z1q at h
  split at h
  · cases h
  rename_i x s1 h1
  split at h
  · cases h
  rename_i z s2 h2
  simp only[Option.some.injEq,Prod.mk.injEq] at h;obtain ⟨rfl,rfl⟩:=h;exact ⟨x,s1,z,h1,h2,rfl⟩
def IsL1 (f:Rd):Prop:=∀ ver fl s y s',f ver fl s=some (y,s')→∃ x ys,y = .l (x::ys)
theorem Z2I {f:Rd} {dv:V}:IsL1 (rdKn f dv):=by
  intro ver fl s y s' h;unfold rdKn at h
  split at h
  · split at h
    · simp only[Option.some.injEq,Prod.mk.injEq] at h;exact ⟨_,_,h.1.symm⟩
    cases h
  simp only[Option.some.injEq,Prod.mk.injEq] at h;exact ⟨_,_,h.1.symm⟩
theorem Z0E {f g:Rd} (hg:IsL1 g):IsL1 (Z1q f g):=by
  intro ver fl s y s' h;obtain ⟨x,s1,z,_,h2,rfl⟩:=Z3B h;obtain ⟨k,ys,rfl⟩:=hg _ _ _ _ _ h2;exact ⟨k,x::ys,rfl⟩
theorem FldZ.cons {P:Program} {ge:Nat} {cx:Cx} {m m':Nat} {c c':Code} {ox o o':Nat} {tx ty:Ty} {dx dv:V} {f g:Rd} {ts:List Ty} {ds:List V}
    (h:FldY P ge cx m c o ty dv f) (h':FldZ P ge cx m' c' ox tx dx o' ts ds g) (ho:o'=o+ty.size) (hb:cx.below m=true) (hm:m≤m') (hn:0 < ty.size) (hox:ox+tx.size≤o) (hg:IsL1 g) :
    FldZ P ge cx m (.seq c c') ox tx dx o (ty::ts) (dv::ds) (Z1q f g):=by
  intro e pb po K Q a w st x0 xs st' hs hm0 htx ht hzx hz hf0 hk;obtain ⟨xa,s1,zz,hf1,hg1,hxs⟩:=Z3B hf0;obtain ⟨k0,ys,rfl⟩:=hg _ _ _ _ _ hg1;simp only[consK,V.l.injEq,List.cons.injEq] at hxs;obtain ⟨rfl,rfl⟩:=hxs;subst ho;have hsz:Ty.sizes (ty::ts)=ty.size+Ty.sizes ts:=by simp[Ty.sizes]
  simp only[hsz] at ht hk;obtain ⟨z,hz1,c1,c2,x,r,rfl,hxr,h1,h2⟩:=hz
  cases hxr
  obtain ⟨zx,hzx1,hzx2⟩:=hzx;rw[Z4] at hz1;have hl1:=h1.length;have hlx:=hzx2.length;refine wp_seq_k fun K1 hK1=>?_;have hpb:pb < w.heap.size:=Z0f ht (by omega);have hrbw:e.rb < w.heap.size:=Zo (Zn.1 hm0.rw.2.2.choose_spec.1).1;refine h e pb po K1 (Exit.then K Q) a w st hs hm0 (Z6 ht (by omega) (by omega)) ⟨c1,hz1.1,h1⟩ ?_ (fun hn=>by rw[hf1] at hn;cases hn);rintro a1 w1 x st1 hf hka hrw hfr ⟨z1,hz3,hz4⟩;rw[hf1] at hf;simp only[Option.some.injEq,Prod.mk.injEq] at hf;obtain ⟨rfl,rfl⟩:=hf;refine hK1 a1 w1 ?_;have hm1:Mem e pb po ge w1 s1:=hm0.kept hfr (by simp) hrw;have hl3:=hz4.length;refine h' e pb po K Q a1 w1 s1 x0 ys st' (hs.kept hb hka) hm1 (hfr.there htx) ?_ ⟨zx,?_,?_⟩ ⟨c2,?_,?_⟩ hg1 ?_
  · have := hfr.there (Z6 ht (o' := po + o + ty.size) (n' := Ty.sizes ts) (by omega) (by omega))
    rwa [show po+(o+ty.size)=po+o+ty.size from by omega]
  · exact hfr.range hzx1 (.cons (.inl (fun h=>hm0.pr h.symm)) (.cons (.inr (.inl (by simp only;omega))) .nil))
  · exact Rep.kept hfr (fun _ _ h=>h) (fun _ h=>h) hzx2
  · have := hfr.range (cs := c2) (b := pb) (o := po + o + ty.size) (by have := hz1.2; rwa [hl1] at this) (.cons (.inl (fun h => hm0.pr h.symm)) (.cons (.inr (.inr (by simp))) .nil))
    rwa [show po+(o+ty.size)=po+o+ty.size from by omega]
  · exact Reps.kept hfr (fun _ _ h=>h) (fun _ h=>h) h2
  rintro a2 w2 hka2 hrw2 hfr2 ⟨z5,hz5,hz6⟩ ⟨z7,hz7,hz8⟩;refine hk a2 w2 (hka.trans (hka2.mono hm)) hrw2 ?_ ⟨z5,hz5,Rep.kept (Fr.refl [] w2) (by simp) (fun b hb=>hb.mono hfr.size (Nat.le_refl _)) hz6⟩ ⟨z1++z7,?_,z1,z7,xa,ys,rfl,rfl,?_,Reps.kept (Fr.refl [] w2) (by simp) (fun b hb=>hb.mono hfr.size (Nat.le_refl _)) hz8⟩
  · refine (hfr.mono (l' := [⟨e.rb, 0, 2⟩, ⟨pb, po + ox, po + ox + tx.size⟩, ⟨pb, po + o, po + o + (ty.size + Ty.sizes ts)⟩]) ?_).trans hfr2 ?_
    · intro r hr;simp at hr
      rcases hr with rfl | rfl
      · exact .inr ⟨⟨e.rb,0,2⟩,by simp,rfl,by simp,by simp⟩
      exact .inr ⟨⟨pb,po+o,po+o+(ty.size+Ty.sizes ts)⟩,by simp,rfl,by simp,by simp only;omega⟩
    intro r hr;simp at hr
    rcases hr with rfl | rfl | rfl
    · exact .inr ⟨⟨e.rb,0,2⟩,by simp,rfl,by simp,by simp⟩
    · exact .inr ⟨⟨pb,po+ox,po+ox+tx.size⟩,by simp,rfl,by simp,by simp⟩
    exact .inr ⟨⟨pb,po+o,po+o+(ty.size+Ty.sizes ts)⟩,by simp,rfl,by simp only;omega,by simp only;omega⟩
  · rw [Z4];refine ⟨hfr2.range hz3 (.cons (.inl (fun h => hm0.pr h.symm)) (.cons (.inr (.inr (by simp only; omega))) (.cons (.inr (.inl (by simp only; omega))) .nil))), ?_⟩;rw [hl3]
    rwa [show po+(o+ty.size)=po+o+ty.size from by omega] at hz7
  refine Rep.kept hfr2 ?_ (fun b hb=>hb.mono (Nat.le_refl _) hfr2.size) hz4;intro r hr hF;simp at hr
  rcases hr with rfl | rfl | rfl
  · rcases hF with hF | ⟨hF, _⟩
    · exact hm0.rw.1 hF
    simp at hF;omega
  · rcases hF with hF | ⟨hF, _⟩
    · exact hm0.ps hF
    simp at hF;omega
  rcases hF with hF | ⟨hF,_⟩
  · exact hm0.ps hF
  simp at hF;omega
set_option maxRecDepth 10000 in
set_option maxHeartbeats 1000000 in
theorem fld_knZ {P:Program} {ge:Nat} {cx:Cx} {m m1 m' tb' tf ti tk te n0 nu nb nc nd ne nf nh ni nj nk n1 o oTq k S TR T59 T3 TE:Nat} {fu fsp fset fc:FuncId} {cz:Code} {cl:Oper} {ty:Ty} {dv:V} {f:Rd}
    {iF iA iB iC iD iE iG iH iI iJ iK iL id id1 id2:Nat} {a1 a2 a3 a4 a5 a6 a7 a8:Array TypeId}
    {t0 t1 t2 t3 t4 t5 t6 t7 t8 t9 t10 t11 t12 t13 t14 t15 t16 t17 t18 t19 t20 t21 t22 t23 t24 t25 t26 t27 t28 t29 t30 t31 t32 t33 t34 t35:TypeId}
    {p0 p1 p2 p3 p4 p5 p6 p7 p8 p9 p10 p11 p12 p13 p14 p15 p17 p18 p19 p20 p21 p22 p23 p24 p25 p26 p27 p28 p29 p30 p31 p32:String}
    {e0 e1 e2 e3 e4 e5 e6 e7 e8 e9 e10 e11 e12 e13 e14 e15 e17 e18 e19 e20 e21 e22 e23 e24 e25 e26 e27 e28 e29 e30 e31 e32:Array Edge}
    (hu:Z0m P fu (.int .u32) gUv) (hsp:Z4q P fsp) (hset:Z5c P fset) (hc:Z0S P ge fc) (hTR:Z1H P TR) (h59:Zk P T59 .u32=true) (h3:Zk P T3 .i64=true) (hTE:Z3l P TE=true)
    (hoT:o+ty.size≤oTq) (hF:Zp P S k oTq=true) (htf:cx.tf=some tf) (hmx:P.follows .mixedOrders=true)
    (he:Z0I 0 [e17,e18,e19,e20,e21,e22,e23,e24] [[],[0],[1],[],[],[4],[5,4],[2,3,6]]=true)
    (h:FldT P ge { cx with tb:=tb' } m' cz (.seq (Code.region iJ ⟨[oC nj fc #[.tmp tb'] a5 t25 p25 e25,oT te nj t26 p26 e26]⟩ false) (.seq (Code.region iK ⟨[oM nk te t27 p27 e27,⟨some (nk+1),.binOp .neq TE (.tmp nk) (.const .nilIface) t28,t29,p28,e28,none⟩]⟩ false) (.cond (.tmp (nk+1)) (.seq (Code.region iL ⟨[oM ni te t30 p29 e29,cl]⟩ false) .ret) .skip))) o ty dv f)
    (hb:(decide (n0 < cx.N) && decide (m≤n0) && decide (m≤ti) && decide (ti < m1) && decide (m≤nu) && decide (nu < cx.N) && decide (ti < cx.N) && decide (m1≤nb) && decide (nb+1 < cx.N) && decide (m1≤nc) && decide (nc < cx.N) && decide (m1≤tk) && decide (tk < nd) && decide (tk < ne) && decide (tk < nh) &&
      decide (m1≤nd) && decide (nd < cx.N) && decide (m1≤ne) && decide (ne+1 < cx.N) && decide (m1≤tb') && decide (tb' < m') && decide (tb' < nf) && decide (nf+3 < cx.N) && decide (m1≤nh) && decide (nh+7 < cx.N) && decide (m1≤te) && decide (te < nk) && decide (te < cx.N) && decide (m1≤nj) && decide (nj < cx.N) && decide (nk+1 < cx.N) && decide (m1≤nk) && decide (m1≤nf) && decide (m1≤n1) && decide (n1+1 < cx.N) && decide (m1≤m') && decide (m'≤cx.N) && cx.below m)=true) :
    FldZ P ge cx m (.seq (Code.region iF ⟨[oM n0 tf t0 p0 e0]⟩ false) (.cond (.tmp n0) (.seq (Code.region iA ⟨[oC nu fu #[.tmp cx.tb] a1 t1 p1 e1,oT ti nu t2 p2 e2]⟩ false) (.block id (.loop (.seq (.seq (Code.region iB ⟨[oM nb ti t3 p3 e3,⟨some (nb+1),.binOp .gtr T59 (.tmp nb) (.const (.int .u32 0)) t4,t5,p4,e4,none⟩]⟩ false) (.cond (.tmp (nb+1)) .skip (.exit id))) (.seq (.block id1 (.seq (Code.region iC ⟨[oC nc fu #[.tmp cx.tb] a2 t6 p5 e5,oT tk nc t7 p6 e6]⟩ false) (.seq (Code.region iD ⟨[oM nd tk t8 p7 e7]⟩ false) (.block id2 (.seq (Code.region iE ⟨[⟨some (ne+1),.binOp .eql T59 (.tmp nd) (.const (.int .u32 0)) t9,t10,p8,e8,none⟩,oT ne (ne+1) t11 p9 e9]⟩ false) (.cond (.tmp ne) (.seq (Code.region iG ⟨[oC nf fu #[.tmp cx.tb] a3 t12 p10 e10,⟨some (nf+1),.convert T59 T3 (.tmp nf),t13,p11,e11,none⟩,oC (nf+2) fsp #[.tmp cx.tb,.tmp (nf+1)] a4 t14 p12 e12,⟨some (nf+3),.build TR #[(0,.tmp (nf+2))],t15,p13,e13,none⟩,⟨some tb',.alloc TR,t16,p14,e14,none⟩,⟨none,.store TR (.tmp tb') (.tmp (nf+3)),t31,p15,e15,none⟩]⟩ false) cz)
                  (Code.region iH ⟨[⟨some nh,.move (.tmp cx.ts),t17,p17,e17,none⟩,⟨some (nh+1),.nilCheck (.tmp nh),t18,p18,e18,none⟩,oF (nh+2) S (nh+1) k t19 p19 e19,oM (nh+3) tk t20 p20 e20,
                    oC (nh+4) fu #[.tmp cx.tb] a6 t21 p21 e21,⟨some (nh+5),.convert T59 T3 (.tmp (nh+4)),t22,p22,e22,none⟩,oC (nh+6) fsp #[.tmp cx.tb,.tmp (nh+5)] a7 t23 p23 e23,
                    oC (nh+7) fset #[.tmp (nh+2),.tmp (nh+3),.tmp (nh+6)] a8 t24 p24 e24]⟩ true)))))))
            (Code.region iI ⟨[oM n1 ti t32 p30 e30,⟨some (n1+1),.binOp .sub T59 (.tmp n1) (.const (.int .u32 1)) t33,t34,p31,e31,none⟩,oT ti (n1+1) t35 p32 e32]⟩ false)))))) .skip)) o ty dv oTq [.tags] [.nil] (rdKn f dv):=by
  intro e pb po K Q a w st x0' xs st' hs hm ht htT hzx hzT hf hk;simp only[Bool.and_eq_true,decide_eq_true_eq] at hb;obtain ⟨⟨⟨⟨⟨⟨⟨⟨⟨⟨⟨⟨⟨⟨⟨⟨⟨⟨⟨⟨⟨⟨⟨⟨⟨⟨⟨⟨⟨⟨⟨⟨⟨⟨⟨⟨⟨b1,b2⟩,b3⟩,b4⟩,b5⟩,b6⟩,b7⟩,b8⟩,b9⟩,b10⟩,b11⟩,b12⟩,b13⟩,b14⟩,b15⟩,b16⟩,b17⟩,b18⟩,b19⟩,b20⟩,b21⟩,b22⟩,b23⟩,b24⟩,b25⟩,b26⟩,b27⟩,b28⟩,b29⟩,b30⟩,b31⟩,b32⟩,b33⟩,b34⟩,b35⟩,b36⟩,b37⟩,b38⟩:=hb;have hN:=hs.size;have hbl:=Cx.below_spec b38;obtain ⟨cb1,cb2,cb3,cb4,cb5,cb6,cb7⟩:=hbl;have hszT:Ty.sizes [.tags]=1:=by simp[Ty.sizes,Ty.size]
  rw[hszT] at htT hk;refine wp_seq_k fun K1 hK1=>?_;refine Z5C (m:=m) (by omega) b2 fun a1 k1 g1=>hK1 a1 w ?_;have g1:get a1 n0 = .bool e.flex:=g1.trans (hs.f tf htf);have s1:=hs.kept b38 k1;have hN1:=s1.size;refine wp_cond_split (t:=e.flex) (by rw[eTm,g1]) (fun hfl=>?_) (fun hfl=>?_)
  rotate_left
  · simp only[rdKn,hfl,Bool.false_eq_true,if_false,Option.some.injEq,Prod.mk.injEq,V.l.injEq] at hf;obtain ⟨hxl,rfl⟩:=hf;obtain ⟨rfl,rfl⟩:=List.cons.inj hxl;obtain ⟨z,hz1,hz2⟩:=hzx;obtain ⟨zT,hzT1,hzT2⟩:=hzT;exact wp_skip (hk a1 w k1 hm.rw (Fr.refl _ _) ⟨z,hz1,Rep.kept (Fr.refl [] w) (by simp) (fun _ h=>h.elim) hz2⟩ ⟨zT,hzT1,Reps.kept (Fr.refl [] w) (by simp) (fun _ h=>h.elim) hzT2⟩)
  obtain ⟨X,Y,hgo,rfl,rfl⟩:∃ X Y,Z1P f e.ver e.flex (rdUv st).1 true dv .nil (rdUv st).2=some (X,Y,st')∧X=x0'∧xs=[Y]:=by
    simp only[rdKn,hfl,if_true] at hf;rw[hfl]
    split at hf
    · rename_i X Y S hg
      simp only[Option.some.injEq,Prod.mk.injEq,V.l.injEq] at hf;obtain ⟨hxl,rfl⟩:=hf;obtain ⟨rfl,rfl⟩:=List.cons.inj hxl;exact ⟨_,_,hg,rfl,rfl⟩
    cases hf
  obtain ⟨cs1,hz1,hr1⟩:=hzx;obtain ⟨zT,hz3,cs3,cs4,x1,r1,rfl,hxs1,hr3,hr4⟩:=hzT;simp at hxs1
  obtain ⟨rfl,rfl⟩:=hxs1;obtain ⟨rfl,-⟩:=hr4;have hc3:cs3=[.map none]:=by
    rcases hr3 with ⟨h,_⟩ | ⟨_,_,_,_,_,_,h⟩
    · exact h
    simp at h
  subst hc3;have hl1:=hr1.length;rw[List.append_nil] at hz3;have hc0:w.cell? ⟨pb,po+oTq,none⟩=some (.map none):=Zz.1 hz3;have hpb:pb < w.heap.size:=Z0f htT (by omega);have hrbw:e.rb < w.heap.size:=Zo (Zn.1 hm.rw.2.2.choose_spec.1).1;have hgew:ge < w.heap.size:=Zo hm.er;have hlt0:=Z1o st;refine wp_seq_k fun K2 hK2=>?_;refine Z4B (m:=m) (R:=fun x w'=>x = .int .u32 (rdUv st).1∧RW w' e.rb e.sb (rdUv st).2∧Fr [⟨e.rb,0,2⟩] w w') hu.enters s1.b
    ((hu.call w e.rb e.sb st hm.rw).mono (by rintro e' w' ⟨x,rfl,h1,h2,h3⟩;exact ⟨_,rfl,h1.u32,h2,h3⟩)) (by omega) (by omega) (by omega) (by omega) ?_
  rintro a2 _ w2 ⟨rfl,hrw2,f2⟩ k2 g2;refine hK2 a2 w2 ?_;have one:∀ {w':World},Fr [⟨e.rb,0,2⟩] w w'→Fr [⟨e.rb,0,2⟩,⟨pb,po+o,po+o+ty.size⟩,⟨pb,po+oTq,po+oTq+1⟩] w w':=fun h=>h.mono (by intro r hr;simp at hr;subst hr;exact .inr ⟨_,by simp,rfl,by simp,by simp⟩);refine wp_block (wp_loop (fun a' w'=>∃ (n:Nat) (first:Bool) (x y:V) (s:RSt) (v:Value) (lo:Nat),n < 4294967296∧Kept m a a'∧get a' ti = .int .u32 n∧RW w' e.rb e.sb s∧Z1P f e.ver e.flex n first x y s=some (X,Y,st') ∧
      w.heap.size≤lo∧lo≤w'.heap.size∧(∃ z,w'.rangeAt pb (po+o) z∧Rep w' (Foot e.sb w.heap.size lo) ty z x∧(first=true→Rep w' Z00 ty z dv∧y = .nil∧v = .map none))∧w'.cell? ⟨pb,po+oTq,none⟩=some v∧TagV w' (·=e.sb) lo v y ∧
      Fr [⟨e.rb,0,2⟩,⟨pb,po+o,po+o+ty.size⟩,⟨pb,po+oTq,po+oTq+1⟩] w w') (fun a' _=>Z2J (get a' ti)) ?_ ?_)
  · refine ⟨(rdUv st).1,true,dv,.nil,(rdUv st).2,.map none,w.heap.size,hlt0,k1.trans k2,g2,hrw2,hgo,Nat.le_refl _,f2.size,⟨cs1,f2.range hz1 (.cons (.inl (fun h=>hm.pr h.symm)) .nil),Rep.kept f2 (by simp[Z00]) (fun _ h=>h.elim) hr1,fun _=>⟨Rep.kept f2 (by simp[Z00]) (fun _ h=>h) hr1,rfl,rfl⟩⟩,f2.cell hc0 (.cons (.inl (fun h=>hm.pr h.symm)) .nil),.inl ⟨rfl,rfl⟩,one f2⟩
  rintro a4 w4 ⟨n,first,x,y,s,v,lo,hn,k4,p4,hrw4,hgo4,hlo1,hlo2,⟨z4,hz4,hx4,hfirst⟩,hc4,hv4,f4⟩;have s4:=hs.kept b38 k4;have hN4:=s4.size;refine wp_seq_k fun K5 hK5=>?_;refine wS fun K6 hK6=>?_;rw[wCo,wMw,eTm,p4,wCo];refine Z2o (k1:=.u32) (i:=n) (j:=0) (by rw[eTm,gQ]) rfl ?_;rw[wNi];generalize ha5:(a4.put (some nb) (.int .u32 n)).put (some (nb+1)) (.bool (decide ((n:Int) > 0)))=a5;have k5:Kept m1 a4 a5:=by subst ha5;exact (Kept.put0 (by omega) _).pt
  have g5:get a5 (nb+1) = .bool (decide ((n:Int) > 0)):=by subst ha5;exact gQ
  have s5:=s4.kept b38 (k5.mono (by omega));have hN5:=s5.size;refine hK6 a5 w4 ?_;refine wp_cond_split (t:=decide ((n:Int) > 0)) (by rw[eTm,g5]) (fun hpos=>?_) (fun hneg=>?_)
  rotate_left
  · have hn0 : n = 0 := by simp at hneg; omega
    subst hn0;refine wp_exit ?_;simp only[Z1P,Option.some.injEq,Prod.mk.injEq] at hgo4;obtain ⟨rfl,rfl,rfl⟩:=hgo4;show Exit.inBlock id (Exit.then K Q) (.exit id) a5 w4
    simp only[Exit.inBlock,if_true];show K a5 w4
    refine hk a5 w4 (k4.trans (k5.mono (by omega))) hrw4 f4 ⟨z4,hz4,Rep.kept (Fr.refl [] w4) (by simp) (fun b hb=>hb.mono (Nat.le_refl _) hlo2) hx4⟩ ⟨[v],Zz.2 hc4,[v],[],y,[],rfl,rfl,?_,rfl,rfl⟩
    rcases hv4 with ⟨rfl,rfl⟩ | ⟨r,kv,rfl,h2,h3,rfl⟩
    · exact .inl ⟨rfl,rfl⟩
    exact (h3.kept (A':=Foot e.sb w.heap.size w4.heap.size) (Fr.refl [] w4) (by simp) (by simp) (fun b hb=>.inl hb)).rep (.inr ⟨by omega,h3.lt⟩)
  obtain ⟨n,rfl⟩:∃ k,n=k+1:=⟨n - 1,by simp at hpos;omega⟩;refine wp_skip (hK5 a5 w4 ?_);refine wp_seq_k fun K7 hK7=>?_;refine wp_block (wp_mono (show Code.wp P _ (Exit.then K7 (Exit.inBlock id1 (Exit.then K7 _))) a5 w4 from ?_) (fun _ _ _=>Z05));refine wp_seq_k fun K8 hK8=>?_;have hlt1:=Z1o s;refine Z4B (m:=m1) (R:=fun x w'=>x = .int .u32 (rdUv s).1∧RW w' e.rb e.sb (rdUv s).2∧Fr [⟨e.rb,0,2⟩] w4 w') hu.enters s5.b
    ((hu.call w4 e.rb e.sb s hrw4).mono (by rintro e' w' ⟨x,rfl,h1,h2,h3⟩;exact ⟨_,rfl,h1.u32,h2,h3⟩)) (by omega) (by omega) (by omega) (by omega) ?_
  rintro a6 _ w6 ⟨rfl,hrw6,f6⟩ k6 g6;refine hK8 a6 w6 ?_;have s6:=s5.kept b38 (k6.mono (by omega));have hN6:=s6.size;refine wp_seq_k fun K9 hK9=>?_;refine Z5C (m:=nd) (by omega) (Nat.le_refl _) fun a7 k7 g7=>hK9 a7 w6 ?_;rw[g6] at g7;have g6':=(k7.get tk (by omega)).trans g6;have s7:=s6.kept b38 (k7.mono (by omega));have hN7:=s7.size;refine wp_block (wp_mono (show Code.wp P _ (Exit.then K7 (Exit.inBlock id2 (Exit.then K7 _))) a7 w6 from ?_) (fun _ _ _=>Z05));refine wS fun K10 hK10=>?_;refine wC (Z0h (k1:=.u32) (i:=((rdUv s).1:Int)) (j:=0) (by rw[eTm,g7]) rfl ?_);rw[wCo,wAg,eTm,gQ,wNi];generalize ha8:(a7.put (some (ne+1)) (.bool (((rdUv s).1:Int)==0))).put (some ne) (.bool (((rdUv s).1:Int)==0))=a8;have k8:Kept ne a7 a8:=by subst ha8;exact (Kept.put0 (by omega) _).put (Nat.le_refl _) _
  have g8:get a8 ne = .bool (((rdUv s).1:Int)==0):=by subst ha8;exact gQ
  have s8:=s7.kept b38 (k8.mono (by omega));have hN8:=s8.size;have g8k:get a8 tk = .int .u32 (rdUv s).1:=(k8.get tk (by omega)).trans g6';have kk8:Kept m1 a4 a8:=((k5.trans k6).trans (k7.mono (by omega))).trans (k8.mono (by omega));have hlt2:=Z1o (rdUv s).2;have f46:Fr [⟨e.rb,0,2⟩,⟨pb,po+o,po+o+ty.size⟩,⟨pb,po+oTq,po+oTq+1⟩] w w6:=f4.trans f6 (by intro r hr;simp at hr;subst hr;exact .inr ⟨_,by simp,rfl,by simp,by simp⟩);have sz4:=f4.size;have sz6:=f6.size
  -- what the round's end wants
  have one':∀ {w1 w2:World},Fr [⟨e.rb,0,2⟩] w1 w2→Fr [⟨e.rb,0,2⟩,⟨pb,po+o,po+o+ty.size⟩,⟨pb,po+oTq,po+oTq+1⟩] w1 w2:=fun h=>h.mono (by intro r hr;simp at hr;subst hr;exact .inr ⟨_,by simp,rfl,by simp,by simp⟩);have back:∀ (a9:Act) (w9:World) (first':Bool) (x' y':V) (s':RSt) (v':Value) (lo':Nat),Kept m1 a4 a9→RW w9 e.rb e.sb s'→Z1P f e.ver e.flex n first' x' y' s'=some (X,Y,st')→w.heap.size≤lo'→lo'≤w9.heap.size →
      (∃ z,w9.rangeAt pb (po+o) z∧Rep w9 (Foot e.sb w.heap.size lo') ty z x'∧(first'=true→Rep w9 Z00 ty z dv∧y' = .nil∧v' = .map none))→w9.cell? ⟨pb,po+oTq,none⟩=some v'→TagV w9 (·=e.sb) lo' v' y' →
      Fr [⟨e.rb,0,2⟩,⟨pb,po+o,po+o+ty.size⟩,⟨pb,po+oTq,po+oTq+1⟩] w w9→K7 a9 w9:=by
    intro a9 w9 first' x' y' s' v' lo' kk9 hr9 hg9 hl1 hl2 hx9 hc9 hv9 hf9;refine hK7 a9 w9 ?_;have hN9:=kk9.size;refine Z2 ?_;rw[wCo,wMw,eTm,kk9.get ti (by omega),p4,wCo];refine Z1O (k1:=.u32) (i:=((n+1:Nat):Int)) (j:=1) (by rw[eTm,gQ]) rfl ?_;have hwr:IntKind.u32.wrap (((n+1:Nat):Int) - 1)=(n:Int):=by rw[IntKind.wrap_u32];omega
    rw[hwr,wCo,wAg,eTm,gQ,wNi];refine ⟨⟨n,first',x',y',s',v',lo',by omega,(((k4.trans (kk9.mono (by omega))).pt).pt).pt,gQ,hr9,hg9,hl1,hl2,hx9,hc9,hv9,hf9⟩,?_⟩
    first
    | (rw[gQ,p4];simp only[Z2J];omega)
    | (rw[gQ];simp only[Z2J];omega)
  rw[Z1P] at hgo4;refine hK10 a8 w6 ?_;refine wp_cond_split (t:=((rdUv s).1:Int)==0) (by rw[eTm,g8]) (fun h0=>?_) (fun h0=>?_)
  · -- the known one
    have h0:(rdUv s).1=0:=by simpa using h0
    rw[if_pos h0] at hgo4
    cases hfi:first with
    | false=>rw[hfi] at hgo4;simp at hgo4
    | true =>
      rw[hfi,if_pos rfl] at hgo4;obtain ⟨hx5,rfl,rfl⟩:=hfirst hfi;refine wS fun K11 hK11=>?_;rw[wCo];refine Ze (R:=fun x w'=>x = .int .u32 (rdUv (rdUv s).2).1∧RW w' e.rb e.sb (rdUv (rdUv s).2).2∧Fr [⟨e.rb,0,2⟩] w6 w') hu.enters (vs:=#[.pointer (some ⟨e.rb,0,none⟩)]) (by simp only[List.map_toArray,List.map_cons,List.map_nil,eTm];rw[s8.b])
        ((hu.call w6 e.rb e.sb _ hrw6).mono (by rintro e' w' ⟨x,rfl,h1,h2,h3⟩;exact ⟨_,rfl,h1.u32,h2,h3⟩)) ?_
      rintro _ w7 ⟨rfl,hrw7,f7⟩;generalize hsz2:(rdUv (rdUv s).2).1=sz at *;generalize hs2:(rdUv (rdUv s).2).2=s2 at *;refine wC (wCv (k1:=.u32) (i:=(sz:Int)) h59 h3 (by rw[eTm,gQ]) ?_);rw[Z0Q (by omega),wCo];refine Ze hsp.enters (vs:=#[.pointer (some ⟨e.rb,0,none⟩),.int .i64 (sz:Int)])
        (by simp only[List.map_toArray,List.map_cons,List.map_nil,eTm];rw[gR,gR,s8.b,gQ])
        (hsp.call w7 e.rb e.sb _ (sz:Int) hrw7) ?_
      rintro sv w8 ⟨ho8,hrw8,f8⟩;generalize (Z9 (sz:Int) s2).1=sp at *;generalize (Z9 (sz:Int) s2).2=s3 at *;refine wC (Z6w hTR ho8.oneCell (by rw[eTm,gQ]) ?_);refine wC (Z0e hTR.1 ?_);rw[wCo];have hth:(w8.alloc (.cells (Value.agg #[.slice none 0 0,.bool false]).cells TR)).there w8.heap.size 0 2:=Zy w8 #[.slice none 0 0,.bool false] TR;have f9:=Fr.alloc [] w8 (.cells (Value.agg #[.slice none 0 0,.bool false]).cells TR);have sz9:=Zb w8 (.cells (Value.agg #[.slice none 0 0,.bool false]).cells TR);generalize w8.alloc (.cells (Value.agg #[.slice none 0 0,.bool false]).cells TR)=w9 at hth f9 sz9 ⊢;generalize ha9:(((((a8.put (some nf) (.int .u32 sz)).put (some (nf+1)) (.int .i64 (sz:Int))).put (some (nf+2)) sv).put (some (nf+3)) (.agg #[sv,.bool false])).put (some tb') (.pointer (some ⟨w8.heap.size,0,none⟩)))=a9;have k9:Kept m1 a8 a9:=by subst ha9;exact ((((Kept.put0 (by omega) _).pt).pt).pt).pt
      have g9:get a9 tb' = .pointer (some ⟨w8.heap.size,0,none⟩):=by subst ha9;exact gQ
      have g9':get a9 (nf+3) = .agg #[sv,.bool false]:=by subst ha9;rw[gR,gQ]
      have hN9:=k9.size;have hag:=hTR.2.1;unfold aggr at hag;simp only[Bool.and_eq_true,beq_iff_eq] at hag;have h1v:=ho8.oneCell
      constructor
      refine wp_store_mid TR (.tmp tb') (.tmp (nf+3)) rfl w8.heap.size 0 #[sv,.bool false] g9 g9' hth hag.2 (by rw[Array.all_eq_true_iff_forall_mem];intro u hu;simp at hu;rcases hu with rfl | rfl <;> first | exact h1v | rfl) ?_;have f10:=Fr.sets w8.heap.size [sv,.bool false] w9 0;have r10:(w9.setCells w8.heap.size 0 [sv,.bool false]).rangeAt w8.heap.size 0 [sv,.bool false]:=World.rangeAt_setCells_same _ _ _ _ hth;have t10:=f10.there hth;have sz10:=f10.size;show K11 a9 (w9.setCells w8.heap.size 0 [sv,.bool false])
      generalize w9.setCells w8.heap.size 0 [sv,.bool false]=w10 at f10 r10 t10 sz10 ⊢;have f810:Fr [] w8 w10:=f9.trans f10 (by intro r hr;simp at hr;subst hr;exact .inl (Nat.le_refl _));have f68:=f7.tr f8;have sz8:=f68.size;have f48:Fr [⟨e.rb,0,2⟩] w4 w8:=f6.tr f68;have f08:Fr [⟨e.rb,0,2⟩,⟨pb,po+o,po+o+ty.size⟩,⟨pb,po+oTq,po+oTq+1⟩] w w8:=f46.trans f68 (by intro r hr;simp at hr;subst hr;exact .inr ⟨_,by simp,rfl,by simp,by simp⟩);have f010:=f08.tr (f810.nil (l:=[⟨e.rb,0,2⟩,⟨pb,po+o,po+o+ty.size⟩,⟨pb,po+oTq,po+oTq+1⟩]));have s9:=s8.kept b38 (k9.mono (by omega));have her:∀ w',Fr [⟨e.rb,0,2⟩,⟨pb,po+o,po+o+ty.size⟩,⟨pb,po+oTq,po+oTq+1⟩] w w'→w'.cell? ⟨ge,0,none⟩=some e.er:=fun w' hf=>hf.cell hm.er (.cons (.inl (fun h=>hm.gr h.symm)) (.cons (.inl (fun h=>hm.gp h.symm)) (.cons (.inl (fun h=>hm.gp h.symm)) .nil)));refine hK11 a9 w10 ?_;refine h { e with rb:=w8.heap.size } pb po _ a9 w10 ⟨sp.getD [],sp.isNone,false⟩ ⟨s9.size,s9.defers,g9,s9.s,s9.v,s9.f,s9.u⟩ ⟨(ho8.src.kept f810 (by simp)).reader r10 t10 (by have:=hm.sl;simp only;omega),her w10 f010,hm.gp,by simp only;omega,by simp only;omega,hm.ps,by have:=hm.sl;simp only;omega⟩
        (f010.there ht) ⟨z4,f810.range (f48.range hz4 (.cons (.inl (fun h=>hm.pr h.symm)) .nil)) .nil,Rep.kept f810 (by simp) (fun _ h=>h) (Rep.kept f48 (by simp[Z00]) (fun _ h=>h) hx5)⟩ ?_ ?_
      rotate_left
      · intro hfn;simp only at hfn;rw[hfn] at hgo4;simp at hgo4
      rintro a11 w11 x' st'' hf' k11 hrw11' f11 ⟨z11,hz11,hx11⟩;simp only at hf' hrw11' f11 hx11;rw[hf'] at hgo4;simp only at hgo4
      cases hbd:st''.bad with
      | true=>rw[hbd] at hgo4;simp at hgo4
      | false =>
        rw[hbd] at hgo4;simp only[Bool.false_eq_true,if_false] at hgo4;have sz11:=f11.size;have f011:Fr [⟨e.rb,0,2⟩,⟨pb,po+o,po+o+ty.size⟩,⟨pb,po+oTq,po+oTq+1⟩] w w11:=f010.trans f11 (by
          intro r hr;simp at hr
          rcases hr with rfl | rfl
          · exact .inl (by simp only;omega)
          · exact .inr ⟨⟨pb,po+o,po+o+ty.size⟩,by simp,rfl,by simp,by simp⟩)
        have hN11:=k11.size;have s11:=s9.kept b38 (k11.mono (by omega));refine wp_seq_k fun K12 hK12=>?_;refine Z4B (m:=m1) (R:=fun x w'=>x = .nilIface∧w'=w11) hc.enters ((k11.get tb' (by omega)).trans g9)
          ((hc.call w11 w8.heap.size e.sb st'' e.er hrw11' (her w11 f011)).mono (by rintro e' w' ⟨h1,h2⟩;exact ⟨_,h1,by rw[hbd];rfl,h2⟩)) (by omega) (by omega) (by omega) (by omega) ?_
        rintro a12 _ w12 ⟨rfl,rfl⟩ k12 g12;refine hK12 a12 _ ?_;have hN12:=k12.size;refine wS fun K13 hK13=>?_;rw[wCo,wMw,eTm,g12,wCo];refine Z5e (b:=false) hTE (by rw[eTm,gQ]) .no ?_;rw[wNi];generalize ha13:(a12.put (some nk) .nilIface).put (some (nk+1)) (.bool false)=a13;have k13:Kept m1 a12 a13:=by subst ha13;exact (Kept.put0 (by omega) _).pt
        have g13:get a13 (nk+1) = .bool false:=by subst ha13;exact gQ
        refine hK13 a13 _ ?_;refine wp_cond_split (t:=false) (by rw[eTm,g13]) (fun h=>by cases h) (fun _=>wp_skip ?_);refine back a13 _ false x' .nil s3 (.map none) w12.heap.size ((((kk8.trans k9).trans (k11.mono (by omega))).trans k12).trans k13) ?_ hgo4 (by omega) (Nat.le_refl _) ⟨z11,hz11,Rep.kept (Fr.refl [] _) (by simp) (fun b hb=>hb.mono (by omega) (Nat.le_refl _)) hx11,fun h=>by cases h⟩ ?_ (.inl ⟨rfl,rfl⟩) f011
        · exact (hrw8.kept f810 (by simp)).kept f11 (by intro r hr;simp at hr;rcases hr with rfl | rfl;exact ⟨by have:=hm.sl;simp only;omega,by have:=hm.sl;simp only;omega⟩;exact ⟨hm.pr,hm.ps⟩)
        exact f11.cell (f810.cell (f48.cell hc4 (.cons (.inl (fun h=>hm.pr h.symm)) .nil)) .nil) (.cons (.inl (by simp only;omega)) (.cons (.inr (.inr (by simp only;omega))) .nil))
  -- another
  have h0:¬ (rdUv s).1=0:=by simpa using h0
  rw[if_neg h0] at hgo4;generalize hkk:(rdUv s).1=kk at *;generalize hs1:(rdUv s).2=s1 at *;generalize hszz:(rdUv s1).1=sz at *;generalize hs2:(rdUv s1).2=s2 at *;generalize hspp:(Z9 (sz:Int) s2).1=sp at *;generalize hs3:(Z9 (sz:Int) s2).2=s3 at *;refine wp_drawI [[],[0],[1],[],[],[4],[5,4],[2,3,6]] (fun L a' w'=>Kept nh a8 a'∧(L 0=true→get a' nh = .pointer (some ⟨pb,po,none⟩))∧(L 1=true→get a' (nh+1) = .pointer (some ⟨pb,po,none⟩))∧(L 2=true→get a' (nh+2) = .pointer (some ⟨pb,po+oTq,none⟩)) ∧
    (L 3=true→get a' (nh+3) = .int .u32 kk)∧(L 4=true→get a' (nh+4) = .int .u32 sz)∧(L 5=true→get a' (nh+5) = .int .i64 (sz:Int))∧(L 6=true→L 4=true)∧(L 7=true→L 6=true) ∧
    (L 7=false→Fr [⟨e.rb,0,2⟩] w6 w'∧(L 4=false→RW w' e.rb e.sb s1)∧(L 4=true→L 6=false→RW w' e.rb e.sb s2)∧(L 6=true→Octs w' (·=e.sb) (get a' (nh+6)) sp∧RW w' e.rb e.sb s3)) ∧
    (L 7=true→∃ r8 wm,w'.cell? ⟨pb,po+oTq,none⟩=some (.map (some r8))∧lo≤r8∧TagM w' (·=e.sb) r8 (Z1S (Z0b y) kk (.oct sp))∧RW w' e.rb e.sb s3∧Fr [⟨e.rb,0,2⟩] w6 wm∧Fr [⟨pb,po+oTq,po+oTq+1⟩,⟨r8,0,0⟩] wm w')) hmx he rfl ?_ ?_ ?_
  · have fd:=Fr.drew [] w6;exact ⟨Kept.refl _ _,(fun h=>by cases h),(fun h=>by cases h),(fun h=>by cases h),(fun h=>by cases h),(fun h=>by cases h),(fun h=>by cases h),(fun h=>by cases h),(fun h=>by cases h),(fun _=>⟨Fr.drew _ w6,fun _=>hrw6.kept fd (by simp),(fun h=>by cases h),(fun h=>by cases h)⟩),(fun h=>by cases h)⟩
  · rintro L a' w' i oo hoi hLi hnd ⟨hk',i0,i1,i2,i3,i4,i5,i64,i76,hpre,hpost⟩;have hN':=hk'.size;have hgb:get a' cx.tb = .pointer (some ⟨e.rb,0,none⟩):=(hk'.get _ (by omega)).trans s8.b;have hi:i < 8:=by
      have:=(List.getElem?_eq_some_iff.1 hoi).1
      simpa using this
    rcases (by omega:i=0∨i=1∨i=2∨i=3∨i=4∨i=5∨i=6∨i=7) with rfl | rfl | rfl | rfl | rfl | rfl | rfl | rfl <;> simp only[List.getElem?_cons_zero,List.getElem?_cons_succ,Option.some.injEq] at hoi <;> subst hoi
    · refine wMv (v:=.pointer (some ⟨pb,po,none⟩)) (by rw[eTm,hk'.get _ (by omega),s8.s]) ?_;refine ⟨hk'.put (by omega) _,?_,?_,?_,?_,?_,?_,fun h=>by simpa using i64 (by simpa using h),fun h=>by simpa using i76 (by simpa using h),fun h=>by
        obtain ⟨q1,q2,q3,q4⟩:=hpre (by simpa using h);exact ⟨q1,fun h=>q2 (by simpa using h),fun h h'=>q3 (by simpa using h) (by simpa using h'),fun h=>by obtain ⟨z1,z2⟩:=q4 (by simpa using h);rw[gR];exact ⟨z1,z2⟩⟩,fun h=>hpost (by simpa using h)⟩ <;> exact fun h=>by first | exact gQ | (rw[gR];first | exact i0 (by simpa using h) | exact i1 (by simpa using h) | exact i2 (by simpa using h) | exact i3 (by simpa using h) | exact i4 (by simpa using h) | exact i5 (by simpa using h))
    · refine wNc (q:=⟨pb,po,none⟩) (by rw[eTm,i0 (hnd 0 (by simp))]) ?_;refine ⟨hk'.put (by omega) _,?_,?_,?_,?_,?_,?_,fun h=>by simpa using i64 (by simpa using h),fun h=>by simpa using i76 (by simpa using h),fun h=>by
        obtain ⟨q1,q2,q3,q4⟩:=hpre (by simpa using h);exact ⟨q1,fun h=>q2 (by simpa using h),fun h h'=>q3 (by simpa using h) (by simpa using h'),fun h=>by obtain ⟨z1,z2⟩:=q4 (by simpa using h);rw[gR];exact ⟨z1,z2⟩⟩,fun h=>hpost (by simpa using h)⟩ <;> exact fun h=>by first | exact gQ | (rw[gR];first | exact i0 (by simpa using h) | exact i1 (by simpa using h) | exact i2 (by simpa using h) | exact i3 (by simpa using h) | exact i4 (by simpa using h) | exact i5 (by simpa using h))
    · refine wFa (b:=pb) (i:=po) hF (by rw[eTm,i1 (hnd 1 (by simp))]) ?_;refine ⟨hk'.put (by omega) _,?_,?_,?_,?_,?_,?_,fun h=>by simpa using i64 (by simpa using h),fun h=>by simpa using i76 (by simpa using h),fun h=>by
        obtain ⟨q1,q2,q3,q4⟩:=hpre (by simpa using h);exact ⟨q1,fun h=>q2 (by simpa using h),fun h h'=>q3 (by simpa using h) (by simpa using h'),fun h=>by obtain ⟨z1,z2⟩:=q4 (by simpa using h);rw[gR];exact ⟨z1,z2⟩⟩,fun h=>hpost (by simpa using h)⟩ <;> exact fun h=>by first | exact gQ | (rw[gR];first | exact i0 (by simpa using h) | exact i1 (by simpa using h) | exact i2 (by simpa using h) | exact i3 (by simpa using h) | exact i4 (by simpa using h) | exact i5 (by simpa using h))
    · refine wMv (v:=.int .u32 kk) (by rw[eTm,hk'.get _ (by omega),g8k]) ?_;refine ⟨hk'.put (by omega) _,?_,?_,?_,?_,?_,?_,fun h=>by simpa using i64 (by simpa using h),fun h=>by simpa using i76 (by simpa using h),fun h=>by
        obtain ⟨q1,q2,q3,q4⟩:=hpre (by simpa using h);exact ⟨q1,fun h=>q2 (by simpa using h),fun h h'=>q3 (by simpa using h) (by simpa using h'),fun h=>by obtain ⟨z1,z2⟩:=q4 (by simpa using h);rw[gR];exact ⟨z1,z2⟩⟩,fun h=>hpost (by simpa using h)⟩ <;> exact fun h=>by first | exact gQ | (rw[gR];first | exact i0 (by simpa using h) | exact i1 (by simpa using h) | exact i2 (by simpa using h) | exact i3 (by simpa using h) | exact i4 (by simpa using h) | exact i5 (by simpa using h))
    · have h6 : L 6 = false := by cases h : L 6 with | false => rfl | true => exact absurd (i64 h) (by rw [hLi]; simp)
      have h7:L 7=false:=by cases h:L 7 with | false=>rfl | true=>exact absurd (i76 h) (by rw[h6];simp)
      obtain ⟨q1,q2,q3,q4⟩:=hpre h7;refine Ze (R:=fun x w''=>x = .int .u32 sz∧RW w'' e.rb e.sb s2∧Fr [⟨e.rb,0,2⟩] w' w'') hu.enters (vs:=#[.pointer (some ⟨e.rb,0,none⟩)]) (by simp only[List.map_toArray,List.map_cons,List.map_nil,eTm];rw[hgb])
        ((hu.call w' e.rb e.sb s1 (q2 hLi)).mono (by rintro e' w'' ⟨x,rfl,h1,h2,h3⟩;exact ⟨_,rfl,by rw[← hszz];exact h1.u32,by rw[← hs2];exact h2,h3⟩)) ?_
      rintro _ w'' ⟨rfl,hr,hfr⟩;refine ⟨hk'.put (by omega) _,?_,?_,?_,?_,?_,?_,fun h=>by simp,fun h=>by have h:=i76 (by simpa using h);simp[h],fun h=>⟨q1.tr hfr,fun h=>by simp at h,fun _ _=>hr,fun h=>by have h:L 6=true:=(by simpa using h);rw[h6] at h;cases h⟩,fun h=>by have h:L 7=true:=(by simpa using h);rw[h7] at h;cases h⟩ <;> exact fun h=>by first | exact gQ | (rw[gR];first | exact i0 (by simpa using h) | exact i1 (by simpa using h) | exact i2 (by simpa using h) | exact i3 (by simpa using h) | exact i4 (by simpa using h) | exact i5 (by simpa using h))
    · refine wCv (k1:=.u32) (i:=(sz:Int)) h59 h3 (by rw[eTm,i4 (hnd 4 (by simp))]) ?_;rw[Z0Q (by omega)];refine ⟨hk'.put (by omega) _,?_,?_,?_,?_,?_,?_,fun h=>by simpa using i64 (by simpa using h),fun h=>by simpa using i76 (by simpa using h),fun h=>by
        obtain ⟨q1,q2,q3,q4⟩:=hpre (by simpa using h);exact ⟨q1,fun h=>q2 (by simpa using h),fun h h'=>q3 (by simpa using h) (by simpa using h'),fun h=>by obtain ⟨z1,z2⟩:=q4 (by simpa using h);rw[gR];exact ⟨z1,z2⟩⟩,fun h=>hpost (by simpa using h)⟩ <;> exact fun h=>by first | exact gQ | (rw[gR];first | exact i0 (by simpa using h) | exact i1 (by simpa using h) | exact i2 (by simpa using h) | exact i3 (by simpa using h) | exact i4 (by simpa using h) | exact i5 (by simpa using h))
    · have h7 : L 7 = false := by cases h : L 7 with | false => rfl | true => exact absurd (i76 h) (by rw [hLi]; simp)
      have h4:=hnd 4 (by simp);obtain ⟨q1,q2,q3,q4⟩:=hpre h7
      refine Ze (R:=fun x w''=>Octs w'' (·=e.sb) x sp∧RW w'' e.rb e.sb s3∧Fr [⟨e.rb,0,2⟩] w' w'') hsp.enters (vs:=#[.pointer (some ⟨e.rb,0,none⟩),.int .i64 (sz:Int)]) (by simp only[List.map_toArray,List.map_cons,List.map_nil,eTm];rw[hgb,i5 (hnd 5 (by simp))])
        ((hsp.call w' e.rb e.sb s2 (sz:Int) (q3 h4 hLi)).mono (by rintro e' w'' ⟨x,rfl,h1,h2,h3⟩;exact ⟨_,rfl,by rw[← hspp];exact h1,by rw[← hs3];exact h2,h3⟩)) ?_
      rintro x'' w'' ⟨ho,hr,hfr⟩;refine ⟨hk'.put (by omega) _,?_,?_,?_,?_,?_,?_,fun h=>by simp[h4],fun h=>by simp,fun h=>⟨q1.tr hfr,fun h=>(by have h:L 4=false:=(by simpa using h);rw[h4] at h;cases h),fun _ h=>(by simp at h),fun _=>by rw[gQ];exact ⟨ho,hr⟩⟩,fun h=>by have h:L 7=true:=(by simpa using h);rw[h7] at h;cases h⟩ <;> exact fun h=>by first | exact gQ | (rw[gR];first | exact i0 (by simpa using h) | exact i1 (by simpa using h) | exact i2 (by simpa using h) | exact i3 (by simpa using h) | exact i4 (by simpa using h) | exact i5 (by simpa using h))
    have h6:=hnd 6 (by simp);obtain ⟨q1,q2,q3,q4⟩:=hpre hLi;obtain ⟨ho,hr⟩:=q4 h6;have fq:Fr [⟨e.rb,0,2⟩] w4 w':=f6.tr q1;have szq:=fq.size;have hsl:=hm.sl
    refine Ze (R:=fun _ w''=>∃ r,w''.cell? ⟨pb,po+oTq,none⟩=some (.map (some r))∧lo≤r∧TagM w'' (·=e.sb) r (Z1S (Z0b y) kk (.oct sp))∧Fr [⟨pb,po+oTq,po+oTq+1⟩,⟨r,0,0⟩] w' w'') hset.enters
      (vs:=#[.pointer (some ⟨pb,po+oTq,none⟩),.int .u32 (kk:Int),get a' (nh+6)]) (by simp only[List.map_toArray,List.map_cons,List.map_nil,eTm];rw[i2 (hnd 2 (by simp)),i3 (hnd 3 (by simp))])
      ((hset.call w' (·=e.sb) lo pb (po+oTq) v y kk _ _ (fq.cell hc4 (.cons (.inl (fun h=>hm.pr h.symm)) .nil)) ((f46.tr (one' q1)).there htT) (hv4.lift fq (by simp;exact hrw4.1) (by simp;omega) (Nat.le_refl _)) (by rintro b rfl;omega) (by omega) hlt1 ho.v hm.ps).mono (by rintro e' w'' ⟨⟨z,rfl⟩,h⟩;exact ⟨_,rfl,h⟩)) ?_
    rintro x'' w'' ⟨r8,hc8,hr8,hm8,f8⟩;refine ⟨hk'.put (by omega) _,?_,?_,?_,?_,?_,?_,fun h=>by have h:=i64 (by simpa using h);simp[h],fun h=>by simp[h6],fun h=>by simp at h,fun _=>⟨r8,w',hc8,hr8,hm8,hr.kept f8 (by
      intro r hr;simp at hr
      rcases hr with rfl | rfl
      · exact ⟨hm.pr,hm.ps⟩
      · exact ⟨by simp only;omega,by simp only;omega⟩),q1,f8⟩⟩ <;> exact fun h=>by first | exact gQ | (rw[gR];first | exact i0 (by simpa using h) | exact i1 (by simpa using h) | exact i2 (by simpa using h) | exact i3 (by simpa using h) | exact i4 (by simpa using h) | exact i5 (by simpa using h))
  rintro L a' w' hL ⟨hk',-,-,-,-,-,-,-,-,-,hpost⟩;obtain ⟨r8,wm,hc8,hr8,hm8,hr9,q1,f8⟩:=hpost (hL 7 (by simp));have fq:Fr [⟨e.rb,0,2⟩] w4 wm:=f6.tr q1;have szq:=fq.size;have szf:=f8.size;have hsl:=hm.sl;show K7 a' w'
  refine back a' w' false x (Z2p y kk (.oct sp)) s3 (.map (some r8)) lo (kk8.trans (hk'.mono (by omega))) hr9 hgo4 hlo1 (by omega) ⟨z4,f8.range (fq.range hz4 (.cons (.inl (fun h=>hm.pr h.symm)) .nil)) (.cons (.inr (.inl ?_)) (.cons (.inl (by simp only;omega)) .nil)),Rep.kept f8 ?_ (fun _ h=>h) (Rep.kept fq ?_ (fun _ h=>h) hx4),fun h=>by cases h⟩ hc8 (.inr ⟨r8,_,rfl,hr8,hm8,rfl⟩) ?_
  · have:=hx4.length;simp only;omega
  · intro r hr hFt; simp at hr
    rcases hr with rfl | rfl
    · rcases hFt with hFt | ⟨hFt, _⟩
      · exact hm.ps hFt
      simp only at hFt;omega
    rcases hFt with hFt | ⟨_,hFt⟩
    · simp only at hFt;omega
    simp only at hFt;omega
  · intro r hr hFt; simp at hr; subst hr
    rcases hFt with hFt | ⟨hFt,_⟩
    · exact hrw4.1 hFt
    simp only at hFt;omega
  refine (f46.tr (one' q1)).trans f8 ?_;intro r hr;simp at hr
  rcases hr with rfl | rfl
  · exact .inr ⟨⟨pb,po+oTq,po+oTq+1⟩,by simp,rfl,by simp,by simp⟩
  exact .inl (by simp only;omega)
end Go.Kq

namespace Go.Kq
open Go
theorem Z7m {f g:Rd} {ver:Int} {fl:Bool} {a:V→List UInt8} {G:V→List V→List UInt8} {o1 o2:List UInt8} (hg:IsL1 g) (h1:Inv f ver fl a o1) (h2:InvG g ver fl (gKn G) o2):InvG (Z1q f g) ver fl (gKn fun x=>gC a (G x)) (o1++o2):=by
  intro rest nl hn;obtain ⟨x,hx,hax⟩:=h1 (o2++rest) nl (by rw[← List.append_assoc];exact hn);obtain ⟨xs,hxs,haxs⟩:=h2 rest nl (fun h=>by have:=hn h;simp only[List.append_eq_nil_iff] at this ⊢;exact ⟨this.1.2,this.2⟩);obtain ⟨k,ys,hk⟩:=hg _ _ _ _ _ hxs;obtain rfl:xs=k::ys:=by simpa using hk
  refine ⟨k::x::ys,?_,?_⟩
  · rw[List.append_assoc];simp only[Z1q,hx,hxs,consK]
  simp only[gKn] at haxs ⊢;simp only[gC,hax,haxs]
section
variable {ver:Int} {fl:Bool} {y t:T} {fr to nul tag df of:Int} {sub:List Fd}
theorem Z3i {f:Fd} {fs:List Fd} {r g:Rd} {a:V→List UInt8} {G:V→List V→List UInt8} {ts:List T} {i:Nat} {tl:List UInt8} (hg:IsL1 g) (ht:f.tag < 0) (h1:Inv r ver fl a (if f.has ver then Zc f ver fl (atT ts i) else [])) (h2:InvG g ver fl (gKn G) (Z11 fs ver fl ts (i+1)++tl)) :
    InvG (Z1q r g) ver fl (gKn fun x=>gC a (G x)) (Z11 (f::fs) ver fl ts i++tl):=by
  rw[Z11,List.append_assoc];have:(decide (f.tag < 0) && f.has ver)=f.has ver:=by simp[ht]
  rw[this];exact Z7m hg h1 h2
theorem Z8l {f:Fd} {fs:List Fd} {g:Rd} {G:List V→List UInt8} {ts:List T} {i:Nat} {tl:List UInt8} (ht:f.tag=0) (h:InvG g ver fl G (Z11 fs ver fl ts (i+1)++tl)):InvG g ver fl G (Z11 (f::fs) ver fl ts i++tl):=by
  have:Z11 (f::fs) ver fl ts i=Z11 fs ver fl ts (i+1):=by simp[Z11,ht]
  rw[this];exact h
theorem invk_nil {g:Rd} {G:List V→List UInt8} {ts:List T} {i:Nat} {tl:List UInt8} (h:InvG g ver fl G tl):InvG g ver fl G (Z11 [] ver fl ts i++tl):=h
def Z46:List Fd→Bool
  | []=>true
  | f::fs=>decide (f.tag < 0) && Z46 fs
theorem Z2F:∀ {fs:List Fd},Z46 fs=true→∀ f ∈ fs,f.tag < 0
  | [],_=>by simp
  | g :: fs, h => by
    simp only[Z46,Bool.and_eq_true,decide_eq_true_eq] at h;intro f hf
    rcases List.mem_cons.1 hf with rfl | hf
    · exact h.1
    exact Z2F h.2 f hf
theorem Z8q {fs:List Fd} {g:Rd} {gs:List (V→List UInt8)} (hf:Z46 fs=true) (h:InvL g ver fl gs (Z3s fs ver fl t.l 0++(if fl then uvW (ZD fs t).length++Zr (ZD fs t) else []))):InvL g ver fl gs (Z07 fs ver fl t):=by
  rw[Z3h (Z2F hf)];exact h
theorem Z6O {f:Fd} {fs:List Fd} {ts:List T} {i:Nat} (ht:f.tag=0) (hfs:Z46 fs=true):knL (f::fs) ver fl ts i=if Z02 f (atT ts i) then [] else [(0,Zc f ver fl (atT ts i))]:=by
  rw[knL,Z6N (Z2F hfs)]
  cases h:Z02 f (atT ts i) <;> simp[ht]
theorem kn_i16:KnOk (ZT fun _ _=>gNum .i16 2) ver fl (Z0N 2) (fun x=>if isN0 x then [] else [(0,Z0N 2 x)]) (if Z02 (.mk 2 fr to nul tag 0 of sub) y then [] else [(0,Zc (.mk 2 fr to nul tag 0 of sub) ver fl y)]):=by
  cases hu:Z02 (.mk 2 fr to nul tag 0 of sub) y with
  | true=>exact .inl rfl
  | false =>
    refine .inr ⟨_,rfl,Z53,fun x hx=>?_⟩;have hv:Zc (.mk 2 fr to nul tag 0 of sub) ver fl y=fxW y.n 2:=by rw[Z06,show Fd.kind (.mk 2 fr to nul tag 0 of sub)=2 from rfl,Z3q]
    have hne:¬ fxW y.n 2=fxW 0 2:=by
      intro h;have:Z02 (.mk 2 fr to nul tag 0 of sub) y=true:=by simp[Z02,Zg,h]
      rw[this] at hu;cases hu
    rw[hv] at hx;have h0:isN0 x=false:=by
      cases x with
      | n i =>
        simp only[isN0,decide_eq_false_iff_not];rintro rfl;exact hne hx.symm
      | _=>simp only[Z0N] at hx;have:=congrArg List.length hx;simp[fxL] at this
    simp only[h0,Bool.false_eq_true,if_false,hx,hv]
theorem Z7l {val:List UInt8} (h:(if Z02 (.mk 2 fr to nul tag 0 of sub) y then [] else [(0,Zc (.mk 2 fr to nul tag 0 of sub) ver fl y)])=[(0,val)]):val.length < 4294967296:=by
  have hv:Zc (.mk 2 fr to nul tag 0 of sub) ver fl y=fxW y.n 2:=by rw[Z06,show Fd.kind (.mk 2 fr to nul tag 0 of sub)=2 from rfl,Z3q]
  split at h
  · cases h
  simp only[List.cons.injEq,Prod.mk.injEq,true_and,and_true] at h;rw[← h,hv,fxL];omega
theorem inv_elG {ge:Rd} {G:List V→List UInt8} {s:T→List UInt8} (h:InvG ge ver fl G (s y)):Inv ge ver fl (gSt G) (Zh 10 s false fl y):=by
  have e:Zh 10 s false fl y=s y:=by simp[Zh]
  rw[e];exact invg_st h
theorem Z7y {f:Fd} {fs:List Fd} {ts:List T} {i:Nat} (ht:f.tag < 0) (hh:f.has ver=true) (h:1≤(Zc f ver fl (atT ts i)).length):1≤(Z11 (f::fs) ver fl ts i).length:=by
  rw[Z11,if_pos (by simp[ht,hh])];exact Z1L h
theorem Z8c {fs:List Fd} (hf:Z7 fs≤1) (h:1≤(Z11 fs ver fl t.l 0).length):1≤(Z07 fs ver fl t).length:=by
  rw[Z44 hf];exact Z1L h
end
end Go.Kq

namespace Go.Kq
open Go Go.Proofs
theorem fld_asgT {P:Program} {ge:Nat} {cx:Cx} {m id n v:Nat} {S T k o:Nat} {t1 t2 t3 t4 t5:TypeId} {p1 p2 p3 p4 p5:String} {e1 e2 e3 e4 e5:Array Edge} {c ct:Code} {ty:Ty} {dv:V} {g:Int→Bool→RSt→V × RSt}
    (h:Asg P ge cx m c v ty g) (hT:scal P T=true) (hF:Zp P S k o=true) (ho:ty.one=true)
    (hb:(decide (v < n) && decide (n+3 < cx.N) && decide (m≤n) && cx.below m)=true) :
    FldT P ge cx m (Code.seq c (.seq (Code.region id ⟨[⟨some n,.move (.tmp cx.ts),t1,p1,e1,none⟩,oM (n+1) v t2 p2 e2,⟨some (n+2),.nilCheck (.tmp n),t3,p3,e3,none⟩,
      oF (n+3) S (n+2) k t4 p4 e4,oS T (n+3) (n+1) t5 p5 e5]⟩ false) ct)) ct o ty dv (ZT g):=by
  intro e pb po Q a w st hs hm ht hz hk hq;simp only[Bool.and_eq_true,decide_eq_true_eq] at hb;obtain ⟨⟨⟨b1,b2⟩,b3⟩,b4⟩:=hb;have hsz:=hs.size;have ho1:=Ty.one_size ho;have hbl:=Cx.below_spec b4;rw[ho1] at ht;simp only[ho1] at hk;refine wp_seq_k fun K1 hK1=>?_;refine h e pb po K1 _ a w st hs hm ?_;intro a1 w1 x k1 hg hr hrw hfr;refine hK1 a1 w1 ?_;have hs1:=hs.kept b4 k1;have ht1:=hfr.there ht;have hpb:pb < w.heap.size:=Z0f ht (by omega);refine wp_seq_k fun K2 hK2=>?_;refine Z4Z (m:=m) (x:=x) hs1.s hg (hr.oneCell ho) hT hF ht1 (by omega) b1 (by rw[hs1.size];exact b2) b3 ?_;intro a2 k2;have f2:=Fr.set w1 pb (po+o) x;have f3:Fr [⟨e.rb,0,2⟩,⟨pb,po+o,po+o+1⟩] w (w1.setCell ⟨pb,po+o,none⟩ x):=by
    refine (hfr.mono (l':=[⟨e.rb,0,2⟩,⟨pb,po+o,po+o+1⟩]) ?_).trans f2 ?_
    · intro r hr;simp at hr;subst hr;exact .inr ⟨_,by simp,rfl,by simp,by simp⟩
    intro r hr;simp at hr;subst hr;exact .inr ⟨⟨pb,po+o,po+o+1⟩,by simp,rfl,by simp,by simp⟩
  refine hK2 a2 _ (hk a2 _ _ _ rfl (k1.trans k2) (hrw.kept f2 (by intro r hr;simp at hr;subst hr;exact ⟨hm.pr,hm.ps⟩)) f3 ⟨[x],Zz.2 (ZO ht1),?_⟩);refine hr.kept f2 (l:=[⟨pb,po+o,po+o+1⟩]) ?_ (fun b hb=>hb.mono (Nat.le_refl _) f2.size);intro r hr hF;simp at hr
  subst hr
  rcases hF with hF | ⟨hF,_⟩
  · exact hm.ps hF
  simp at hF;omega
end Go.Kq
