/- A part of the library: rules of reasoning about the program's operations and what its shared functions do. -/
import Derived.Test.YtnfigjjpdhhfjaaGreatDoorKqP01
import Derived.Laws.IdiomCopy
import Derived.Lib.SortBridge
import Derived.Sort.LotA
import Derived.Shelf.GgSortFunc.Whole
import Derived.Shelf.GgSortFunc.Tiny
import Derived.Laws.Small
import Derived.Deep.LoopGhost
import Derived.Lib.EndianBits
import Derived.Lib.AppendStr
import Derived.Deep.Upon
set_option linter.unusedVariables false
set_option linter.unusedSimpArgs false
namespace Go.Kq
open Go Go.Proofs
def rdUv (st:RSt):Nat × RSt :=
  match uv st.xs with
  | some (x,n)=>(x,{ st with xs:=st.xs.drop n })
  | none=>(0,.fail)
def gUv (st:RSt):V × RSt:=(.n (rdUv st).1,(rdUv st).2)
theorem Z1j (st:RSt):(rdUv st).1 < 4294967296:=by
  unfold rdUv
  split
  · rename_i x n h;exact (Z5M h).1
  simp
theorem RW.octe {w:World} {rb sb:Nat} {st:RSt} (h:RW w rb sb st):∃ sv,w.cell? ⟨rb,0,none⟩=Option.some sv∧OctE w (·=sb) sv st.xs:=by
  obtain ⟨sv,h0,h1,f0,f1,hrb,hs⟩:=h.cells;refine ⟨sv,h0,?_⟩
  rcases hs with ⟨hn,hxs,rfl⟩ | ⟨hn,o,cap,rfl,hc,hr⟩
  · rw[hxs];exact .nil
  exact .inl ⟨Option.some st.xs,.inr ⟨sb,o,cap,st.xs,rfl,rfl,hc,hr,rfl⟩,rfl⟩
set_option maxRecDepth 10000 in
/-- The reader's own. -/
theorem rdruv_m {P:Program} {f:FuncId} {fn:Func} {et:TypeId} {T3 T4 T22 T114:TypeId} {f100:FuncId} {a0:Array TypeId} {i0 i1 i2 i3 i4 i5 i6 i7:Nat}
    {t0 t1 t2 t3 t4 t5 t6 t7 t8 t9 t10 t11 t12 t13 t14 t15 t16 t17 t18 t19 t20 t21 t22 t23 t24 t25 t26 t27 t28 t29 t30 t31 t32 t33:TypeId} {p0 p1 p2 p3 p4 p5 p6 p7 p8 p9 p10 p11 p12 p13 p14 p15 p16 p17 p18 p19 p20 p21 p22 p23 p24 p25 p26 p27 p28 p29 p30 p31 p32 p33:String} {e0 e1 e2 e3 e4 e5 e6 e7 e8 e9 e10 e11 e12 e13 e14 e15 e16 e17 e18 e19 e20 e21 e22 e23 e24 e25 e26 e27 e28 e29 e30 e31 e32 e33:Array Edge}
    (hf:P.funcs[f]?=some fn) (hname:nG fn=false) (hres:fn.results = #[.tmp 2]) (hN:fn.ntmps=31)
    (hbody:fn.body=some (.seq (Code.region i0 ⟨[oA 2 (.const (.int .u32 0)) t0 p0 e0]⟩ false) (.seq (Code.region i1 ⟨[oM 6 0 t1 p1 e1,⟨some 7,.nilCheck (.tmp 6),t2,p2,e2,none⟩,
    oF 8 T114 7 0 t3 p3 e3,
    oL 9 T22 8 t4 p4 e4,
    oC 10 f100 #[(.tmp 9)] a0 t5 p5 e5,
    oM 5 10 t6 p6 e6,⟨some 11,.extract (.tmp 5) 0,t7,p7,e7,none⟩,⟨some 12,.extract (.tmp 5) 1,t8,p8,e8,none⟩,
    oT 3 11 t9 p9 e9,
    oT 4 12 t10 p10 e10]⟩ false) (.seq (.seq (Code.region i2 ⟨[oM 13 4 t11 p11 e11,⟨some 14,.binOp .leq T3 (.tmp 13) (.const (.int .i64 0)) T3,t12,p12,e12,none⟩]⟩ false) (.cond (.tmp 14) (.seq (Code.region i3 ⟨[oM 15 0 t13 p13 e13,⟨some 16,.nilCheck (.tmp 15),t14,p14,e14,none⟩,
    oF 17 T114 16 1 t15 p15 e15,⟨none,.store T4 (.tmp 17) (.const (.bool true)),t16,p16,e16,none⟩]⟩ false) (.seq (Code.region i4 ⟨[oM 18 0 t17 p17 e17,⟨some 19,.nilCheck (.tmp 18),t18,p18,e18,none⟩,
    oF 20 T114 19 0 t19 p19 e19,⟨none,.store T22 (.tmp 20) (.const (.slice none 0 0)),t20,p20,e20,none⟩]⟩ false) (.seq (Code.region i5 ⟨[oA 2 (.const (.int .u32 0)) t21 p21 e21]⟩ false) .ret))) .skip)) (.seq (Code.region i6 ⟨[oM 21 0 t22 p22 e22,
    oM 22 0 t23 p23 e23,⟨some 23,.nilCheck (.tmp 22),t24,p24,e24,none⟩,
    oF 24 T114 23 0 t25 p25 e25,
    oL 25 T22 24 t26 p26 e26,
    oM 26 4 t27 p27 e27,⟨some 27,.slice T22 (.tmp 25) (some (.tmp 26)) none none,t28,p28,e28,none⟩,⟨some 28,.nilCheck (.tmp 21),t29,p29,e29,none⟩,
    oF 29 T114 28 0 t30 p30 e30,
    oS T22 29 27 t31 p31 e31]⟩ false) (.seq (Code.region i7 ⟨[oM 30 3 t32 p32 e32,
    oT 2 30 t33 p33 e33]⟩ false) .ret))))))
    (hs:Z4 P T22 et 1 1=true) (h22:scal P T22=true) (h4:scal P T4=true) (hF0:Zt P T114 0 0=true) (hF1:Zt P T114 1 1=true) (hu:UvM P f100):Z0r P f (.int .u32) gUv:=by
  refine ⟨enters_of hf hname hbody,?_⟩;intro w rb sb st h;obtain ⟨sv,hc0,ho⟩:=h.octe;have hgone:=h.gone;have hthere:w.there rb 0 2:=h.2.1;refine calls_of_wp hf hbody ?_;generalize ha0:({ tmps:=#[Value.pointer (some ⟨rb,0,none⟩)]++Array.replicate (fn.ntmps - #[Value.pointer (some ⟨rb,0,none⟩)].size) undef,defers:=[] }:Act)=a0;have hsz:a0.tmps.size=31:=by subst ha0;simp[hN]
  have hd0:a0.defers=[]:=by subst ha0;rfl
  have g0:get a0 0 = .pointer (some ⟨rb,0,none⟩):=by subst ha0;exact gAr rfl
  refine tId (wp_seq_k fun K1 hK1=>?_);refine ZA (m:=2) (by omega) (by omega) fun a1 k1 _=>hK1 a1 w (tUp ?_);have hz1:=k1.size;have g1:get a1 0 = .pointer (some ⟨rb,0,none⟩):=by rw[k1.get 0 (by omega),g0]
  refine wT fun K2 hK2=>?_;rw[wCo,wMw,eTm,g1,wCo];refine wNc (q:=⟨rb,0,none⟩) (by rw[eTm,gQ]) ?_;refine wC (wFa (b:=rb) (i:=0) hF0 (by rw[eTm,gQ]) ?_);refine wC (Zn h22 (b:=rb) (o:=0) (v:=sv) (by rw[eTm,gQ]) hc0 ?_);rw[wCo];refine Ze (R:=fun v w'=>w'=w∧∃ (x:Nat) (z:Int),v = .tuple #[.int .u32 x,.int .i64 z]∧((z≤0∧uv st.xs=none)∨∃ n:Nat,z=n∧uv st.xs=some (x,n))) hu.enters (vs:=#[sv])
    (by simp[eTm,gPs (a:=((a1.put (some 6) (.pointer (some ⟨rb,0,none⟩))).put (some 7) (.pointer (some ⟨rb,0,none⟩))).put (some 8) (.pointer (some ⟨rb,0+0,none⟩))) (d:=9) (v:=sv) (by simp only[sPu];omega)])
    ((hu.call w _ sv st.xs ho).mono (by
      rintro e' w' ⟨rfl,hm⟩
      cases huv:uv st.xs with
      | none=>rw[huv] at hm;obtain ⟨z,hz,rfl⟩:=hm;exact ⟨_,rfl,rfl,0,z,rfl,.inl ⟨hz,rfl⟩⟩
      | some y=>obtain ⟨x,n⟩:=y;rw[huv] at hm;subst hm;exact ⟨_,rfl,rfl,x,n,rfl,.inr ⟨n,rfl,rfl⟩⟩)) ?_
  rintro v w' ⟨rfl,x,z,rfl,hxz⟩;rw[wCo,wMw,eTm,gQ,wCo];refine Z0H (vs:=#[.int .u32 x,.int .i64 z]) (v:=.int .u32 x) (by rw[eTm,gQ]) rfl ?_;refine wC (Z0H (vs:=#[.int .u32 x,.int .i64 z]) (v:=.int .i64 z) (by rw[eTm,gR,gQ]) rfl ?_);rw[wCo,wAg,eTm,gR,gQ,wCo,wAg,eTm,gR,gQ,wNi];generalize ha2:(((((((((a1.put (some 6) (.pointer (some ⟨rb,0,none⟩))).put (some 7) (.pointer (some ⟨rb,0,none⟩))).put (some 8) (.pointer (some ⟨rb,0+0,none⟩))).put (some 9) sv).put (some 10) (.tuple #[.int .u32 x,.int .i64 z])).put (some 5) (.tuple #[.int .u32 x,.int .i64 z])).put (some 11) (.int .u32 x)).put (some 12) (.int .i64 z)).put (some 3) (.int .u32 x)).put (some 4) (.int .i64 z)=a2;have k2:Kept 2 a1 a2:=by subst ha2;exact (((((((((Kept.put0 (by omega) _).pt).pt).pt).pt).pt).pt).pt).pt).pt
  have q3:get a2 3 = .int .u32 x:=by subst ha2;rw[gR,gQ]
  have q4:get a2 4 = .int .i64 z:=by subst ha2;exact gQ
  have hz2:=k2.size;refine hK2 a2 w' (tUp ?_);refine tId (wp_seq_k fun K3 hK3=>?_);refine wS fun K4 hK4=>?_;rw[wCo,wMw,eTm,q4,wCo];refine Z4Z (k1:=.i64) (i:=z) (j:=0) (by rw[eTm,gQ]) rfl ?_;rw[wNi];generalize ha3:(a2.put (some 13) (.int .i64 z)).put (some 14) (.bool (decide (z≤0)))=a3;have k3:Kept 13 a2 a3:=by subst ha3;exact (Kept.put0 (by omega) _).pt
  have q14:get a3 14 = .bool (decide (z≤0)):=by subst ha3;exact gQ
  have hz3:=k3.size;have g3:get a3 0 = .pointer (some ⟨rb,0,none⟩):=by rw[k3.get 0 (by omega),k2.get 0 (by omega),g1]
  have hd3:a3.defers=[]:=by rw[k3.defers,k2.defers,k1.defers,hd0]
  refine hK4 a3 w' ?_;refine wp_cond_split (t:=decide (z≤0)) (by rw[eTm,q14]) (fun hz=>?_) fun hz=>wp_skip (hK3 a3 w' (tUp ?_))
  · have hnone:uv st.xs=none:=by
      rcases hxz with ⟨_,h⟩ | ⟨n,rfl,h⟩
      · exact h
      have:=(Z5M h).2.1;simp at hz;omega
    have er:gUv st=(.n 0,.fail):=by simp[gUv,rdUv,hnone]
    rw[er];refine wS fun K5 hK5=>?_;rw[wCo,wMw,eTm,g3,wCo];refine wNc (q:=⟨rb,0,none⟩) (by rw[eTm,gQ]) ?_;refine wC (wFa (b:=rb) (i:=0) hF1 (by rw[eTm,gQ]) ?_);refine wC (Z0b h4 (b:=rb) (o:=0+1) (v:=.bool true) (by rw[eTm,gQ]) rfl rfl (Z8 hthere (by omega) (by omega)) ?_);rw[pNo,wNi];generalize ha4:((a3.put (some 15) (.pointer (some ⟨rb,0,none⟩))).put (some 16) (.pointer (some ⟨rb,0,none⟩))).put (some 17) (.pointer (some ⟨rb,0+1,none⟩))=a4;have k4:Kept 13 a3 a4:=by subst ha4;exact ((Kept.put0 (by omega) _).pt).pt
    have hz4:=k4.size;refine hK5 a4 _ ?_;refine wS fun K6 hK6=>?_;rw[wCo,wMw,eTm,k4.get 0 (by omega),g3,wCo];refine wNc (q:=⟨rb,0,none⟩) (by rw[eTm,gQ]) ?_;refine wC (wFa (b:=rb) (i:=0) hF0 (by rw[eTm,gQ]) ?_);refine wC (Z0b h22 (b:=rb) (o:=0+0) (v:=.slice none 0 0) (by rw[eTm,gQ]) rfl rfl (Z8 ((Fr.set w' rb (0+1) (.bool true)).there hthere) (by omega) (by omega)) ?_);rw[pNo,wNi];generalize ha5:((a4.put (some 18) (.pointer (some ⟨rb,0,none⟩))).put (some 19) (.pointer (some ⟨rb,0,none⟩))).put (some 20) (.pointer (some ⟨rb,0+0,none⟩))=a5;have k5:Kept 13 a4 a5:=by subst ha5;exact ((Kept.put0 (by omega) _).pt).pt
    have hz5:=k5.size;refine hK6 a5 _ ?_;refine wp_seq_k fun K7 hK7=>?_;refine ZA (m:=2) (by omega) (by omega) fun a6 k6 g6=>hK7 a6 _ ?_;exact wp_ret ⟨by rw[k6.defers,k5.defers,k4.defers,hd3],_,Z6 hres,_,rfl,by rw[g6];exact ⟨0,rfl,rfl,by decide,by decide⟩,hgone.1,hgone.2⟩
  obtain ⟨n,rfl,hsome⟩:∃ n:Nat,z=n∧uv st.xs=some (x,n):=by
    rcases hxz with ⟨h,_⟩ | h
    · simp at hz;omega
    exact h
  obtain ⟨hx32,hn1,hnl⟩:=Z5M hsome;have er:gUv st=(.n x,{ st with xs:=st.xs.drop n }):=by simp[gUv,rdUv,hsome]
  rw[er];have hne:st.xs ≠ []:=by intro e;rw[e] at hnl;simp at hnl;omega
  obtain ⟨o,cap,hc,_,_,_,hrb,hsb,hcap,hr,hnil⟩:=h.some hne;have hsv:sv = .slice (some ⟨sb,o,none⟩) st.xs.length cap:=by rw[hc] at hc0;exact (Option.some.inj hc0).symm
  refine wT fun K5 hK5=>?_;rw[wCo,wMw,eTm,g3,wCo,wMw,eTm,gR,g3,wCo];refine wNc (q:=⟨rb,0,none⟩) (by rw[eTm,gQ]) ?_;refine wC (wFa (b:=rb) (i:=0) hF0 (by rw[eTm,gQ]) ?_);refine wC (Zn h22 (b:=rb) (o:=0) (v:=.slice (some ⟨sb,o,none⟩) st.xs.length cap) (by rw[eTm,gQ]) hc ?_);rw[wCo,wMw,eTm,gR,gR,gR,gR,gR,k3.get 4 (by omega),q4,wCo];refine Z4h (q:=some ⟨sb,o,none⟩) (len:=st.xs.length) (cap:=cap) (l:=n) (k1:=.i64) hs (by rw[eTm,gR,gQ]) (by rw[eTm,gQ]) hnl ?_;refine wC (wNc (q:=⟨rb,0,none⟩) (by rw[eTm,gR,gR,gR,gR,gR,gR,gQ]) ?_);refine wC (wFa (b:=rb) (i:=0) hF0 (by rw[eTm,gQ]) ?_);rw[wCo];generalize hvv:Value.slice (if cap=n then some ⟨sb,o,none⟩ else Option.map (fun y:Addr=>y.add (n * 1)) (some ⟨sb,o,none⟩)) (st.xs.length - n) (cap - n)=vv;have hvv':vv = .slice (if cap=n then some ⟨sb,o,none⟩ else some ⟨sb,o+n,none⟩) (st.xs.length - n) (cap - n):=by rw[← hvv];simp[Z3E]
  have hone:vv.oneCell'=true:=by rw[hvv'];rfl
  refine Z0b h22 (b:=rb) (o:=0+0) (v:=vv) (by rw[eTm,gQ]) (by rw[eTm,gR,gR,gQ]) hone (Z8 hthere (by omega) (by omega)) ?_;rw[pNo,wNi];have hon:=h.on (w1:=w') (k:=n) hc hr hcap hnil hnl (Fr.refl _ _) hvv';generalize ha4:(((((((a3.put (some 21) (.pointer (some ⟨rb,0,none⟩))).put (some 22) (.pointer (some ⟨rb,0,none⟩))).put (some 23) (.pointer (some ⟨rb,0,none⟩))).put (some 24) (.pointer (some ⟨rb,0+0,none⟩))).put (some 25) (.slice (some ⟨sb,o,none⟩) st.xs.length cap)).put (some 26) (.int .i64 n)).put (some 27) vv).put (some 28) (.pointer (some ⟨rb,0,none⟩))=a4';generalize ha5:a4'.put (some 29) (.pointer (some ⟨rb,0+0,none⟩))=a5;have k5:Kept 13 a3 a5:=by subst ha5 ha4;exact ((((((((Kept.put0 (by omega) _).pt).pt).pt).pt).pt).pt).pt).pt
  clear ha4 ha5;have hz5:=k5.size;refine hK5 a5 _ (tUp ?_);refine wT fun K6 hK6=>?_;rw[wCo,wMw,eTm,k5.get 3 (by omega),k3.get 3 (by omega),q3,wCo,wAg,eTm,gQ,wNi];refine hK6 _ _ (wp_ret ?_);refine ⟨by simp only[dPu];rw[k5.defers,hd3],_,Z6 hres,_,rfl,?_,hon.1,hon.2⟩;rw[gQ];exact ⟨x,rfl,rfl,by simp[IntKind.min,IntKind.signed],by simp[IntKind.max,IntKind.signed,IntKind.bits];omega⟩
def TagV (w:World) (A:Nat→Prop) (lo:Nat) (v:Value) (x:V):Prop:=(v = .map none∧x = .nil)∨∃ r kv,v = .map (some r)∧lo≤r∧TagM w A r kv∧x = .t kv
structure Z4U (P:Program) (f:FuncId):Prop where
  enters:Enters P f
  call:∀ w A lo tb to v x (k:Nat) u y,w.cell? ⟨tb,to,none⟩=some v→w.there tb to 1→TagV w A lo v x→(∀ b,A b→b < lo)→lo≤w.heap.size→k < 4294967296→Z2l w A u y→¬ A tb →
    Calls P f #[.pointer (some ⟨tb,to,none⟩),.int .u32 (k:Int),u] w fun e w'=>(∃ z,e = .returned z)∧∃ r,w'.cell? ⟨tb,to,none⟩=some (.map (some r))∧lo≤r∧TagM w' A r (Z1U (Z04 x) k (.oct y))∧Fr [⟨tb,to,to+1⟩,⟨r,0,0⟩] w w'
theorem TagM.notCell {w:World} {A:Nat→Prop} {r:Nat} {kv:List (Nat × V)} {tb to:Nat} {v:Value} (h:TagM w A r kv) (hc:w.cell? ⟨tb,to,none⟩=some v):tb ≠ r:=by
  rintro rfl;obtain ⟨es,clock,h1,_⟩:=h;obtain ⟨cs,T,fz,h2,_⟩:=Z0X hc;rw[h1] at h2;cases h2
theorem settag_m {P:Program} {f:FuncId} {fn:Func} {kt et:TypeId} {T97 T99:TypeId} {i0 i1 i2:Nat}
    {t0 t1 t2 t3 t4 t5 t6 t7 t8 t9 t10 t11 t12 t13 t14 t15 t16:TypeId} {p0 p1 p2 p3 p4 p5 p6 p7 p8 p9 p10 p11 p12 p13 p14 p15 p16:String} {e0 e1 e2 e3 e4 e5 e6 e7 e8 e9 e10 e11 e12 e13 e14 e15 e16:Array Edge}
    (hf:P.funcs[f]?=some fn) (hname:nG fn=false) (hres:fn.results = #[]) (hN:fn.ntmps=21)
    (hbody:fn.body=some (.seq (.seq (Code.region i0 ⟨[oM 6 0 t0 p0 e0,⟨some 7,.nilCheck (.tmp 6),t1,p1,e1,none⟩,
    oF 8 T99 7 0 t2 p2 e2,
    oL 9 T97 8 t3 p3 e3,⟨some 10,.binOp .eql T97 (.tmp 9) (.const (.map none)) T97,t4,p4,e4,none⟩]⟩ false) (.cond (.tmp 10) (Code.region i1 ⟨[oM 11 0 t5 p5 e5,⟨some 12,.makeMap T97 none,t6,p6,e6,none⟩,⟨some 13,.nilCheck (.tmp 11),t7,p7,e7,none⟩,
    oF 14 T99 13 0 t8 p8 e8,
    oS T97 14 12 t9 p9 e9]⟩ false) .skip))
  (Code.region i2 ⟨[oM 15 0 t10 p10 e10,⟨some 16,.nilCheck (.tmp 15),t11,p11,e11,none⟩,
    oF 17 T99 16 0 t12 p12 e12,
    oL 18 T97 17 t13 p13 e13,
    oM 19 1 t14 p14 e14,
    oM 20 2 t15 p15 e15,⟨none,.mapUpdate T97 (.tmp 18) (.tmp 19) (.tmp 20),t16,p16,e16,none⟩]⟩ false)))
    (hT:Z3X P T97 kt et=true) (h97:scal P T97=true) (hF:Zt P T99 0 0=true):Z4U P f:=by
  refine ⟨enters_of hf hname hbody,?_⟩;intro w A lo tb to v x k u y hc hth hv hA hlo hk hu hAt;refine calls_of_wp hf hbody ?_;generalize ha0:({ tmps:=#[Value.pointer (some ⟨tb,to,none⟩),Value.int .u32 (k:Int),u]++Array.replicate (fn.ntmps - #[Value.pointer (some ⟨tb,to,none⟩),Value.int .u32 (k:Int),u].size) undef,defers:=[] }:Act)=a0;have hsz:a0.tmps.size=21:=by subst ha0;simp[hN]
  have hd0:a0.defers=[]:=by subst ha0;rfl
  have g0:get a0 0 = .pointer (some ⟨tb,to,none⟩):=by subst ha0;exact gAr rfl
  have g1:get a0 1 = .int .u32 (k:Int):=by subst ha0;exact gAr rfl
  have g2:get a0 2=u:=by subst ha0;exact gAr rfl
  obtain ⟨q,hvq⟩:∃ q,v = .map q:=by
    rcases hv with ⟨rfl,_⟩ | ⟨r,kv,rfl,_⟩
    · exact ⟨_,rfl⟩
    exact ⟨_,rfl⟩
  subst hvq;have main:∀ (a:Act) (w2:World) (r:Nat) (kv:List (Nat × V)),Kept 6 a0 a→w2.cell? ⟨tb,to,none⟩=some (.map (some r))→lo≤r→TagM w2 A r kv→kv=Z04 x→Fr [⟨tb,to,to+1⟩,⟨r,0,0⟩] w w2 →
      (Code.region i2 ⟨[oM 15 0 t10 p10 e10,⟨some 16,.nilCheck (.tmp 15),t11,p11,e11,none⟩,oF 17 T99 16 0 t12 p12 e12,oL 18 T97 17 t13 p13 e13,oM 19 1 t14 p14 e14,oM 20 2 t15 p15 e15,⟨none,.mapUpdate T97 (.tmp 18) (.tmp 19) (.tmp 20),t16,p16,e16,none⟩]⟩ false).wp P (bodyPost P fn fun e w'=>(∃ z,e = .returned z)∧∃ r,w'.cell? ⟨tb,to,none⟩=some (.map (some r))∧lo≤r∧TagM w' A r (Z1U (Z04 x) k (.oct y))∧Fr [⟨tb,to,to+1⟩,⟨r,0,0⟩] w w') a w2:=by
    intro a w2 r kv hk2 hc2 hlr hm hkv hfr;have hsz2:=hk2.size;refine Z2 ?_;rw[wCo,wMw,eTm,hk2.get 0 (by omega),g0,wCo];refine wNc (q:=⟨tb,to,none⟩) (by rw[eTm,gQ]) ?_;refine wC (wFa (b:=tb) (i:=to) hF (by rw[eTm,gQ]) ?_);refine wC (Zn h97 (b:=tb) (o:=to) (by rw[eTm,gQ];simp) hc2 ?_);rw[wCo,wMw,eTm,gR,gR,gR,gR,hk2.get 1 (by omega),g1,wCo,wMw,eTm,gR,gR,gR,gR,gR,hk2.get 2 (by omega),g2,wCo];refine Z7o (r:=r) (k:=k) (v:=u) (A:=A) (kv:=kv) (x:=y) hT (by rw[eTm,gR,gR,gQ]) (by rw[eTm,gR,gQ]) (by rw[eTm,gQ]) hm hk
      (hu.kept hfr (by intro z hz;simp at hz;rcases hz with rfl | rfl;exact hAt;intro hb;have:=hA _ hb;simp only at this;omega) (fun _ h=>h)) (fun hb=>by have:=hA _ hb;omega) ?_
    intro w3 f3 hm3;rw[pNo,wNi];refine ⟨by simp only[dPu];rw[hk2.defers,hd0],.tuple #[],by simp[results,hres],⟨_,rfl⟩,r,f3.cell hc2 (.cons (.inl (fun e=>hm.notCell hc2 e.symm)) .nil),hlr,by rw[← hkv];exact hm3,?_⟩;refine hfr.trans f3 ?_;intro z hz;simp at hz;subst hz;exact .inr ⟨⟨r,0,0⟩,by simp,rfl,by simp,by simp⟩
  refine tId (wp_seq_k fun K1 hK1=>?_);refine wS fun K2 hK2=>?_;rw[wCo,wMw,eTm,g0,wCo];refine wNc (q:=⟨tb,to,none⟩) (by rw[eTm,gQ]) ?_;refine wC (wFa (b:=tb) (i:=to) hF (by rw[eTm,gQ]) ?_);refine wC (Zn h97 (b:=tb) (o:=to) (by rw[eTm,gQ];simp) hc ?_);refine wC (Z51 (q:=q) hT (by rw[eTm,gQ]) ?_);rw[wNi];generalize ha1:((((a0.put (some 6) (.pointer (some ⟨tb,to,none⟩))).put (some 7) (.pointer (some ⟨tb,to,none⟩))).put (some 8) (.pointer (some ⟨tb,to+0,none⟩))).put (some 9) (.map q)).put (some 10) (.bool q.isNone)=a1;have k1:Kept 6 a0 a1:=by subst ha1;exact ((((Kept.put0 (by omega) _).pt).pt).pt).pt
  have g10:get a1 10 = .bool q.isNone:=by subst ha1;exact gQ
  have hz1:=k1.size;refine hK2 a1 w ?_;refine wp_cond_split (t:=q.isNone) (by rw[eTm,g10]) (fun hq=>?_) fun hq=>wp_skip (hK1 a1 w (tUp ?_))
  · obtain rfl : q = none := by simpa using hq
    obtain rfl:x = .nil:=by
      rcases hv with ⟨_,h⟩ | ⟨r,kv,h,_⟩
      · exact h
      cases h
    refine Z2 ?_;rw[wCo,wMw,eTm,k1.get 0 (by omega),g0,wCo];refine Z6Q ?_;have f1:=Fr.alloc [] w (.map #[] 0);have hnew:=TagM.new w A;have sz1:=Zd w (.map #[] 0);generalize w.alloc (.map #[] 0)=w1 at f1 hnew sz1 ⊢;refine wC (wNc (q:=⟨tb,to,none⟩) (by rw[eTm,gR,gQ]) ?_);refine wC (wFa (b:=tb) (i:=to) hF (by rw[eTm,gQ]) ?_);rw[wCo];have th1:=f1.there hth;refine Z0b h97 (b:=tb) (o:=to+0) (v:=.map (some w.heap.size)) (by rw[eTm,gQ]) (by rw[eTm,gR,gR,gQ]) rfl th1 ?_;rw[pNo,wNi];have f2:=Fr.set w1 tb to (.map (some w.heap.size));have htl:=Zz hc;refine hK1 _ _ (tUp ?_);refine main _ _ w.heap.size [] ((((k1.put (by omega) _).pt).pt).pt) (ZW th1) hlo ?_ rfl ?_
    · exact hnew.kept f2 (by intro z hz;simp at hz;subst hz;exact hAt) (by intro z hz;simp at hz;subst hz;simp only;omega) (fun _ h=>h)
    refine (f1.nil (l:=[⟨tb,to,to+1⟩,⟨w.heap.size,0,0⟩])).trans f2 ?_;intro z hz;simp at hz;subst hz;exact .inr ⟨⟨tb,to,to+1⟩,by simp,rfl,by simp,by simp⟩
  rcases hv with ⟨h,_⟩ | ⟨r,kv,h,hlr,hm,rfl⟩
  · simp at h;subst h;simp at hq
  simp at h;subst h
  exact main a1 w r kv k1 hc hlr hm rfl (Fr.refl _ _)
structure Z4g (P:Program) (f:FuncId):Prop where
  enters:Enters P f
  call:∀ w rb sb st l,RW w rb sb st→Calls P f #[.pointer (some ⟨rb,0,none⟩),.int .i64 l] w fun e w'=>∃ x,e = .returned x∧Octs w' (·=sb) x (Z9 l st).1∧RW w' rb sb (Z9 l st).2∧Fr [⟨rb,0,2⟩] w w'
def Z2c:Nat→V→RSt→V × RSt
  | 0,x,st=>(x,st)
  | n+1,x,st=>Z2c n (Z2n x (rdUv st).1 (.oct (Z9 (rdUv (rdUv st).2).1 (rdUv (rdUv st).2).2).1)) (Z9 (rdUv (rdUv st).2).1 (rdUv (rdUv st).2).2).2
def Z2o (st:RSt):V × RSt:=Z2c (rdUv st).1 .nil (rdUv st).2
structure TagsM (P:Program) (f:FuncId):Prop where
  enters:Enters P f
  call:∀ w rb sb st,RW w rb sb st→sb < w.heap.size→Calls P f #[.pointer (some ⟨rb,0,none⟩)] w fun e w'=>∃ v,e = .returned (.agg #[v])∧Rep w' (Foot sb w.heap.size w'.heap.size) .tags [v] (Z2o st).1∧RW w' rb sb (Z2o st).2∧Fr [⟨rb,0,2⟩] w w'
theorem Rep.u32 {w:World} {A:Nat→Prop} {v:Value} {n:Nat} (h:Rep w A (.int .u32) [v] (.n n)):v = .int .u32 n:=by
  obtain ⟨i,h1,h2,_⟩:=h;simp at h1 h2
  rw[h1,h2]
set_option maxRecDepth 10000 in
theorem tags_m {P:Program} {f:FuncId} {fn:Func} {T3 T59 T99:TypeId} {f92 f94 f95:FuncId} {a0 a1 a2 a3 a4:Array TypeId} {i0 i1 i2 i3 i5 i6 i4 i7:Nat}
    {t0 t1 t2 t3 t4 t5 t6 t7 t8 t9 t10 t11 t12 t13 t14 t15 t16 t17 t18 t19 t20 t21 t22 t23:TypeId} {p0 p1 p2 p3 p4 p5 p6 p7 p8 p9 p10 p11 p12 p13 p14 p15 p16 p17 p18 p19 p20 p21 p22 p23:String} {e0 e1 e2 e3 e4 e5 e6 e7 e8 e9 e10 e11 e12 e13 e14 e15 e16 e17 e18 e19 e20 e21 e22 e23:Array Edge}
    (hf:P.funcs[f]?=some fn) (hname:nG fn=false) (hres:fn.results = #[.cell 2 T99]) (hN:fn.ntmps=24)
    (hbody:fn.body=some (.seq (Code.region i0 ⟨[⟨some 2,.alloc T99,t0,p0,e0,none⟩]⟩ false) (.seq (Code.region i1 ⟨[⟨some 3,.alloc T99,t1,p1,e1,none⟩]⟩ false) (.seq (.seq (Code.region i2 ⟨[oM 7 0 t2 p2 e2,
    oC 8 f94 #[(.tmp 7)] a0 t3 p3 e3,
    oT 4 8 t4 p4 e4]⟩ false) (.block 0 (.loop (.seq (.seq (Code.region i3 ⟨[oM 9 4 t5 p5 e5,⟨some 10,.binOp .gtr T59 (.tmp 9) (.const (.int .u32 0)) T59,t6,p6,e6,none⟩]⟩ false) (.cond (.tmp 10) .skip
  (.exit 0))) (.seq (.block 1 (.seq (Code.region i5 ⟨[oM 13 0 t7 p7 e7,
    oC 14 f94 #[(.tmp 13)] a1 t8 p8 e8,
    oM 15 0 t9 p9 e9,
    oC 16 f94 #[(.tmp 15)] a2 t10 p10 e10,
    oT 5 14 t11 p11 e11,
    oT 6 16 t12 p12 e12]⟩ false)
  (Code.region i6 ⟨[oM 17 5 t13 p13 e13,
    oM 18 0 t14 p14 e14,
    oM 19 6 t15 p15 e15,⟨some 20,.convert T59 T3 (.tmp 19),t16,p16,e16,none⟩,
    oC 21 f92 #[(.tmp 18),(.tmp 20)] a3 t17 p17 e17,
    oC 22 f95 #[(.tmp 3),(.tmp 17),(.tmp 21)] a4 t18 p18 e18]⟩ false)))
  (Code.region i4 ⟨[oM 11 4 t19 p19 e19,⟨some 12,.binOp .sub T59 (.tmp 11) (.const (.int .u32 1)) T59,t20,p20,e20,none⟩,
    oT 4 12 t21 p21 e21]⟩ false)))))) (.seq (Code.region i7 ⟨[oL 23 T99 3 t22 p22 e22,
    oS T99 2 23 t23 p23 e23]⟩ false) .ret)))))
    (hT:Flat P T99 [.map none]) (h59:Zh P T59 .u32=true) (h3:Zh P T3 .i64=true) (hu:Z0r P f94 (.int .u32) gUv) (hsp:Z4g P f92) (hset:Z4U P f95):TagsM P f:=by
  refine ⟨enters_of hf hname hbody,?_⟩;intro w rb sb st h hsb;have hrb:rb < w.heap.size:=by obtain ⟨sv,h0,_⟩:=h.octe;exact Zz h0
  refine calls_of_wp hf hbody ?_;generalize ha0:({ tmps:=#[Value.pointer (some ⟨rb,0,none⟩)]++Array.replicate (fn.ntmps - #[Value.pointer (some ⟨rb,0,none⟩)].size) undef,defers:=[] }:Act)=a0;have hsz:a0.tmps.size=24:=by subst ha0;simp[hN]
  have hd0:a0.defers=[]:=by subst ha0;rfl
  have g0:get a0 0 = .pointer (some ⟨rb,0,none⟩):=by subst ha0;exact gAr rfl
  refine wT fun K1 hK1=>?_;refine wC (Z0d hT.zero ?_);rw[wNi];have f1:=Fr.alloc [] w (.cells (Value.agg #[.map none]).cells T99);have th1:(w.alloc (.cells (Value.agg #[.map none]).cells T99)).there w.heap.size 0 1:=Zx w #[.map none] T99;have sz1:=Zd w (.cells (Value.agg #[.map none]).cells T99);have hcast:(Value.agg [Value.map none].toArray)=(Value.agg #[.map none]):=rfl;rw[hcast];generalize w.alloc (.cells (Value.agg #[.map none]).cells T99)=w1 at f1 th1 sz1 ⊢;have k1:Kept 2 a0 (a0.put (some 2) (.pointer (some ⟨w.heap.size,0,none⟩))):=Kept.put0 (by omega) _;have q2:get (a0.put (some 2) (.pointer (some ⟨w.heap.size,0,none⟩))) 2 = .pointer (some ⟨w.heap.size,0,none⟩):=gQ;generalize a0.put (some 2) (.pointer (some ⟨w.heap.size,0,none⟩))=b1 at k1 q2 ⊢;have hz1:=k1.size;refine hK1 b1 w1 (tUp ?_);refine wT fun K2 hK2=>?_;refine wC (Z0d hT.zero ?_);rw[wNi];have f2:=Fr.alloc [] w1 (.cells (Value.agg #[.map none]).cells T99);have th2:(w1.alloc (.cells (Value.agg #[.map none]).cells T99)).there w1.heap.size 0 1:=Zx w1 #[.map none] T99;have c2:(w1.alloc (.cells (Value.agg #[.map none]).cells T99)).cell? ⟨w1.heap.size,0,none⟩=some (.map none):=(ZD w1 #[.map none] T99 (0,0)) 0 _ rfl;have sz2:=Zd w1 (.cells (Value.agg #[.map none]).cells T99);rw[hcast];generalize w1.alloc (.cells (Value.agg #[.map none]).cells T99)=w2 at f2 th2 c2 sz2 ⊢;have k2:Kept 3 b1 (b1.put (some 3) (.pointer (some ⟨w1.heap.size,0,none⟩))):=Kept.put0 (by omega) _;have q3:get (b1.put (some 3) (.pointer (some ⟨w1.heap.size,0,none⟩))) 3 = .pointer (some ⟨w1.heap.size,0,none⟩):=gQ;generalize b1.put (some 3) (.pointer (some ⟨w1.heap.size,0,none⟩))=b2 at k2 q3 ⊢;have hz2:=k2.size;have f02:Fr [] w w2:=f1.tr f2;refine hK2 b2 w2 (tUp ?_);refine tId (wp_seq_k fun K3 hK3=>?_);refine wS fun K4 hK4=>?_;rw[wCo,wMw,eTm,k2.get 0 (by omega),k1.get 0 (by omega),g0,wCo];refine Ze (R:=fun x w'=>x = .int .u32 (rdUv st).1∧RW w' rb sb (rdUv st).2∧Fr [⟨rb,0,2⟩] w2 w') hu.enters (vs:=#[.pointer (some ⟨rb,0,none⟩)]) (by simp[eTm,gPs (a:=b2) (d:=7) (v:=.pointer (some ⟨rb,0,none⟩)) (by omega)])
    ((hu.call w2 rb sb st (h.kept f02 (by simp))).mono (by rintro e' w' ⟨x,rfl,h1,h2,h3⟩;exact ⟨_,rfl,h1.u32,h2,h3⟩)) ?_
  rintro x w3 ⟨rfl,hr3,f3⟩;rw[wCo,wAg,eTm,gQ,wNi];generalize hb3:((b2.put (some 7) (.pointer (some ⟨rb,0,none⟩))).put (some 8) (.int .u32 (rdUv st).1)).put (some 4) (.int .u32 (rdUv st).1)=b3;have k3:Kept 4 b2 b3:=by subst hb3;exact ((Kept.put0 (by omega) _).pt).pt
  have q4:get b3 4 = .int .u32 (rdUv st).1:=by subst hb3;exact gQ
  clear hb3;have hz3:=k3.size;have hlt:=Z1j st;have sz3:=f3.size;refine hK4 b3 w3 ?_;refine wp_block (wp_loop (fun a' w'=>∃ (n:Nat) (x:V) (s:RSt) (v:Value),n < 4294967296∧a'.tmps.size=24∧a'.defers=[]∧get a' 0 = .pointer (some ⟨rb,0,none⟩)∧get a' 2 = .pointer (some ⟨w.heap.size,0,none⟩)∧get a' 3 = .pointer (some ⟨w1.heap.size,0,none⟩)∧get a' 4 = .int .u32 n ∧
      RW w' rb sb s∧Z2c n x s=Z2o st∧w'.cell? ⟨w1.heap.size,0,none⟩=some v∧TagV w' (·=sb) w.heap.size v x∧w'.there w1.heap.size 0 1∧w'.there w.heap.size 0 1∧Fr [⟨rb,0,2⟩] w w') (fun a' _=>Z3i (get a' 4)) ?_ ?_)
  · refine ⟨(rdUv st).1,.nil,(rdUv st).2,.map none,hlt,by omega,by rw[k3.defers,k2.defers,k1.defers,hd0],by rw[k3.get 0 (by omega),k2.get 0 (by omega),k1.get 0 (by omega),g0],by rw[k3.get 2 (by omega),k2.get 2 (by omega),q2],by rw[k3.get 3 (by omega),q3],q4,hr3,rfl,
      f3.cell c2 (.cons (.inl (by simp only;omega)) .nil),.inl ⟨rfl,rfl⟩,f3.there th2,f3.there (f2.there th1),(f02.nil (l:=_)).tr f3⟩
  rintro a4 w4 ⟨n,x,s,v,hn,hs4,hd4,p0,p2,p3',p4,hr4,hgo,hc4,hv4,ht4,htr4,f4⟩;refine wp_seq_k fun K5 hK5=>?_;refine wS fun K6 hK6=>?_;rw[wCo,wMw,eTm,p4,wCo];refine Z2m (k1:=.u32) (i:=n) (j:=0) (by rw[eTm,gQ]) rfl ?_;rw[wNi];generalize ha5:(a4.put (some 9) (.int .u32 n)).put (some 10) (.bool (decide ((n:Int) > 0)))=a5;have k5:Kept 9 a4 a5:=by subst ha5;exact (Kept.put0 (by omega) _).pt
  have g10:get a5 10 = .bool (decide ((n:Int) > 0)):=by subst ha5;exact gQ
  have hz5:=k5.size;have sz4:=f4.size;refine hK6 a5 w4 ?_;refine wp_cond_split (t:=decide ((n:Int) > 0)) (by rw[eTm,g10]) ?_ ?_
  · intro hpos;obtain ⟨n,rfl⟩:∃ k,n=k+1:=⟨n - 1,by simp at hpos;omega⟩;refine wp_skip (hK5 a5 w4 ?_);refine wp_seq_k fun K7 hK7=>?_;refine wp_block (wp_mono (show Code.wp P _ (Exit.then K7 (Exit.inBlock 1 (Exit.then K7 _))) a5 w4 from ?_) (fun _ _ _=>Z0a));refine wS fun K8 hK8=>?_;rw[wCo,wMw,eTm,k5.get 0 (by omega),p0,wCo];refine Ze (R:=fun x w'=>x = .int .u32 (rdUv s).1∧RW w' rb sb (rdUv s).2∧Fr [⟨rb,0,2⟩] w4 w') hu.enters (vs:=#[.pointer (some ⟨rb,0,none⟩)]) (by simp[eTm,gPs (a:=a5) (d:=13) (v:=.pointer (some ⟨rb,0,none⟩)) (by omega)])
      ((hu.call w4 rb sb s hr4).mono (by rintro e' w' ⟨x,rfl,h1,h2,h3⟩;exact ⟨_,rfl,h1.u32,h2,h3⟩)) ?_
    rintro _ w5 ⟨rfl,hr5,f5⟩;rw[wCo,wMw,eTm,gR,gR,k5.get 0 (by omega),p0,wCo];refine Ze (R:=fun x w'=>x = .int .u32 (rdUv (rdUv s).2).1∧RW w' rb sb (rdUv (rdUv s).2).2∧Fr [⟨rb,0,2⟩] w5 w') hu.enters (vs:=#[.pointer (some ⟨rb,0,none⟩)])
      (by simp only[List.map_toArray,List.map_cons,List.map_nil,eTm];rw[gQ])
      ((hu.call w5 rb sb _ hr5).mono (by rintro e' w' ⟨x,rfl,h1,h2,h3⟩;exact ⟨_,rfl,h1.u32,h2,h3⟩)) ?_
    rintro _ w6 ⟨rfl,hr6,f6⟩;have hk32:=Z1j s;have hs32:=Z1j (rdUv s).2;generalize hkk:(rdUv s).1=kk at *;generalize hss:(rdUv (rdUv s).2).1=sz at *;rw[wCo,wAg,eTm,gR,gR,gQ,wCo,wAg,eTm,gR,gQ,wNi];generalize ha6:(((((a5.put (some 13) (.pointer (some ⟨rb,0,none⟩))).put (some 14) (.int .u32 kk)).put (some 15) (.pointer (some ⟨rb,0,none⟩))).put (some 16) (.int .u32 sz)).put (some 5) (.int .u32 kk)).put (some 6) (.int .u32 sz)=a6;have k6:Kept 5 a4 a6:=by subst ha6;exact (k5.mono (by omega)).trans ((((((Kept.put0 (by omega) _).pt).pt).pt).pt).pt)
    have g5:get a6 5 = .int .u32 kk:=by subst ha6;rw[gR,gQ]
    have g6:get a6 6 = .int .u32 sz:=by subst ha6;exact gQ
    have hz6:=k6.size;refine hK8 a6 w6 ?_;refine Z2 ?_;rw[wCo,wMw,eTm,g5,wCo,wMw,eTm,gR,k6.get 0 (by omega),p0,wCo,wMw,eTm,gR,gR,g6,wCo];refine wCv (k1:=.u32) (i:=(sz:Int)) h59 h3 (by rw[eTm,gQ]) ?_;rw[Z0P (by omega),wCo];refine Ze hsp.enters (vs:=#[.pointer (some ⟨rb,0,none⟩),.int .i64 (sz:Int)])
      (by simp only[List.map_toArray,List.map_cons,List.map_nil,eTm];rw[gR,gR,gQ,gQ])
      (hsp.call w6 rb sb _ (sz:Int) hr6) ?_
    rintro sv w7 ⟨ho7,hr7,f7⟩;rw[wCo];have f47:Fr [⟨rb,0,2⟩] w4 w7:=(f5.tr f6).tr f7;have sz7:=f47.size;have hc7:=f47.cell hc4 (.cons (.inl (by simp only;omega)) .nil)
    have hv7:TagV w7 (·=sb) w.heap.size v x:=by
      rcases hv4 with h | ⟨r,kv,h1,h2,h3,h4⟩
      · exact .inl h
      exact .inr ⟨r,kv,h1,h2,h3.kept f47 (by intro z hz;simp at hz;subst hz;exact hr4.1) (by intro z hz;simp at hz;subst hz;simp only;omega) (fun _ h=>h),h4⟩
    refine Ze (R:=fun _ w'=>∃ r,w'.cell? ⟨w1.heap.size,0,none⟩=some (.map (some r))∧w.heap.size≤r∧TagM w' (·=sb) r (Z1U (Z04 x) kk (.oct (Z9 (sz:Int) (rdUv (rdUv s).2).2).1))∧Fr [⟨w1.heap.size,0,0+1⟩,⟨r,0,0⟩] w7 w') hset.enters (vs:=#[.pointer (some ⟨w1.heap.size,0,none⟩),.int .u32 (kk:Int),sv])
      (by
        simp only[List.map_toArray,List.map_cons,List.map_nil,eTm];rw[gR,gR,gR,gR,gR,k6.get 3 (by omega),p3',gR,gR,gR,gR,gQ,gQ])
      ((hset.call w7 (·=sb) w.heap.size w1.heap.size 0 v x kk sv _ hc7 (f47.there ht4) hv7 (by rintro b rfl;exact hsb) (by omega) hk32 ho7.v (by show ¬ _=_;omega)).mono (by rintro e' w' ⟨⟨z,rfl⟩,h⟩;exact ⟨_,rfl,h⟩)) ?_
    rintro xx w8 ⟨r8,hc8,hr8,hm8,f8⟩;rw[wNi];generalize ha7:((((((a6.put (some 17) (.int .u32 kk)).put (some 18) (.pointer (some ⟨rb,0,none⟩))).put (some 19) (.int .u32 sz)).put (some 20) (.int .i64 (sz:Int))).put (some 21) sv).put (some 22) xx)=a7;have k7:Kept 5 a4 a7:=by subst ha7;exact k6.trans ((((((Kept.put0 (by omega) _).pt).pt).pt).pt).pt)
    have hz7:=k7.size;have f48:Fr [⟨rb,0,2⟩] w w8:=by
      refine (f4.tr f47).trans f8 ?_;intro z hz;simp at hz
      rcases hz with rfl | rfl
      · exact .inl (by simp only;omega)
      exact .inl hr8
    refine hK7 a7 w8 ?_;refine Z2 ?_;rw[wCo,wMw,eTm,k7.get 4 (by omega),p4,wCo];refine Z1P (k1:=.u32) (i:=((n+1:Nat):Int)) (j:=1) (by rw[eTm,gQ]) rfl ?_;have hwr:IntKind.u32.wrap (((n+1:Nat):Int) - 1)=(n:Int):=by rw[IntKind.wrap_u32];omega
    rw[hwr,wCo,wAg,eTm,gQ,wNi];refine ⟨⟨n,Z2n x kk (.oct (Z9 (sz:Int) (rdUv (rdUv s).2).2).1),(Z9 (sz:Int) (rdUv (rdUv s).2).2).2,.map (some r8),by omega,by simp only[sPu];omega,by simp only[dPu];rw[k7.defers,hd4],?_,?_,?_,?_,?_,?_,hc8,.inr ⟨r8,_,rfl,hr8,hm8,rfl⟩,?_,?_,f48⟩,?_⟩
    · rw[gR,gR,gR,k7.get 0 (by omega),p0]
    · rw[gR,gR,gR,k7.get 2 (by omega),p2]
    · rw[gR,gR,gR,k7.get 3 (by omega),p3']
    · exact gQ
    · refine hr7.kept f8 ?_;intro z hz; simp at hz
      rcases hz with rfl | rfl
      · exact ⟨by simp only;omega,by simp only;omega⟩
      exact ⟨by simp only;omega,by simp only;omega⟩
    · rw[← hgo];simp only[Z2c,hkk,hss]
    · exact f8.there (f47.there ht4)
    · exact f8.there (f47.there htr4)
    rw[gQ];simp only[Z3i];omega
  intro hge;have hn0:n=0:=by simp at hge;omega
  subst hn0;refine wp_exit ?_;show K3 a5 w4
  refine hK3 a5 w4 (tUp ?_);refine wT fun K11 hK11=>?_;refine wC (Z7 hT (cs:=[v]) (b:=w1.heap.size) (o:=0) rfl (by rw[eTm,k5.get 3 (by omega),p3']) (ZE.2 hc4) ?_);rw[wCo];have hone:v.oneCell'=true:=by rcases hv4 with ⟨rfl,_⟩ | ⟨_,_,rfl,_⟩ <;> rfl
  refine Z1Y hT (cs:=[v]) (b:=w.heap.size) (o:=0) rfl (by rw[eTm,gR,k5.get 2 (by omega),p2]) (by rw[eTm,gQ]) (by intro z hz;simp at hz;subst hz;exact hone) htr4 ?_;rw[pNo,wNi];have f9:=Fr.sets w.heap.size [v] w4 0;have r9:=World.rangeAt_setCells_same (w:=w4) w.heap.size 0 [v] htr4;have sz9:=f9.size;refine hK11 _ _ (wp_ret ?_);have hfin:Z2o st=(x,s):=by rw[← hgo];rfl
  refine ⟨by simp only[dPu];rw[k5.defers,hd4],_,Z3s hres hT (cs:=[v]) rfl (by rw[gR,k5.get 2 (by omega),p2]) r9,v,rfl,?_,?_,?_⟩
  · rw [hfin]
    rcases hv4 with ⟨rfl,rfl⟩ | ⟨r,kv,rfl,h2,h3,rfl⟩
    · exact .inl ⟨rfl,rfl⟩
    have hne:w.heap.size ≠ r:=h3.notCell (Z6T htr4 (Nat.le_refl _) (by omega)).choose_spec;have h3':=h3.kept f9 (A':=Foot sb w.heap.size (w4.setCells w.heap.size 0 [.map (some r)]).heap.size) (by intro z hz;simp at hz;subst hz;simp only;omega) (by intro z hz;simp at hz;subst hz;exact hne) (fun b hb=>.inl hb);exact h3'.rep (.inr ⟨h2,h3'.lt⟩)
  · rw[hfin];exact hr4.kept f9 (by intro z hz;simp at hz;subst hz;exact ⟨by simp only;omega,by simp only;omega⟩)
  refine f4.trans f9 ?_;intro z hz;simp at hz;subst hz;exact .inl (Nat.le_refl _)
end Go.Kq

namespace Go.Kq
open Go Go.Proofs
def Z1k:Rd:=fun _ fl st=>if fl then some (Z2o st) else some (.nil,st)
theorem Z6x {P:Program} {ge:Nat} {cx:Cx} {m id id2 n n1 o:Nat} {f:FuncId} {S T k tf:Nat} {ats:Array TypeId} {t1 t2 t3 t4 t5 t6:TypeId} {p1 p2 p3 p4 p5 p6:String} {e1 e2 e3 e4 e5 e6:Array Edge}
    (hf:TagsM P f) (hT:Flat P T [.map none]) (hF:Zt P S k o=true) (htf:cx.tf=some tf)
    (hb:(decide (n < cx.N) && decide (m≤n) && decide (m≤n1) && decide (n1+3 < cx.N) && cx.below m)=true) :
    Fld P ge cx m (Code.seq (Code.region id ⟨[oM n tf t1 p1 e1]⟩ false) (.cond (.tmp n) (Code.region id2 ⟨[⟨some n1,.move (.tmp cx.ts),t2,p2,e2,none⟩,
      oC (n1+1) f #[.tmp cx.tb] ats t3 p3 e3,⟨some (n1+2),.nilCheck (.tmp n1),t4,p4,e4,none⟩,
      oF (n1+3) S (n1+2) k t5 p5 e5,oS T (n1+3) (n1+1) t6 p6 e6]⟩ false) .skip)) o .tags .nil Z1k:=by
  intro e pb po K Q a w st hs hm ht hz hk hq;simp only[Bool.and_eq_true,decide_eq_true_eq] at hb;obtain ⟨⟨⟨⟨b1,b2⟩,b3⟩,b4⟩,b5⟩:=hb;have hsz:=hs.size;obtain ⟨c1,c2,c3,c4,c5,c6,c7⟩:=Cx.below_spec b5;refine wS fun K1 hK1=>?_;rw[wCo,wMw,eTm,hs.f tf htf,wNi];have k1:Kept m a (a.put (some n) (.bool e.flex)):=Kept.put0 b2 _;have q1:get (a.put (some n) (.bool e.flex)) n = .bool e.flex:=gQ;generalize a.put (some n) (.bool e.flex)=a1 at k1 q1 ⊢;have hs1:=hs.kept b5 k1;have hz1:=hs1.size;refine hK1 a1 w ?_;refine wp_cond_split (t:=e.flex) (by rw[eTm,q1]) (fun hfl=>?_) fun hfl=>?_
  · refine Z2 ?_;rw[wCo,wMw,eTm,hs1.s,wCo];refine Ze (R:=fun x w'=>∃ v,x = .agg #[v]∧Rep w' (Foot e.sb w.heap.size w'.heap.size) .tags [v] (Z2o st).1∧RW w' e.rb e.sb (Z2o st).2∧Fr [⟨e.rb,0,2⟩] w w') hf.enters (vs:=#[.pointer (some ⟨e.rb,0,none⟩)])
      (by simp only[List.map_toArray,List.map_cons,List.map_nil,eTm];rw[gR,hs1.b])
      ((hf.call w e.rb e.sb st hm.rw hm.sl).mono (by rintro e' w' ⟨v,rfl,h⟩;exact ⟨_,rfl,v,rfl,h⟩)) ?_
    rintro x w1 ⟨v,rfl,hrep,hrw,f1⟩;refine wC (wNc (q:=⟨pb,po,none⟩) (by rw[eTm,gR,gQ]) ?_);refine wC (wFa (b:=pb) (i:=po) hF (by rw[eTm,gQ]) ?_);rw[wCo];have ht1:w1.there pb (po+o) [v].length:=f1.there ht;have hone:∀ u ∈ [v],u.oneCell'=true:=by
      intro u hu;simp at hu;subst hu
      rcases hrep with ⟨h,_⟩ | ⟨_,_,_,_,_,h,_⟩ <;> (simp at h;subst h;rfl)
    refine Z1Y hT (cs:=[v]) (b:=pb) (o:=po+o) rfl (by rw[eTm,gQ]) (by rw[eTm,gR,gR,gQ]) hone ht1 ?_;rw[pNo,wNi];have f2:=Fr.sets pb [v] w1 (po+o);have r2:=World.rangeAt_setCells_same (w:=w1) pb (po+o) [v] ht1;have sz2:=f2.size;have hpw:pb < w.heap.size:=Z0s ht (by simp[Ty.size]);have hne:∀ r ∈ [(⟨pb,po+o,po+o+[v].length⟩:Rng)],¬ Foot e.sb w.heap.size w1.heap.size r.b:=by
      intro r hr;simp at hr;subst hr;rintro (h | h)
      · exact hm.ps h
      simp only at h;omega
    refine hk _ _ (Z2o st).1 (Z2o st).2 (by simp[Z1k,hfl]) (k1.trans ((((Kept.put0 b3 _).pt).pt).pt)) (hrw.kept f2 (by intro r hr;simp at hr;subst hr;exact ⟨hm.pr,hm.ps⟩)) ?_ ⟨[v],r2,hrep.kept f2 hne (fun b h=>by rcases h with h | h;exact .inl h;exact .inr ⟨h.1,by omega⟩)⟩;refine (f1.mono (l':=[⟨e.rb,0,2⟩,⟨pb,po+o,po+o+Ty.tags.size⟩]) ?_).trans f2 ?_
    · intro r hr;simp at hr;subst hr;exact .inr ⟨_,by simp,rfl,by simp,by simp⟩
    intro r hr;simp at hr;subst hr;exact .inr ⟨⟨pb,po+o,po+o+Ty.tags.size⟩,by simp,rfl,by simp,by simp[Ty.size]⟩
  refine wp_skip ?_;obtain ⟨z,hz1',hz2⟩:=hz;exact hk a1 w .nil st (by simp[Z1k,hfl]) k1 hm.rw (Fr.refl _ _) ⟨z,hz1',hz2.kept (Fr.refl [] w) (by simp) (fun _ h=>h.elim)⟩
end Go.Kq

namespace Go.Kq
open Go
def Z1G (st:RSt):Int × RSt :=
  let (x,s):=rdUv st
  let z:=IntKind.i32.wrap (IntKind.i32.wrap (x:Int) - 1)
  if (s.xs.length:Int) < z then (0,.fail) else (z,s)
def Z3U (st:RSt):List UInt8 × RSt :=
  let (x,s):=rdUv st
  let (y,s):=Z9 ((x:Int) - 1) s
  (y.getD [],s)
def Z3a (st:RSt):V × RSt :=
  let (x,s):=rdUv st
  if (x:Int) - 1 < 0 then (.nil,s) else let (y,s):=Z9 ((x:Int) - 1) s;(.s (y.getD []),s)
def Z3R (st:RSt):V × RSt :=
  let (x,s):=Zo .i16 2 st
  if x < 0 then (.nil,s) else let (y,s):=Z9 x s;(.s (y.getD []),s)
def Z32 (st:RSt):V × RSt:=(.n (Z1G st).1,(Z1G st).2)
def Z4f (st:RSt):V × RSt:=(.s (Z3U st).1,(Z3U st).2)
def Z1x (st:RSt):V × RSt:=Z3a st
def Z3j (st:RSt):V × RSt:=Z3R st
end Go.Kq

namespace Go.Kq
open Go Go.Proofs
structure UStrM (P:Program) (f:FuncId):Prop where
  enters:Enters P f
  call:∀ w A v x,Octs w A v x→Calls P f #[v] w fun e w'=>e = .returned (.string (Z1i (x.getD [])))∧w'=w
theorem Rep.i16 {w:World} {A:Nat→Prop} {v:Value} {n:Int} (h:Rep w A (.int .i16) [v] (.n n)):v = .int .i16 n:=by
  obtain ⟨i,h1,h2,_⟩:=h;simp at h1 h2
  rw[h1,h2]
theorem Z37 {P:Program} {T9:TypeId} {a:Act} {w W:World} {K:Act→World→Prop} {Q:Exit→Act→World→Prop} {t:TypeId} {p:String} {af:Array Edge} {gd:Option (Nat × Bool)} {s:ByteArray} {z:ByteArray} {x y:Nat} (hW:W=w.alloc (.cells (Value.string z).cells T9)) (h9:scal P T9=true)
    (hx:get a x = .pointer (some ⟨w.heap.size,0,none⟩)) (hy:get a y = .string s)
    (k:∀ w3,Fr [] w w3→w3.cell? ⟨w.heap.size,0,none⟩=some (.string s)→w.heap.size < w3.heap.size→K a w3) :
    OW P ⟨none,.store T9 (.tmp x) (.tmp y),t,p,af,gd⟩ a W K Q:=by
  have fa:=Fr.alloc [] w (.cells (Value.string z).cells T9);have sa:=Zd w (.cells (Value.string z).cells T9);have ta:(w.alloc (.cells (Value.string z).cells T9)).there w.heap.size 0 1:=Zx w #[.string z] T9;rw[← hW] at fa sa ta;clear hW;refine Z0b h9 (b:=w.heap.size) (o:=0) (v:=.string s) (by rw[eTm,hx]) (by rw[eTm,hy]) rfl ta ?_;rw[pNo];have f2:=Fr.set W w.heap.size 0 (.string s);have c2:=ZW (v:=.string s) ta;have s2:=f2.size;exact k _ (fa.trans f2 (by intro r hr;simp at hr;subst hr;exact .inl (Nat.le_refl _))) c2 (by omega)
theorem Z4b (n:Int) : -2147483648≤IntKind.i32.wrap n∧IntKind.i32.wrap n≤2147483647:=by
  simp[IntKind.wrap,IntKind.bits,IntKind.signed]
  split <;> omega
set_option maxRecDepth 10000 in
theorem cstr_m {P:Program} {f:FuncId} {fn:Func}
    {T3 T9 T22 T61:TypeId}
    {f279 f287:FuncId}
    {x0:Value}
    {a1:Array TypeId}
    {a2:Array TypeId}
    {i0 i1 i2:Nat}
    {t0 t1 t2 t3 t4 t5 t6 t7 t8 t9 t10:TypeId} {p0 p1 p2 p3 p4 p5 p6 p7 p8 p9 p10:String} {e0 e1 e2 e3 e4 e5 e6 e7 e8 e9 e10:Array Edge}
    (hf:P.funcs[f]?=some fn) (hname:nG fn=false) (hres:fn.results = #[.tmp 2]) (hN:fn.ntmps=12)
    (hbody:fn.body=some (.seq (Code.region i0 ⟨[oA 2 (.const x0) t0 p0 e0]⟩ false) (.seq (Code.region i1 ⟨[oM 4 0 t1 p1 e1,
    oC 5 f287 #[(.tmp 4)] a1 t2 p2 e2,⟨some 6,.convert T61 T3 (.tmp 5),t3,p3,e3,none⟩,⟨some 7,.binOp .sub T3 (.tmp 6) (.const (.int .i64 1)) T3,t4,p4,e4,none⟩,
    oT 3 7 t5 p5 e5]⟩ false) (.seq (Code.region i2 ⟨[oM 8 0 t6 p6 e6,
    oM 9 3 t7 p7 e7,
    oC 10 f279 #[(.tmp 8),(.tmp 9)] a2 t8 p8 e8,⟨some 11,.convert T22 T9 (.tmp 10),t9,p9,e9,none⟩,
    oT 2 11 t10 p10 e10]⟩ false) .ret))))
    (h3:Zh P T3 .i64=true) (h61:Zh P T61 .u32=true) (hu:Z0r P f287 (.int .u32) gUv) (hsp:Z4g P f279) (h22:Z47 P T22=true) (h9:Z2N P T9=true):Z0r P f .str Z4f:=by
  refine ⟨enters_of hf hname hbody,?_⟩;intro w rb sb st h;generalize hg:Z4f st=g;refine calls_of_wp hf hbody ?_;generalize ha0:({ tmps:=#[Value.pointer (some ⟨rb,0,none⟩)]++Array.replicate (fn.ntmps - #[Value.pointer (some ⟨rb,0,none⟩)].size) undef,defers:=[] }:Act)=a0;have hsz:a0.tmps.size=12:=by subst ha0;simp[hN]
  have hd0:a0.defers=[]:=by subst ha0;rfl
  have g0:get a0 0 = .pointer (some ⟨rb,0,none⟩):=by subst ha0;exact gAr rfl
  refine tId (wp_seq_k fun K1 hK1=>?_);refine ZA (m:=2) (by omega) (by omega) fun a1 k1 _=>hK1 a1 w (tUp ?_);have hz1:=k1.size;have g1:get a1 0 = .pointer (some ⟨rb,0,none⟩):=by rw[k1.get 0 (by omega),g0]
  refine wT fun K2 hK2=>?_;rw[wCo,wMw,eTm,g1,wCo];refine Ze (R:=fun x w'=>x = .int .u32 ((rdUv st).1:Int)∧RW w' rb sb (rdUv st).2∧Fr [⟨rb,0,2⟩] w w') hu.enters (vs:=#[.pointer (some ⟨rb,0,none⟩)]) (by simp only[List.map_toArray,List.map_cons,List.map_nil,eTm];rw[gQ])
    ((hu.call w rb sb st h).mono (by rintro e' w' ⟨x,rfl,h1,h2,h3⟩;exact ⟨_,rfl,h1.u32,h2,h3⟩)) ?_
  rintro _ w1 ⟨rfl,hr1,f1⟩;have hlt:=Z1j st;have hg:g=(.s ((Z9 (((rdUv st).1:Int) - 1) (rdUv st).2).1.getD []),(Z9 (((rdUv st).1:Int) - 1) (rdUv st).2).2):=hg.symm.trans rfl;generalize (rdUv st).1=x at *;generalize (rdUv st).2=s at *;refine wC (wCv (k1:=.u32) (i:=(x:Int)) h61 h3 (by rw[eTm,gQ]) ?_);rw[Z0P (by omega),wCo];refine Z1P (k1:=.i64) (i:=(x:Int)) (j:=1) (by rw[eTm,gQ]) rfl ?_;rw[Z0P (by omega),wCo,wAg,eTm,gQ,wNi];generalize hzz:(x:Int) - 1=z at *;have hb : -9223372036854775808≤z∧z≤9223372036854775807:=by omega
  generalize ha2:((((a1.put (some 4) (.pointer (some ⟨rb,0,none⟩))).put (some 5) (.int .u32 (x:Int))).put (some 6) (.int .i64 (x:Int))).put (some 7) (.int .i64 z)).put (some 3) (.int .i64 z)=a2;have k2:Kept 2 a1 a2:=by subst ha2;exact ((((Kept.put0 (by omega) _).pt).pt).pt).pt
  have q3:get a2 3 = .int .i64 z:=by subst ha2;exact gQ
  have hz2:=k2.size;have g2:get a2 0 = .pointer (some ⟨rb,0,none⟩):=by rw[k2.get 0 (by omega),g1]
  have hd2:a2.defers=[]:=by rw[k2.defers,k1.defers,hd0]
  refine hK2 a2 w1 (tUp ?_);refine wT fun K6 hK6=>?_;rw[wCo,wMw,eTm,g2,wCo,wMw,eTm,gR,q3,wCo];refine Ze hsp.enters (vs:=#[.pointer (some ⟨rb,0,none⟩),.int .i64 z]) (by simp only[List.map_toArray,List.map_cons,List.map_nil,eTm];rw[gR,gQ,gQ]) (hsp.call w1 rb sb s z hr1) ?_;rintro sv w2 ⟨ho,hr2,f2⟩;have hlen:((Z9 z s).1.getD []).length≤4294967296:=Nat.le_trans (Z0L z s) hr1.big;generalize (Z9 z s).1=y at *;generalize (Z9 z s).2=s2 at *;subst hg;refine wC (Z2q h22 h9 (by rw[eTm,gQ]) ho ?_);rw[wCo,wAg,eTm,gQ,wNi];refine hK6 _ _ (wp_ret ?_);refine ⟨by simp only[dPu];exact hd2,_,Z6 hres,_,rfl,?_,hr2,f1.tr f2⟩;rw[gQ];exact ⟨_,rfl,by rw[ZH],by rw[ZH];exact hlen⟩
set_option maxRecDepth 10000 in
theorem ucstr_m {P:Program} {f:FuncId} {fn:Func}
    {T3 T61:TypeId}
    {f278 f279 f287:FuncId}
    {x0:Value}
    {a1:Array TypeId}
    {a2:Array TypeId}
    {a3:Array TypeId}
    {i0 i1 i2:Nat}
    {t0 t1 t2 t3 t4 t5 t6 t7 t8 t9 t10:TypeId} {p0 p1 p2 p3 p4 p5 p6 p7 p8 p9 p10:String} {e0 e1 e2 e3 e4 e5 e6 e7 e8 e9 e10:Array Edge}
    (hf:P.funcs[f]?=some fn) (hname:nG fn=false) (hres:fn.results = #[.tmp 2]) (hN:fn.ntmps=12)
    (hbody:fn.body=some (.seq (Code.region i0 ⟨[oA 2 (.const x0) t0 p0 e0]⟩ false) (.seq (Code.region i1 ⟨[oM 4 0 t1 p1 e1,
    oC 5 f287 #[(.tmp 4)] a1 t2 p2 e2,⟨some 6,.convert T61 T3 (.tmp 5),t3,p3,e3,none⟩,⟨some 7,.binOp .sub T3 (.tmp 6) (.const (.int .i64 1)) T3,t4,p4,e4,none⟩,
    oT 3 7 t5 p5 e5]⟩ false) (.seq (Code.region i2 ⟨[oM 8 0 t6 p6 e6,
    oM 9 3 t7 p7 e7,
    oC 10 f279 #[(.tmp 8),(.tmp 9)] a2 t8 p8 e8,
    oC 11 f278 #[(.tmp 10)] a3 t9 p9 e9,
    oT 2 11 t10 p10 e10]⟩ false) .ret))))
    (h3:Zh P T3 .i64=true) (h61:Zh P T61 .u32=true) (hu:Z0r P f287 (.int .u32) gUv) (hsp:Z4g P f279) (hus:UStrM P f278):Z0r P f .str Z4f:=by
  refine ⟨enters_of hf hname hbody,?_⟩;intro w rb sb st h;generalize hg:Z4f st=g;refine calls_of_wp hf hbody ?_;generalize ha0:({ tmps:=#[Value.pointer (some ⟨rb,0,none⟩)]++Array.replicate (fn.ntmps - #[Value.pointer (some ⟨rb,0,none⟩)].size) undef,defers:=[] }:Act)=a0;have hsz:a0.tmps.size=12:=by subst ha0;simp[hN]
  have hd0:a0.defers=[]:=by subst ha0;rfl
  have g0:get a0 0 = .pointer (some ⟨rb,0,none⟩):=by subst ha0;exact gAr rfl
  refine tId (wp_seq_k fun K1 hK1=>?_);refine ZA (m:=2) (by omega) (by omega) fun a1 k1 _=>hK1 a1 w (tUp ?_);have hz1:=k1.size;have g1:get a1 0 = .pointer (some ⟨rb,0,none⟩):=by rw[k1.get 0 (by omega),g0]
  refine wT fun K2 hK2=>?_;rw[wCo,wMw,eTm,g1,wCo];refine Ze (R:=fun x w'=>x = .int .u32 ((rdUv st).1:Int)∧RW w' rb sb (rdUv st).2∧Fr [⟨rb,0,2⟩] w w') hu.enters (vs:=#[.pointer (some ⟨rb,0,none⟩)]) (by simp only[List.map_toArray,List.map_cons,List.map_nil,eTm];rw[gQ])
    ((hu.call w rb sb st h).mono (by rintro e' w' ⟨x,rfl,h1,h2,h3⟩;exact ⟨_,rfl,h1.u32,h2,h3⟩)) ?_
  rintro _ w1 ⟨rfl,hr1,f1⟩;have hlt:=Z1j st;have hg:g=(.s ((Z9 (((rdUv st).1:Int) - 1) (rdUv st).2).1.getD []),(Z9 (((rdUv st).1:Int) - 1) (rdUv st).2).2):=hg.symm.trans rfl;generalize (rdUv st).1=x at *;generalize (rdUv st).2=s at *;refine wC (wCv (k1:=.u32) (i:=(x:Int)) h61 h3 (by rw[eTm,gQ]) ?_);rw[Z0P (by omega),wCo];refine Z1P (k1:=.i64) (i:=(x:Int)) (j:=1) (by rw[eTm,gQ]) rfl ?_;rw[Z0P (by omega),wCo,wAg,eTm,gQ,wNi];generalize hzz:(x:Int) - 1=z at *;have hb : -9223372036854775808≤z∧z≤9223372036854775807:=by omega
  generalize ha2:((((a1.put (some 4) (.pointer (some ⟨rb,0,none⟩))).put (some 5) (.int .u32 (x:Int))).put (some 6) (.int .i64 (x:Int))).put (some 7) (.int .i64 z)).put (some 3) (.int .i64 z)=a2;have k2:Kept 2 a1 a2:=by subst ha2;exact ((((Kept.put0 (by omega) _).pt).pt).pt).pt
  have q3:get a2 3 = .int .i64 z:=by subst ha2;exact gQ
  have hz2:=k2.size;have g2:get a2 0 = .pointer (some ⟨rb,0,none⟩):=by rw[k2.get 0 (by omega),g1]
  have hd2:a2.defers=[]:=by rw[k2.defers,k1.defers,hd0]
  refine hK2 a2 w1 (tUp ?_);refine wT fun K6 hK6=>?_;rw[wCo,wMw,eTm,g2,wCo,wMw,eTm,gR,q3,wCo];refine Ze hsp.enters (vs:=#[.pointer (some ⟨rb,0,none⟩),.int .i64 z]) (by simp only[List.map_toArray,List.map_cons,List.map_nil,eTm];rw[gR,gQ,gQ]) (hsp.call w1 rb sb s z hr1) ?_;rintro sv w2 ⟨ho,hr2,f2⟩;have hlen:((Z9 z s).1.getD []).length≤4294967296:=Nat.le_trans (Z0L z s) hr1.big;generalize (Z9 z s).1=y at *;generalize (Z9 z s).2=s2 at *;subst hg;refine wC (Ze (R:=fun v w'=>v = .string (Z1i (y.getD []))∧w'=w2) hus.enters (vs:=#[sv]) (by simp only[List.map_toArray,List.map_cons,List.map_nil,eTm];rw[gQ]) ((hus.call w2 _ sv y ho).mono (by rintro e' w' ⟨rfl,rfl⟩;exact ⟨_,rfl,rfl,rfl⟩)) ?_);rintro _ _ ⟨rfl,rfl⟩;rw[wCo,wAg,eTm,gQ,wNi];refine hK6 _ _ (wp_ret ?_);refine ⟨by simp only[dPu];exact hd2,_,Z6 hres,_,rfl,?_,hr2,f1.tr f2⟩;rw[gQ];exact ⟨_,rfl,by rw[ZH],by rw[ZH];exact hlen⟩
set_option maxRecDepth 10000 in
theorem cnstr_m {P:Program} {f:FuncId} {fn:Func}
    {T3 T9 T22 T61:TypeId}
    {f279 f287:FuncId}
    {a0:Array TypeId}
    {a1:Array TypeId}
    {i0 i1 i2 i3 i4 i5:Nat}
    {t0 t1 t2 t3 t4 t5 t6 t7 t8 t9 t10 t11 t12 t13 t14 t15:TypeId} {p0 p1 p2 p3 p4 p5 p6 p7 p8 p9 p10 p11 p12 p13 p14 p15:String} {e0 e1 e2 e3 e4 e5 e6 e7 e8 e9 e10 e11 e12 e13 e14 e15:Array Edge}
    (hf:P.funcs[f]?=some fn) (hname:nG fn=false) (hres:fn.results = #[.tmp 2]) (hN:fn.ntmps=15)
    (hbody:fn.body=some (.seq (Code.region i0 ⟨[oA 2 (.const (.pointer none)) t0 p0 e0]⟩ false) (.seq (Code.region i1 ⟨[oM 5 0 t1 p1 e1,
    oC 6 f287 #[(.tmp 5)] a0 t2 p2 e2,⟨some 7,.convert T61 T3 (.tmp 6),t3,p3,e3,none⟩,⟨some 8,.binOp .sub T3 (.tmp 7) (.const (.int .i64 1)) T3,t4,p4,e4,none⟩,
    oT 3 8 t5 p5 e5]⟩ false) (.seq (.seq (Code.region i2 ⟨[oM 9 3 t6 p6 e6,⟨some 10,.binOp .lss T3 (.tmp 9) (.const (.int .i64 0)) T3,t7,p7,e7,none⟩]⟩ false) (.cond (.tmp 10) (.seq (Code.region i3 ⟨[oA 2 (.const (.pointer none)) t8 p8 e8]⟩ false) .ret) .skip)) (.seq (Code.region i4 ⟨[oM 11 0 t9 p9 e9,
    oM 12 3 t10 p10 e10,
    oC 13 f279 #[(.tmp 11),(.tmp 12)] a1 t11 p11 e11,⟨some 14,.convert T22 T9 (.tmp 13),t12,p12,e12,none⟩,⟨some 4,.alloc T9,t13,p13,e13,none⟩,
    oS T9 4 14 t14 p14 e14]⟩ false) (.seq (Code.region i5 ⟨[oT 2 4 t15 p15 e15]⟩ false) .ret))))))
    (h3:Zh P T3 .i64=true) (h61:Zh P T61 .u32=true) (hu:Z0r P f287 (.int .u32) gUv) (hsp:Z4g P f279) (h22:Z47 P T22=true) (h9:Z2N P T9=true) (h9s:scal P T9=true) (hz9:Z1O P T9 (.string ⟨#[]⟩)):Z0r P f .pstr Z1x:=by
  refine ⟨enters_of hf hname hbody,?_⟩;intro w rb sb st h;generalize hg:Z1x st=g;refine calls_of_wp hf hbody ?_;generalize ha0:({ tmps:=#[Value.pointer (some ⟨rb,0,none⟩)]++Array.replicate (fn.ntmps - #[Value.pointer (some ⟨rb,0,none⟩)].size) undef,defers:=[] }:Act)=a0;have hsz:a0.tmps.size=15:=by subst ha0;simp[hN]
  have hd0:a0.defers=[]:=by subst ha0;rfl
  have g0:get a0 0 = .pointer (some ⟨rb,0,none⟩):=by subst ha0;exact gAr rfl
  refine tId (wp_seq_k fun K1 hK1=>?_);refine ZA (m:=2) (by omega) (by omega) fun a1 k1 _=>hK1 a1 w (tUp ?_);have hz1:=k1.size;have g1:get a1 0 = .pointer (some ⟨rb,0,none⟩):=by rw[k1.get 0 (by omega),g0]
  refine wT fun K2 hK2=>?_;rw[wCo,wMw,eTm,g1,wCo];refine Ze (R:=fun x w'=>x = .int .u32 ((rdUv st).1:Int)∧RW w' rb sb (rdUv st).2∧Fr [⟨rb,0,2⟩] w w') hu.enters (vs:=#[.pointer (some ⟨rb,0,none⟩)]) (by simp only[List.map_toArray,List.map_cons,List.map_nil,eTm];rw[gQ])
    ((hu.call w rb sb st h).mono (by rintro e' w' ⟨x,rfl,h1,h2,h3⟩;exact ⟨_,rfl,h1.u32,h2,h3⟩)) ?_
  rintro _ w1 ⟨rfl,hr1,f1⟩;have hlt:=Z1j st;have hg:g=(if ((rdUv st).1:Int) - 1 < 0 then (.nil,(rdUv st).2) else (.s ((Z9 (((rdUv st).1:Int) - 1) (rdUv st).2).1.getD []),(Z9 (((rdUv st).1:Int) - 1) (rdUv st).2).2)):=hg.symm.trans rfl;generalize (rdUv st).1=x at *;generalize (rdUv st).2=s at *;refine wC (wCv (k1:=.u32) (i:=(x:Int)) h61 h3 (by rw[eTm,gQ]) ?_);rw[Z0P (by omega),wCo];refine Z1P (k1:=.i64) (i:=(x:Int)) (j:=1) (by rw[eTm,gQ]) rfl ?_;rw[Z0P (by omega),wCo,wAg,eTm,gQ,wNi];generalize hzz:(x:Int) - 1=z at *;have hb : -9223372036854775808≤z∧z≤9223372036854775807:=by omega
  generalize ha2:((((a1.put (some 5) (.pointer (some ⟨rb,0,none⟩))).put (some 6) (.int .u32 (x:Int))).put (some 7) (.int .i64 (x:Int))).put (some 8) (.int .i64 z)).put (some 3) (.int .i64 z)=a2;have k2:Kept 2 a1 a2:=by subst ha2;exact ((((Kept.put0 (by omega) _).pt).pt).pt).pt
  have q3:get a2 3 = .int .i64 z:=by subst ha2;exact gQ
  have hz2:=k2.size;have g2:get a2 0 = .pointer (some ⟨rb,0,none⟩):=by rw[k2.get 0 (by omega),g1]
  have hd2:a2.defers=[]:=by rw[k2.defers,k1.defers,hd0]
  refine hK2 a2 w1 (tUp ?_);refine tId (wp_seq_k fun K3 hK3=>?_);refine wS fun K4 hK4=>?_;rw[wCo,wMw,eTm,q3,wCo];refine Z0g (k1:=.i64) (i:=z) (j:=0) (by rw[eTm,gQ]) rfl ?_;rw[wNi];have k3:Kept 4 a2 ((a2.put (some 9) (.int .i64 z)).put (some 10) (.bool (decide (z < 0)))):=(Kept.put0 (by omega) _).pt;have qc:get ((a2.put (some 9) (.int .i64 z)).put (some 10) (.bool (decide (z < 0)))) 10 = .bool (decide (z < 0)):=gQ;generalize (a2.put (some 9) (.int .i64 z)).put (some 10) (.bool (decide (z < 0)))=a3 at k3 qc ⊢;have hz3:=k3.size;have g3:get a3 0 = .pointer (some ⟨rb,0,none⟩):=by rw[k3.get 0 (by omega),g2]
  have r3:get a3 3 = .int .i64 z:=by rw[k3.get 3 (by omega),q3]
  have hd3:a3.defers=[]:=by rw[k3.defers,hd2]
  refine hK4 a3 w1 ?_;refine wp_cond_split (t:=decide (z < 0)) (by rw[eTm,qc]) (fun hz=>?_) fun hz=>wp_skip (hK3 a3 w1 (tUp ?_))
  · have hz : z < 0 := by simpa using hz
    rw[if_pos hz] at hg;subst hg;refine wp_seq_k fun K5 hK5=>?_;refine ZA (m:=2) (by omega) (by omega) fun a4 k4 q4=>hK5 a4 w1 ?_;exact wp_ret ⟨by rw[k4.defers,hd3],_,Z6 hres,_,rfl,by rw[q4];exact .inl ⟨rfl,rfl⟩,hr1,f1⟩
  have hz:¬ z < 0:=by simpa using hz
  rw[if_neg hz] at hg;refine wT fun K6 hK6=>?_;rw[wCo,wMw,eTm,g3,wCo,wMw,eTm,gR,r3,wCo];refine Ze hsp.enters (vs:=#[.pointer (some ⟨rb,0,none⟩),.int .i64 z]) (by simp only[List.map_toArray,List.map_cons,List.map_nil,eTm];rw[gR,gQ,gQ]) (hsp.call w1 rb sb s z hr1) ?_;rintro sv w2 ⟨ho,hr2,f2⟩;have hlen:((Z9 z s).1.getD []).length≤4294967296:=Nat.le_trans (Z0L z s) hr1.big;generalize (Z9 z s).1=y at *;generalize (Z9 z s).2=s2 at *;subst hg;refine wC (Z2q h22 h9 (by rw[eTm,gQ]) ho ?_);refine wC (Z0d hz9 ?_);rw[wCo];refine Z37 (s:=Z1i (y.getD [])) rfl h9s (gQ) (by rw[gR,gQ]) ?_;intro w3 f3 hc3 hw3;rw[wNi];refine hK6 _ _ (tUp ?_);refine wT fun K7 hK7=>?_;rw[wCo,wAg,eTm,gQ,wNi];refine hK7 _ _ (wp_ret ?_);have sz2:=(f1.tr f2).size;refine ⟨by simp only[dPu];exact hd3,_,Z6 hres,_,rfl,?_,hr2.kept f3 (by simp),(f1.tr f2).tr f3.nil⟩;rw[gQ];exact .inr ⟨_,0,Z1i (y.getD []),.inr ⟨by omega,hw3⟩,rfl,hc3,by rw[ZH],by rw[ZH];exact hlen⟩
set_option maxRecDepth 10000 in
theorem ucnstr_m {P:Program} {f:FuncId} {fn:Func}
    {T3 T9 T61:TypeId}
    {f278 f279 f287:FuncId}
    {a0:Array TypeId}
    {a1:Array TypeId}
    {a2:Array TypeId}
    {i0 i1 i2 i3 i4 i5:Nat}
    {t0 t1 t2 t3 t4 t5 t6 t7 t8 t9 t10 t11 t12 t13 t14 t15:TypeId} {p0 p1 p2 p3 p4 p5 p6 p7 p8 p9 p10 p11 p12 p13 p14 p15:String} {e0 e1 e2 e3 e4 e5 e6 e7 e8 e9 e10 e11 e12 e13 e14 e15:Array Edge}
    (hf:P.funcs[f]?=some fn) (hname:nG fn=false) (hres:fn.results = #[.tmp 2]) (hN:fn.ntmps=15)
    (hbody:fn.body=some (.seq (Code.region i0 ⟨[oA 2 (.const (.pointer none)) t0 p0 e0]⟩ false) (.seq (Code.region i1 ⟨[oM 5 0 t1 p1 e1,
    oC 6 f287 #[(.tmp 5)] a0 t2 p2 e2,⟨some 7,.convert T61 T3 (.tmp 6),t3,p3,e3,none⟩,⟨some 8,.binOp .sub T3 (.tmp 7) (.const (.int .i64 1)) T3,t4,p4,e4,none⟩,
    oT 3 8 t5 p5 e5]⟩ false) (.seq (.seq (Code.region i2 ⟨[oM 9 3 t6 p6 e6,⟨some 10,.binOp .lss T3 (.tmp 9) (.const (.int .i64 0)) T3,t7,p7,e7,none⟩]⟩ false) (.cond (.tmp 10) (.seq (Code.region i3 ⟨[oA 2 (.const (.pointer none)) t8 p8 e8]⟩ false) .ret) .skip)) (.seq (Code.region i4 ⟨[oM 11 0 t9 p9 e9,
    oM 12 3 t10 p10 e10,
    oC 13 f279 #[(.tmp 11),(.tmp 12)] a1 t11 p11 e11,
    oC 14 f278 #[(.tmp 13)] a2 t12 p12 e12,⟨some 4,.alloc T9,t13,p13,e13,none⟩,
    oS T9 4 14 t14 p14 e14]⟩ false) (.seq (Code.region i5 ⟨[oT 2 4 t15 p15 e15]⟩ false) .ret))))))
    (h3:Zh P T3 .i64=true) (h61:Zh P T61 .u32=true) (hu:Z0r P f287 (.int .u32) gUv) (hsp:Z4g P f279) (hus:UStrM P f278) (h9s:scal P T9=true) (hz9:Z1O P T9 (.string ⟨#[]⟩)):Z0r P f .pstr Z1x:=by
  refine ⟨enters_of hf hname hbody,?_⟩;intro w rb sb st h;generalize hg:Z1x st=g;refine calls_of_wp hf hbody ?_;generalize ha0:({ tmps:=#[Value.pointer (some ⟨rb,0,none⟩)]++Array.replicate (fn.ntmps - #[Value.pointer (some ⟨rb,0,none⟩)].size) undef,defers:=[] }:Act)=a0;have hsz:a0.tmps.size=15:=by subst ha0;simp[hN]
  have hd0:a0.defers=[]:=by subst ha0;rfl
  have g0:get a0 0 = .pointer (some ⟨rb,0,none⟩):=by subst ha0;exact gAr rfl
  refine tId (wp_seq_k fun K1 hK1=>?_);refine ZA (m:=2) (by omega) (by omega) fun a1 k1 _=>hK1 a1 w (tUp ?_);have hz1:=k1.size;have g1:get a1 0 = .pointer (some ⟨rb,0,none⟩):=by rw[k1.get 0 (by omega),g0]
  refine wT fun K2 hK2=>?_;rw[wCo,wMw,eTm,g1,wCo];refine Ze (R:=fun x w'=>x = .int .u32 ((rdUv st).1:Int)∧RW w' rb sb (rdUv st).2∧Fr [⟨rb,0,2⟩] w w') hu.enters (vs:=#[.pointer (some ⟨rb,0,none⟩)]) (by simp only[List.map_toArray,List.map_cons,List.map_nil,eTm];rw[gQ])
    ((hu.call w rb sb st h).mono (by rintro e' w' ⟨x,rfl,h1,h2,h3⟩;exact ⟨_,rfl,h1.u32,h2,h3⟩)) ?_
  rintro _ w1 ⟨rfl,hr1,f1⟩;have hlt:=Z1j st;have hg:g=(if ((rdUv st).1:Int) - 1 < 0 then (.nil,(rdUv st).2) else (.s ((Z9 (((rdUv st).1:Int) - 1) (rdUv st).2).1.getD []),(Z9 (((rdUv st).1:Int) - 1) (rdUv st).2).2)):=hg.symm.trans rfl;generalize (rdUv st).1=x at *;generalize (rdUv st).2=s at *;refine wC (wCv (k1:=.u32) (i:=(x:Int)) h61 h3 (by rw[eTm,gQ]) ?_);rw[Z0P (by omega),wCo];refine Z1P (k1:=.i64) (i:=(x:Int)) (j:=1) (by rw[eTm,gQ]) rfl ?_;rw[Z0P (by omega),wCo,wAg,eTm,gQ,wNi];generalize hzz:(x:Int) - 1=z at *;have hb : -9223372036854775808≤z∧z≤9223372036854775807:=by omega
  generalize ha2:((((a1.put (some 5) (.pointer (some ⟨rb,0,none⟩))).put (some 6) (.int .u32 (x:Int))).put (some 7) (.int .i64 (x:Int))).put (some 8) (.int .i64 z)).put (some 3) (.int .i64 z)=a2;have k2:Kept 2 a1 a2:=by subst ha2;exact ((((Kept.put0 (by omega) _).pt).pt).pt).pt
  have q3:get a2 3 = .int .i64 z:=by subst ha2;exact gQ
  have hz2:=k2.size;have g2:get a2 0 = .pointer (some ⟨rb,0,none⟩):=by rw[k2.get 0 (by omega),g1]
  have hd2:a2.defers=[]:=by rw[k2.defers,k1.defers,hd0]
  refine hK2 a2 w1 (tUp ?_);refine tId (wp_seq_k fun K3 hK3=>?_);refine wS fun K4 hK4=>?_;rw[wCo,wMw,eTm,q3,wCo];refine Z0g (k1:=.i64) (i:=z) (j:=0) (by rw[eTm,gQ]) rfl ?_;rw[wNi];have k3:Kept 4 a2 ((a2.put (some 9) (.int .i64 z)).put (some 10) (.bool (decide (z < 0)))):=(Kept.put0 (by omega) _).pt;have qc:get ((a2.put (some 9) (.int .i64 z)).put (some 10) (.bool (decide (z < 0)))) 10 = .bool (decide (z < 0)):=gQ;generalize (a2.put (some 9) (.int .i64 z)).put (some 10) (.bool (decide (z < 0)))=a3 at k3 qc ⊢;have hz3:=k3.size;have g3:get a3 0 = .pointer (some ⟨rb,0,none⟩):=by rw[k3.get 0 (by omega),g2]
  have r3:get a3 3 = .int .i64 z:=by rw[k3.get 3 (by omega),q3]
  have hd3:a3.defers=[]:=by rw[k3.defers,hd2]
  refine hK4 a3 w1 ?_;refine wp_cond_split (t:=decide (z < 0)) (by rw[eTm,qc]) (fun hz=>?_) fun hz=>wp_skip (hK3 a3 w1 (tUp ?_))
  · have hz : z < 0 := by simpa using hz
    rw[if_pos hz] at hg;subst hg;refine wp_seq_k fun K5 hK5=>?_;refine ZA (m:=2) (by omega) (by omega) fun a4 k4 q4=>hK5 a4 w1 ?_;exact wp_ret ⟨by rw[k4.defers,hd3],_,Z6 hres,_,rfl,by rw[q4];exact .inl ⟨rfl,rfl⟩,hr1,f1⟩
  have hz:¬ z < 0:=by simpa using hz
  rw[if_neg hz] at hg;refine wT fun K6 hK6=>?_;rw[wCo,wMw,eTm,g3,wCo,wMw,eTm,gR,r3,wCo];refine Ze hsp.enters (vs:=#[.pointer (some ⟨rb,0,none⟩),.int .i64 z]) (by simp only[List.map_toArray,List.map_cons,List.map_nil,eTm];rw[gR,gQ,gQ]) (hsp.call w1 rb sb s z hr1) ?_;rintro sv w2 ⟨ho,hr2,f2⟩;have hlen:((Z9 z s).1.getD []).length≤4294967296:=Nat.le_trans (Z0L z s) hr1.big;generalize (Z9 z s).1=y at *;generalize (Z9 z s).2=s2 at *;subst hg;refine wC (Ze (R:=fun v w'=>v = .string (Z1i (y.getD []))∧w'=w2) hus.enters (vs:=#[sv]) (by simp only[List.map_toArray,List.map_cons,List.map_nil,eTm];rw[gQ]) ((hus.call w2 _ sv y ho).mono (by rintro e' w' ⟨rfl,rfl⟩;exact ⟨_,rfl,rfl,rfl⟩)) ?_);rintro _ _ ⟨rfl,rfl⟩;refine wC (Z0d hz9 ?_);rw[wCo];refine Z37 (s:=Z1i (y.getD [])) rfl h9s (gQ) (by rw[gR,gQ]) ?_;intro w3 f3 hc3 hw3;rw[wNi];refine hK6 _ _ (tUp ?_);refine wT fun K7 hK7=>?_;rw[wCo,wAg,eTm,gQ,wNi];refine hK7 _ _ (wp_ret ?_);have sz2:=(f1.tr f2).size;refine ⟨by simp only[dPu];exact hd3,_,Z6 hres,_,rfl,?_,hr2.kept f3 (by simp),(f1.tr f2).tr f3.nil⟩;rw[gQ];exact .inr ⟨_,0,Z1i (y.getD []),.inr ⟨by omega,hw3⟩,rfl,hc3,by rw[ZH],by rw[ZH];exact hlen⟩
set_option maxRecDepth 10000 in
theorem nstr_m {P:Program} {f:FuncId} {fn:Func}
    {T3 T9 T22 T45:TypeId}
    {f209 f279:FuncId}
    {a0:Array TypeId}
    {a1:Array TypeId}
    {i0 i1 i2 i3 i4 i5:Nat}
    {t0 t1 t2 t3 t4 t5 t6 t7 t8 t9 t10 t11 t12 t13 t14:TypeId} {p0 p1 p2 p3 p4 p5 p6 p7 p8 p9 p10 p11 p12 p13 p14:String} {e0 e1 e2 e3 e4 e5 e6 e7 e8 e9 e10 e11 e12 e13 e14:Array Edge}
    (hf:P.funcs[f]?=some fn) (hname:nG fn=false) (hres:fn.results = #[.tmp 2]) (hN:fn.ntmps=14)
    (hbody:fn.body=some (.seq (Code.region i0 ⟨[oA 2 (.const (.pointer none)) t0 p0 e0]⟩ false) (.seq (Code.region i1 ⟨[oM 5 0 t1 p1 e1,
    oC 6 f209 #[(.tmp 5)] a0 t2 p2 e2,
    oT 3 6 t3 p3 e3]⟩ false) (.seq (.seq (Code.region i2 ⟨[oM 7 3 t4 p4 e4,⟨some 8,.binOp .lss T45 (.tmp 7) (.const (.int .i16 0)) T45,t5,p5,e5,none⟩]⟩ false) (.cond (.tmp 8) (.seq (Code.region i3 ⟨[oA 2 (.const (.pointer none)) t6 p6 e6]⟩ false) .ret) .skip)) (.seq (Code.region i4 ⟨[oM 9 0 t7 p7 e7,
    oM 10 3 t8 p8 e8,⟨some 11,.convert T45 T3 (.tmp 10),t9,p9,e9,none⟩,
    oC 12 f279 #[(.tmp 9),(.tmp 11)] a1 t10 p10 e10,⟨some 13,.convert T22 T9 (.tmp 12),t11,p11,e11,none⟩,⟨some 4,.alloc T9,t12,p12,e12,none⟩,
    oS T9 4 13 t13 p13 e13]⟩ false) (.seq (Code.region i5 ⟨[oT 2 4 t14 p14 e14]⟩ false) .ret))))))
    (h3:Zh P T3 .i64=true) (h45:Zh P T45 .i16=true) (hu:Z0r P f209 (.int .i16) (gNum .i16 2)) (hsp:Z4g P f279) (h22:Z47 P T22=true) (h9:Z2N P T9=true) (h9s:scal P T9=true) (hz9:Z1O P T9 (.string ⟨#[]⟩)):Z0r P f .pstr Z3j:=by
  refine ⟨enters_of hf hname hbody,?_⟩;intro w rb sb st h;generalize hg:Z3j st=g;refine calls_of_wp hf hbody ?_;generalize ha0:({ tmps:=#[Value.pointer (some ⟨rb,0,none⟩)]++Array.replicate (fn.ntmps - #[Value.pointer (some ⟨rb,0,none⟩)].size) undef,defers:=[] }:Act)=a0;have hsz:a0.tmps.size=14:=by subst ha0;simp[hN]
  have hd0:a0.defers=[]:=by subst ha0;rfl
  have g0:get a0 0 = .pointer (some ⟨rb,0,none⟩):=by subst ha0;exact gAr rfl
  refine tId (wp_seq_k fun K1 hK1=>?_);refine ZA (m:=2) (by omega) (by omega) fun a1 k1 _=>hK1 a1 w (tUp ?_);have hz1:=k1.size;have g1:get a1 0 = .pointer (some ⟨rb,0,none⟩):=by rw[k1.get 0 (by omega),g0]
  refine wT fun K2 hK2=>?_;rw[wCo,wMw,eTm,g1,wCo];refine Ze (R:=fun x w'=>x = .int .i16 (Zo .i16 2 st).1∧RW w' rb sb (Zo .i16 2 st).2∧Fr [⟨rb,0,2⟩] w w') hu.enters (vs:=#[.pointer (some ⟨rb,0,none⟩)]) (by simp only[List.map_toArray,List.map_cons,List.map_nil,eTm];rw[gQ])
    ((hu.call w rb sb st h).mono (by rintro e' w' ⟨x,rfl,h1,h2,h3⟩;exact ⟨_,rfl,h1.i16,h2,h3⟩)) ?_
  rintro _ w1 ⟨rfl,hr1,f1⟩;have hb:=Z2S st;have hg:g=(if (Zo .i16 2 st).1 < 0 then (.nil,(Zo .i16 2 st).2) else (.s ((Z9 (Zo .i16 2 st).1 (Zo .i16 2 st).2).1.getD []),(Z9 (Zo .i16 2 st).1 (Zo .i16 2 st).2).2)):=hg.symm.trans rfl;generalize (Zo .i16 2 st).1=z at *;generalize (Zo .i16 2 st).2=s at *;rw[wCo,wAg,eTm,gQ,wNi];generalize ha2:((a1.put (some 5) (.pointer (some ⟨rb,0,none⟩))).put (some 6) (.int .i16 z)).put (some 3) (.int .i16 z)=a2;have k2:Kept 2 a1 a2:=by subst ha2;exact ((Kept.put0 (by omega) _).pt).pt
  have q3:get a2 3 = .int .i16 z:=by subst ha2;exact gQ
  have hz2:=k2.size;have g2:get a2 0 = .pointer (some ⟨rb,0,none⟩):=by rw[k2.get 0 (by omega),g1]
  have hd2:a2.defers=[]:=by rw[k2.defers,k1.defers,hd0]
  refine hK2 a2 w1 (tUp ?_);refine tId (wp_seq_k fun K3 hK3=>?_);refine wS fun K4 hK4=>?_;rw[wCo,wMw,eTm,q3,wCo];refine Z0g (k1:=.i16) (i:=z) (j:=0) (by rw[eTm,gQ]) rfl ?_;rw[wNi];have k3:Kept 4 a2 ((a2.put (some 7) (.int .i16 z)).put (some 8) (.bool (decide (z < 0)))):=(Kept.put0 (by omega) _).pt;have qc:get ((a2.put (some 7) (.int .i16 z)).put (some 8) (.bool (decide (z < 0)))) 8 = .bool (decide (z < 0)):=gQ;generalize (a2.put (some 7) (.int .i16 z)).put (some 8) (.bool (decide (z < 0)))=a3 at k3 qc ⊢;have hz3:=k3.size;have g3:get a3 0 = .pointer (some ⟨rb,0,none⟩):=by rw[k3.get 0 (by omega),g2]
  have r3:get a3 3 = .int .i16 z:=by rw[k3.get 3 (by omega),q3]
  have hd3:a3.defers=[]:=by rw[k3.defers,hd2]
  refine hK4 a3 w1 ?_;refine wp_cond_split (t:=decide (z < 0)) (by rw[eTm,qc]) (fun hz=>?_) fun hz=>wp_skip (hK3 a3 w1 (tUp ?_))
  · have hz : z < 0 := by simpa using hz
    rw[if_pos hz] at hg;subst hg;refine wp_seq_k fun K5 hK5=>?_;refine ZA (m:=2) (by omega) (by omega) fun a4 k4 q4=>hK5 a4 w1 ?_;exact wp_ret ⟨by rw[k4.defers,hd3],_,Z6 hres,_,rfl,by rw[q4];exact .inl ⟨rfl,rfl⟩,hr1,f1⟩
  have hz:¬ z < 0:=by simpa using hz
  rw[if_neg hz] at hg;refine wT fun K6 hK6=>?_;rw[wCo,wMw,eTm,g3,wCo,wMw,eTm,gR,r3,wCo];refine wCv (k1:=.i16) (i:=z) h45 h3 (by rw[eTm,gQ]) ?_;rw[Z0P (by omega),wCo];refine Ze hsp.enters (vs:=#[.pointer (some ⟨rb,0,none⟩),.int .i64 z]) (by simp only[List.map_toArray,List.map_cons,List.map_nil,eTm];rw[gR,gR,gQ,gQ]) (hsp.call w1 rb sb s z hr1) ?_;rintro sv w2 ⟨ho,hr2,f2⟩;have hlen:((Z9 z s).1.getD []).length≤4294967296:=Nat.le_trans (Z0L z s) hr1.big;generalize (Z9 z s).1=y at *;generalize (Z9 z s).2=s2 at *;subst hg;refine wC (Z2q h22 h9 (by rw[eTm,gQ]) ho ?_);refine wC (Z0d hz9 ?_);rw[wCo];refine Z37 (s:=Z1i (y.getD [])) rfl h9s (gQ) (by rw[gR,gQ]) ?_;intro w3 f3 hc3 hw3;rw[wNi];refine hK6 _ _ (tUp ?_);refine wT fun K7 hK7=>?_;rw[wCo,wAg,eTm,gQ,wNi];refine hK7 _ _ (wp_ret ?_);have sz2:=(f1.tr f2).size;refine ⟨by simp only[dPu];exact hd3,_,Z6 hres,_,rfl,?_,hr2.kept f3 (by simp),(f1.tr f2).tr f3.nil⟩;rw[gQ];exact .inr ⟨_,0,Z1i (y.getD []),.inr ⟨by omega,hw3⟩,rfl,hc3,by rw[ZH],by rw[ZH];exact hlen⟩
set_option maxRecDepth 10000 in
theorem unstr_m {P:Program} {f:FuncId} {fn:Func}
    {T3 T9 T45:TypeId}
    {f209 f278 f279:FuncId}
    {a0:Array TypeId}
    {a1:Array TypeId}
    {a2:Array TypeId}
    {i0 i1 i2 i3 i4 i5:Nat}
    {t0 t1 t2 t3 t4 t5 t6 t7 t8 t9 t10 t11 t12 t13 t14:TypeId} {p0 p1 p2 p3 p4 p5 p6 p7 p8 p9 p10 p11 p12 p13 p14:String} {e0 e1 e2 e3 e4 e5 e6 e7 e8 e9 e10 e11 e12 e13 e14:Array Edge}
    (hf:P.funcs[f]?=some fn) (hname:nG fn=false) (hres:fn.results = #[.tmp 2]) (hN:fn.ntmps=14)
    (hbody:fn.body=some (.seq (Code.region i0 ⟨[oA 2 (.const (.pointer none)) t0 p0 e0]⟩ false) (.seq (Code.region i1 ⟨[oM 5 0 t1 p1 e1,
    oC 6 f209 #[(.tmp 5)] a0 t2 p2 e2,
    oT 3 6 t3 p3 e3]⟩ false) (.seq (.seq (Code.region i2 ⟨[oM 7 3 t4 p4 e4,⟨some 8,.binOp .lss T45 (.tmp 7) (.const (.int .i16 0)) T45,t5,p5,e5,none⟩]⟩ false) (.cond (.tmp 8) (.seq (Code.region i3 ⟨[oA 2 (.const (.pointer none)) t6 p6 e6]⟩ false) .ret) .skip)) (.seq (Code.region i4 ⟨[oM 9 0 t7 p7 e7,
    oM 10 3 t8 p8 e8,⟨some 11,.convert T45 T3 (.tmp 10),t9,p9,e9,none⟩,
    oC 12 f279 #[(.tmp 9),(.tmp 11)] a1 t10 p10 e10,
    oC 13 f278 #[(.tmp 12)] a2 t11 p11 e11,⟨some 4,.alloc T9,t12,p12,e12,none⟩,
    oS T9 4 13 t13 p13 e13]⟩ false) (.seq (Code.region i5 ⟨[oT 2 4 t14 p14 e14]⟩ false) .ret))))))
    (h3:Zh P T3 .i64=true) (h45:Zh P T45 .i16=true) (hu:Z0r P f209 (.int .i16) (gNum .i16 2)) (hsp:Z4g P f279) (hus:UStrM P f278) (h9s:scal P T9=true) (hz9:Z1O P T9 (.string ⟨#[]⟩)):Z0r P f .pstr Z3j:=by
  refine ⟨enters_of hf hname hbody,?_⟩;intro w rb sb st h;generalize hg:Z3j st=g;refine calls_of_wp hf hbody ?_;generalize ha0:({ tmps:=#[Value.pointer (some ⟨rb,0,none⟩)]++Array.replicate (fn.ntmps - #[Value.pointer (some ⟨rb,0,none⟩)].size) undef,defers:=[] }:Act)=a0;have hsz:a0.tmps.size=14:=by subst ha0;simp[hN]
  have hd0:a0.defers=[]:=by subst ha0;rfl
  have g0:get a0 0 = .pointer (some ⟨rb,0,none⟩):=by subst ha0;exact gAr rfl
  refine tId (wp_seq_k fun K1 hK1=>?_);refine ZA (m:=2) (by omega) (by omega) fun a1 k1 _=>hK1 a1 w (tUp ?_);have hz1:=k1.size;have g1:get a1 0 = .pointer (some ⟨rb,0,none⟩):=by rw[k1.get 0 (by omega),g0]
  refine wT fun K2 hK2=>?_;rw[wCo,wMw,eTm,g1,wCo];refine Ze (R:=fun x w'=>x = .int .i16 (Zo .i16 2 st).1∧RW w' rb sb (Zo .i16 2 st).2∧Fr [⟨rb,0,2⟩] w w') hu.enters (vs:=#[.pointer (some ⟨rb,0,none⟩)]) (by simp only[List.map_toArray,List.map_cons,List.map_nil,eTm];rw[gQ])
    ((hu.call w rb sb st h).mono (by rintro e' w' ⟨x,rfl,h1,h2,h3⟩;exact ⟨_,rfl,h1.i16,h2,h3⟩)) ?_
  rintro _ w1 ⟨rfl,hr1,f1⟩;have hb:=Z2S st;have hg:g=(if (Zo .i16 2 st).1 < 0 then (.nil,(Zo .i16 2 st).2) else (.s ((Z9 (Zo .i16 2 st).1 (Zo .i16 2 st).2).1.getD []),(Z9 (Zo .i16 2 st).1 (Zo .i16 2 st).2).2)):=hg.symm.trans rfl;generalize (Zo .i16 2 st).1=z at *;generalize (Zo .i16 2 st).2=s at *;rw[wCo,wAg,eTm,gQ,wNi];generalize ha2:((a1.put (some 5) (.pointer (some ⟨rb,0,none⟩))).put (some 6) (.int .i16 z)).put (some 3) (.int .i16 z)=a2;have k2:Kept 2 a1 a2:=by subst ha2;exact ((Kept.put0 (by omega) _).pt).pt
  have q3:get a2 3 = .int .i16 z:=by subst ha2;exact gQ
  have hz2:=k2.size;have g2:get a2 0 = .pointer (some ⟨rb,0,none⟩):=by rw[k2.get 0 (by omega),g1]
  have hd2:a2.defers=[]:=by rw[k2.defers,k1.defers,hd0]
  refine hK2 a2 w1 (tUp ?_);refine tId (wp_seq_k fun K3 hK3=>?_);refine wS fun K4 hK4=>?_;rw[wCo,wMw,eTm,q3,wCo];refine Z0g (k1:=.i16) (i:=z) (j:=0) (by rw[eTm,gQ]) rfl ?_;rw[wNi];have k3:Kept 4 a2 ((a2.put (some 7) (.int .i16 z)).put (some 8) (.bool (decide (z < 0)))):=(Kept.put0 (by omega) _).pt;have qc:get ((a2.put (some 7) (.int .i16 z)).put (some 8) (.bool (decide (z < 0)))) 8 = .bool (decide (z < 0)):=gQ;generalize (a2.put (some 7) (.int .i16 z)).put (some 8) (.bool (decide (z < 0)))=a3 at k3 qc ⊢;have hz3:=k3.size;have g3:get a3 0 = .pointer (some ⟨rb,0,none⟩):=by rw[k3.get 0 (by omega),g2]
  have r3:get a3 3 = .int .i16 z:=by rw[k3.get 3 (by omega),q3]
  have hd3:a3.defers=[]:=by rw[k3.defers,hd2]
  refine hK4 a3 w1 ?_;refine wp_cond_split (t:=decide (z < 0)) (by rw[eTm,qc]) (fun hz=>?_) fun hz=>wp_skip (hK3 a3 w1 (tUp ?_))
  · have hz : z < 0 := by simpa using hz
    rw[if_pos hz] at hg;subst hg;refine wp_seq_k fun K5 hK5=>?_;refine ZA (m:=2) (by omega) (by omega) fun a4 k4 q4=>hK5 a4 w1 ?_;exact wp_ret ⟨by rw[k4.defers,hd3],_,Z6 hres,_,rfl,by rw[q4];exact .inl ⟨rfl,rfl⟩,hr1,f1⟩
  have hz:¬ z < 0:=by simpa using hz
  rw[if_neg hz] at hg;refine wT fun K6 hK6=>?_;rw[wCo,wMw,eTm,g3,wCo,wMw,eTm,gR,r3,wCo];refine wCv (k1:=.i16) (i:=z) h45 h3 (by rw[eTm,gQ]) ?_;rw[Z0P (by omega),wCo];refine Ze hsp.enters (vs:=#[.pointer (some ⟨rb,0,none⟩),.int .i64 z]) (by simp only[List.map_toArray,List.map_cons,List.map_nil,eTm];rw[gR,gR,gQ,gQ]) (hsp.call w1 rb sb s z hr1) ?_;rintro sv w2 ⟨ho,hr2,f2⟩;have hlen:((Z9 z s).1.getD []).length≤4294967296:=Nat.le_trans (Z0L z s) hr1.big;generalize (Z9 z s).1=y at *;generalize (Z9 z s).2=s2 at *;subst hg;refine wC (Ze (R:=fun v w'=>v = .string (Z1i (y.getD []))∧w'=w2) hus.enters (vs:=#[sv]) (by simp only[List.map_toArray,List.map_cons,List.map_nil,eTm];rw[gQ]) ((hus.call w2 _ sv y ho).mono (by rintro e' w' ⟨rfl,rfl⟩;exact ⟨_,rfl,rfl,rfl⟩)) ?_);rintro _ _ ⟨rfl,rfl⟩;refine wC (Z0d hz9 ?_);rw[wCo];refine Z37 (s:=Z1i (y.getD [])) rfl h9s (gQ) (by rw[gR,gQ]) ?_;intro w3 f3 hc3 hw3;rw[wNi];refine hK6 _ _ (tUp ?_);refine wT fun K7 hK7=>?_;rw[wCo,wAg,eTm,gQ,wNi];refine hK7 _ _ (wp_ret ?_);have sz2:=(f1.tr f2).size;refine ⟨by simp only[dPu];exact hd3,_,Z6 hres,_,rfl,?_,hr2.kept f3 (by simp),(f1.tr f2).tr f3.nil⟩;rw[gQ];exact .inr ⟨_,0,Z1i (y.getD []),.inr ⟨by omega,hw3⟩,rfl,hc3,by rw[ZH],by rw[ZH];exact hlen⟩
theorem calen_m {P:Program} {f:FuncId} {fn:Func} {et:TypeId}
    {T3 T4 T21 T22 T61 T216:TypeId}
    {f287:FuncId}
    {a0:Array TypeId}
    {i0 i1 i2 i3 i4 i5 i6:Nat}
    {t0 t1 t2 t3 t4 t5 t6 t7 t8 t9 t10 t11 t12 t13 t14 t15 t16 t17 t18 t19 t20 t21 t22 t23 t24:TypeId} {p0 p1 p2 p3 p4 p5 p6 p7 p8 p9 p10 p11 p12 p13 p14 p15 p16 p17 p18 p19 p20 p21 p22 p23 p24:String} {e0 e1 e2 e3 e4 e5 e6 e7 e8 e9 e10 e11 e12 e13 e14 e15 e16 e17 e18 e19 e20 e21 e22 e23 e24:Array Edge}
    (hf:P.funcs[f]?=some fn) (hname:nG fn=false) (hres:fn.results = #[.tmp 2]) (hN:fn.ntmps=23)
    (hbody:fn.body=some (.seq (Code.region i0 ⟨[oA 2 (.const (.int .i32 0)) t0 p0 e0]⟩ false) (.seq (Code.region i1 ⟨[oM 4 0 t1 p1 e1,
    oC 5 f287 #[(.tmp 4)] a0 t2 p2 e2,⟨some 6,.convert T61 T21 (.tmp 5),t3,p3,e3,none⟩,⟨some 7,.binOp .sub T21 (.tmp 6) (.const (.int .i32 1)) T21,t4,p4,e4,none⟩,
    oT 3 7 t5 p5 e5]⟩ false) (.seq (.seq (Code.region i2 ⟨[oM 8 0 t6 p6 e6,⟨some 9,.nilCheck (.tmp 8),t7,p7,e7,none⟩,
    oF 10 T216 9 0 t8 p8 e8,
    oL 11 T22 10 t9 p9 e9,⟨some 12,.call ⟨.builtin .len,#[(.tmp 11)],#[T22]⟩,t10,p10,e10,none⟩,
    oM 13 3 t11 p11 e11,⟨some 14,.convert T21 T3 (.tmp 13),t12,p12,e12,none⟩,⟨some 15,.binOp .lss T3 (.tmp 12) (.tmp 14) T3,t13,p13,e13,none⟩]⟩ false) (.cond (.tmp 15) (.seq (Code.region i3 ⟨[oM 16 0 t14 p14 e14,⟨some 17,.nilCheck (.tmp 16),t15,p15,e15,none⟩,
    oF 18 T216 17 1 t16 p16 e16,⟨none,.store T4 (.tmp 18) (.const (.bool true)),t17,p17,e17,none⟩]⟩ false) (.seq (Code.region i4 ⟨[oM 19 0 t18 p18 e18,⟨some 20,.nilCheck (.tmp 19),t19,p19,e19,none⟩,
    oF 21 T216 20 0 t20 p20 e20,⟨none,.store T22 (.tmp 21) (.const (.slice none 0 0)),t21,p21,e21,none⟩]⟩ false) (.seq (Code.region i5 ⟨[oA 2 (.const (.int .i32 0)) t22 p22 e22]⟩ false) .ret))) .skip)) (.seq (Code.region i6 ⟨[oM 22 3 t23 p23 e23,
    oT 2 22 t24 p24 e24]⟩ false) .ret)))))
    (hs:Z4 P T22 et 1 1=true) (h22:scal P T22=true) (h4:scal P T4=true) (hF0:Zt P T216 0 0=true) (hF1:Zt P T216 1 1=true) (h3:Zh P T3 .i64=true) (h21:Zh P T21 .i32=true) (h61:Zh P T61 .u32=true) (hu:Z0r P f287 (.int .u32) gUv):Z0r P f (.int .i32) Z32:=by
  refine ⟨enters_of hf hname hbody,?_⟩;intro w rb sb st h;generalize hg:Z32 st=g;refine calls_of_wp hf hbody ?_;generalize ha0:({ tmps:=#[Value.pointer (some ⟨rb,0,none⟩)]++Array.replicate (fn.ntmps - #[Value.pointer (some ⟨rb,0,none⟩)].size) undef,defers:=[] }:Act)=a0;have hsz:a0.tmps.size=23:=by subst ha0;simp[hN]
  have hd0:a0.defers=[]:=by subst ha0;rfl
  have g0:get a0 0 = .pointer (some ⟨rb,0,none⟩):=by subst ha0;exact gAr rfl
  refine tId (wp_seq_k fun K1 hK1=>?_);refine ZA (m:=2) (by omega) (by omega) fun a1 k1 _=>hK1 a1 w (tUp ?_);have hz1:=k1.size;have g1:get a1 0 = .pointer (some ⟨rb,0,none⟩):=by rw[k1.get 0 (by omega),g0]
  refine wT fun K2 hK2=>?_;rw[wCo,wMw,eTm,g1,wCo];refine Ze (R:=fun x w'=>x = .int .u32 ((rdUv st).1:Int)∧RW w' rb sb (rdUv st).2∧Fr [⟨rb,0,2⟩] w w') hu.enters (vs:=#[.pointer (some ⟨rb,0,none⟩)]) (by simp only[List.map_toArray,List.map_cons,List.map_nil,eTm];rw[gQ])
    ((hu.call w rb sb st h).mono (by rintro e' w' ⟨x,rfl,h1,h2,h3⟩;exact ⟨_,rfl,h1.u32,h2,h3⟩)) ?_
  rintro _ w1 ⟨rfl,hr1,f1⟩;have hg:g=(if (((rdUv st).2.xs.length:Nat):Int) < IntKind.i32.wrap (IntKind.i32.wrap ((rdUv st).1:Int) - 1) then (V.n 0,RSt.fail) else (V.n (IntKind.i32.wrap (IntKind.i32.wrap ((rdUv st).1:Int) - 1)),(rdUv st).2)):=by
    rw[← hg];unfold Z32 Z1G;simp only[]
    split <;> rfl
  generalize (rdUv st).1=x at *;generalize (rdUv st).2=s at *;have hzr:=Z4b (IntKind.i32.wrap (x:Int) - 1);refine wC (wCv (k1:=.u32) (i:=(x:Int)) h61 h21 (by rw[eTm,gQ]) ?_);refine wC (Z1P (k1:=.i32) (i:=IntKind.i32.wrap (x:Int)) (j:=1) (by rw[eTm,gQ]) rfl ?_);generalize IntKind.i32.wrap (IntKind.i32.wrap (x:Int) - 1)=z at *;rw[wCo,wAg,eTm,gQ,wNi];generalize ha2:((((a1.put (some 4) (.pointer (some ⟨rb,0,none⟩))).put (some 5) (.int .u32 (x:Int))).put (some 6) (.int .i32 (IntKind.i32.wrap (x:Int)))).put (some 7) (.int .i32 z)).put (some 3) (.int .i32 z)=a2;have k2:Kept 2 a1 a2:=by subst ha2;exact ((((Kept.put0 (by omega) _).pt).pt).pt).pt
  have q3:get a2 3 = .int .i32 z:=by subst ha2;exact gQ
  have hz2:=k2.size;have g2:get a2 0 = .pointer (some ⟨rb,0,none⟩):=by rw[k2.get 0 (by omega),g1]
  have hd2:a2.defers=[]:=by rw[k2.defers,k1.defers,hd0]
  refine hK2 a2 w1 (tUp ?_);obtain ⟨q,cap,c0,c1,fz0,fz1,hrb⟩:=hr1.slice;have hgone:=hr1.gone;have hthere:w1.there rb 0 2:=hr1.2.1;refine tId (wp_seq_k fun K3 hK3=>?_);refine wS fun K4 hK4=>?_;rw[wCo,wMw,eTm,g2,wCo];refine wNc (q:=⟨rb,0,none⟩) (by rw[eTm,gQ]) ?_;refine wC (wFa (b:=rb) (i:=0) hF0 (by rw[eTm,gQ]) ?_);refine wC (Zn h22 (b:=rb) (o:=0) (v:=.slice q s.xs.length cap) (by rw[eTm,gQ]) c0 ?_);refine wC (Z1q hs (by rw[eTm,gQ]) ?_);rw[wCo,wMw,eTm,gR,gR,gR,gR,gR,q3,wCo];refine wCv (k1:=.i32) (i:=z) h21 h3 (by rw[eTm,gQ]) ?_;rw[Z0P (by omega),wCo];refine Z0g (k1:=.i64) (i:=s.xs.length) (j:=z) (by rw[eTm,gR,gR,gQ]) (by rw[eTm,gQ]) ?_;rw[wNi];generalize ha3:(((((((a2.put (some 8) (.pointer (some ⟨rb,0,none⟩))).put (some 9) (.pointer (some ⟨rb,0,none⟩))).put (some 10) (.pointer (some ⟨rb,0+0,none⟩))).put (some 11) (.slice q s.xs.length cap)).put (some 12) (.int .i64 s.xs.length)).put (some 13) (.int .i32 z)).put (some 14) (.int .i64 z)).put (some 15) (.bool (decide ((s.xs.length:Int) < z)))=a3;have k3:Kept 8 a2 a3:=by subst ha3;exact (((((((Kept.put0 (by omega) _).pt).pt).pt).pt).pt).pt).pt
  have q15:get a3 15 = .bool (decide ((s.xs.length:Int) < z)):=by subst ha3;exact gQ
  have hz3:=k3.size;have g3:get a3 0 = .pointer (some ⟨rb,0,none⟩):=by rw[k3.get 0 (by omega),g2]
  have r3:get a3 3 = .int .i32 z:=by rw[k3.get 3 (by omega),q3]
  have hd3:a3.defers=[]:=by rw[k3.defers,hd2]
  refine hK4 a3 w1 ?_;refine wp_cond_split (t:=decide ((s.xs.length:Int) < z)) (by rw[eTm,q15]) (fun hz=>?_) fun hz=>wp_skip (hK3 a3 w1 (tUp ?_))
  · have hz : (s.xs.length : Int) < z := by simpa using hz
    rw[if_pos hz] at hg;subst hg;refine wS fun K5 hK5=>?_;rw[wCo,wMw,eTm,g3,wCo];refine wNc (q:=⟨rb,0,none⟩) (by rw[eTm,gQ]) ?_;refine wC (wFa (b:=rb) (i:=0) hF1 (by rw[eTm,gQ]) ?_);refine wC (Z0b h4 (b:=rb) (o:=0+1) (v:=.bool true) (by rw[eTm,gQ]) rfl rfl (Z8 hthere (by omega) (by omega)) ?_);rw[pNo,wNi];generalize ha4:((a3.put (some 16) (.pointer (some ⟨rb,0,none⟩))).put (some 17) (.pointer (some ⟨rb,0,none⟩))).put (some 18) (.pointer (some ⟨rb,0+1,none⟩))=a4;have k4:Kept 8 a3 a4:=by subst ha4;exact ((Kept.put0 (by omega) _).pt).pt
    have hz4:=k4.size;refine hK5 a4 _ ?_;refine wS fun K6 hK6=>?_;rw[wCo,wMw,eTm,k4.get 0 (by omega),g3,wCo];refine wNc (q:=⟨rb,0,none⟩) (by rw[eTm,gQ]) ?_;refine wC (wFa (b:=rb) (i:=0) hF0 (by rw[eTm,gQ]) ?_);refine wC (Z0b h22 (b:=rb) (o:=0+0) (v:=.slice none 0 0) (by rw[eTm,gQ]) rfl rfl (Z8 ((Fr.set w1 rb (0+1) (.bool true)).there hthere) (by omega) (by omega)) ?_);rw[pNo,wNi];generalize ha5:((a4.put (some 19) (.pointer (some ⟨rb,0,none⟩))).put (some 20) (.pointer (some ⟨rb,0,none⟩))).put (some 21) (.pointer (some ⟨rb,0+0,none⟩))=a5;have k5:Kept 8 a4 a5:=by subst ha5;exact ((Kept.put0 (by omega) _).pt).pt
    have hz5:=k5.size;refine hK6 a5 _ ?_;refine wp_seq_k fun K7 hK7=>?_;refine ZA (m:=2) (by omega) (by omega) fun a6 k6 g6=>hK7 a6 _ ?_;exact wp_ret ⟨by rw[k6.defers,k5.defers,k4.defers,hd3],_,Z6 hres,_,rfl,by rw[g6];exact ⟨0,rfl,rfl,by decide,by decide⟩,hgone.1,f1.tr hgone.2⟩
  have hz:¬ (s.xs.length:Int) < z:=by simpa using hz
  rw[if_neg hz] at hg;subst hg;refine wT fun K6 hK6=>?_;rw[wCo,wMw,eTm,r3,wCo,wAg,eTm,gQ,wNi];refine hK6 _ _ (wp_ret ?_);refine ⟨by simp only[dPu];exact hd3,_,Z6 hres,_,rfl,?_,hr1,f1⟩;rw[gQ];exact ⟨z,rfl,rfl,by show -2147483648≤z;omega,by show z≤2147483647;omega⟩
end Go.Kq

namespace Go.Kq
open Go Go.Proofs
variable {P:Program} {a:Act} {w:World} {K:Act→World→Prop} {Q:Exit→Act→World→Prop} {d:Option Tmp} {t:TypeId} {p:String} {af:Array Edge} {g:Option (Nat × Bool)}
theorem Z5G {T kt et:TypeId} {r:Nat} {x:Operand} {es:Array MapEntry} {clock:Nat} (hT:Z3X P T kt et=true) (hx:a.eval x = .map (some r)) (hb:w.heap[r]?=some (.map es clock))
    (k:K (a.put d (.pointer (some ⟨w.heap.size,0,none⟩))) (w.alloc (.mapIter (some r) clock #[] clock))):OW P ⟨d,.range T x,t,p,af,g⟩ a w K Q:=by
  obtain ⟨hu,_⟩:=Z22 hT;refine Zf (v:=.pointer (some ⟨w.heap.size,0,none⟩)) (w':=w.alloc (.mapIter (some r) clock #[] clock)) ?_ k;simp[execOp,hx,Instr.range,run_underlying hu,Z1s hb,newObj,Sem.run]
theorem Z2P (w:World) (it:Nat) (o:Obj) {m:Option Nat} {s c:Nat} {seen:Array Nat} (h:w.heap[it]?=some (.mapIter m s seen c)):Fr [⟨it,0,0⟩] w (ChangeMaps.setBlock w it o) :=
  Z2s w it o (fun cs T fz e=>by rw[h] at e;cases e)
theorem Z6P {x:Operand} {it r since c0 clock:Nat} {seen:Array Nat} {es:Array MapEntry} (hx:a.eval x = .pointer (some ⟨it,0,none⟩)) (hr:w.heap[it]?=some (.mapIter (some r) since seen c0)) (hb:w.heap[r]?=some (.map es clock))
    (hold:∀ e ∈ es.toList,e.born < since) (hsc:since≤c0)
    (h0:(∀ e ∈ es.toList,e.born ∈ seen.toList)→K (a.put d (.tuple #[.bool false])) w)
    (h1:∀ e ∈ es.toList,e.born ∉ seen.toList→∀ w',Fr [⟨it,0,0⟩] w w'→w'.heap[it]?=some (.mapIter (some r) since (seen.push e.born) clock)→K (a.put d (.tuple #[.bool true,e.key,e.val])) w'):OW P ⟨d,.next x false,t,p,af,g⟩ a w K Q:=by
  rcases run_next_at (P:=P) w t it r since c0 seen es clock hr hb hold hsc with ⟨hz,hrun⟩ | ⟨e,he,w1,hw1,hrun⟩
  · refine Zf (v := .tuple #[.bool false]) (w' := w) ?_ (h0 ?_)
    · simp[execOp,hx,hrun]
    intro e he;have hl:leftOf es seen = #[]:=Array.eq_empty_of_size_eq_zero hz;unfold leftOf at hl;rw[Array.filter_eq_empty_iff] at hl;have:=hl e (by simpa using he)
    simpa using this
  have hm:e ∈ es.toList∧e.born ∉ seen.toList:=by
    unfold leftOf at he;simp at he
    simpa using he
  refine Zf (v:=.tuple #[.bool true,e.key,e.val]) (w':=ChangeMaps.setBlock w1 it (.mapIter (some r) since (seen.push e.born) clock)) ?_ (h1 e hm.1 hm.2 _ ?_ ?_)
  · simp only[execOp,hx,hrun,Sem.run_bind,Result.andThen_ok,Sem.run_pure]
  · rcases hw1 with rfl | rfl
    · exact Z2P w1 it _ hr
    exact (Fr.drew _ w).tr (Z2P w.drew it _ hr)
  refine Z2t w1 it _ ?_
  rcases hw1 with rfl | rfl <;> exact ZB hr
theorem Z5J {x:Operand} {it r since clock:Nat} {seen:Array Nat} {es:Array MapEntry} {e:MapEntry} (hx:a.eval x = .pointer (some ⟨it,0,none⟩)) (hr:w.heap[it]?=some (.mapIter (some r) since (seen.push e.born) clock)) (hb:w.heap[r]?=some (.map es clock))
    (he:e ∈ es.toList) (hn:(es.toList.map (·.born)).Nodup) (k:K (a.put d (.tuple #[e.key,e.val])) w):OW P ⟨d,.entry x,t,p,af,g⟩ a w K Q :=
  Zf (v:=.tuple #[e.key,e.val]) (w':=w) (by simp[execOp,hx,run_entry_at (P:=P) w it r since seen es clock e hr hb he hn]) k
theorem wp_make0 {T e sz bs:Nat} {z:List Value} {n:Nat} {y:Operand} (hT:Z4 P T e sz bs=true) (hz:ZI P e z) (hb:bs * n≤281474976710656) (h63:n≤9223372036854775807) (hy:a.eval y = .int .i64 n)
    (k:K (a.put d (.slice (some ⟨w.heap.size,0,none⟩) 0 n)) (w.alloc (.cells (madeCells z.toArray (n * sz)) e))):OW P ⟨d,.makeSlice T (.const (.int .i64 0)) y,t,p,af,g⟩ a w K Q:=by
  obtain ⟨hu,i,z0,hi,hs,hby,hzz,hsz0⟩:=Zu hT;obtain ⟨i',v0,hi',hz',rfl⟩:=hz;rw[hi] at hi';obtain rfl:=Option.some.inj hi';rw[hzz] at hz';obtain rfl:=Option.some.inj hz';subst hs;subst hby;have h2:(i.bytes:Int) * (n:Int)≤281474976710656:=by rw[← Int.natCast_mul];omega
  have hr:=run_make (P:=P) w T e i z0 hu hi hzz .i64 .i64 (0:Int) (n:Int) (by omega) (by omega) h2 (by omega);refine Zf (v:=.slice (some ⟨w.heap.size,0,none⟩) 0 n) (w':=w.alloc (.cells (madeCells z0.cells.toList.toArray (n * i.size)) e)) ?_ k;simp only[execOp,eCo,hy,Sem.run_bind,hr,Result.andThen_ok,Sem.run_pure,Array.toArray_toList,Int.toNat_natCast]
  rfl
theorem Z4Y {T:TypeId} {x:Operand} {v:Value} (hx:a.eval x=v) {e n b:Nat} (hT:Z4 P T e n b=true) (k:K (a.put d (.iface T v)) w):OW P ⟨d,.makeInterface T x,t,p,af,g⟩ a w K Q :=
  Zf (v:=.iface T v) (w':=w) (by simp[execOp,hx,Instr.makeInterface,run_underlying (Zu hT).1]) k
theorem Z3o {f:FuncId} {x:Operand} {v:Value} (hx:a.eval x=v) (k:K (a.put d (.func (.func f) #[] #[v])) w):OW P ⟨d,.makeFunc (.func f) #[] #[x],t,p,af,g⟩ a w K Q :=
  Zf (v:=.func (.func f) #[] #[v]) (w':=w) (by simp[execOp,hx,Instr.makeFunc]) k
theorem wp_callF {f:FuncId} {caps:Array Value} {y:Operand} {xs:Array Operand} {ts:Array TypeId} {vs:Array Value} {R:Value→World→Prop} (he:Enters P f) (hy:a.eval y = .func (.func f) #[] caps) (hx:xs.map a.eval=vs)
    (hc:Calls P f (vs++caps) w fun e w'=>∃ v,e = .returned v∧R v w') (k:∀ v w',R v w'→K (a.put d v) w') (hyt:∃ n,y = .tmp n):OW P ⟨d,.call ⟨.value y,xs,ts⟩,t,p,af,g⟩ a w K Q:=by
  obtain ⟨n,rfl⟩:=hyt
  constructor
  unfold Oper.wp;have:(execOp a.eval ⟨d,.call ⟨.value (.tmp n),xs,ts⟩,t,p,af,g⟩).run P w = .ok (.enter f (vs++caps)) w:=by
    have:=he (vs++caps) w;simp[execOp,resolve,hy,Deferred.ofValue,invoke,hx,this]
  rw[this];exact hc.mono (by rintro e w' ⟨v,rfl,h⟩;exact k v w' h)
def u32s (ks:List Nat):List Value:=ks.map fun k:Nat=>.int .u32 k
structure SortM (P:Program) (T:TypeId) (fs fl:FuncId):Prop where
  enters:Enters P fs
  call:∀ w ob b o c (ks:List Nat),w.cell? ⟨ob,0,none⟩=some (.slice (some ⟨b,o,none⟩) ks.length c)→w.rangeAt b o (u32s ks)→w.there b o ks.length→ob ≠ b→(∀ k ∈ ks,k < 4294967296)→ks.length≤4294967296→ks ≠ [] →
    Calls P fs #[.iface T (.slice (some ⟨b,o,none⟩) ks.length c),.func (.func fl) #[] #[.pointer (some ⟨ob,0,none⟩)]] w fun e w'=>(∃ z,e = .returned z)∧∃ ks':List Nat,ks'.Perm ks∧ks'.Pairwise (· ≤ ·)∧w'.rangeAt b o (u32s ks')∧Fr [⟨b,o,o+ks.length⟩] w w'
structure EachM (P:Program) (f:FuncId):Prop where
  enters:Enters P f
  call:∀ (w:World) (A:Nat→Prop) (tb to:Nat) (v:Value) (x:V) (g:FuncId) (caps:Array Value) (I:List (Nat × V)→List Rng→World→Prop) (own:List Rng),
    w.cell? ⟨tb,to,none⟩=some v→Rep w A .tags [v] x→(∀ b,A b→b < w.heap.size)→Enters P g→I [] own w→(∀ z ∈ own,¬ A z.b∧z.b ≠ tb∧z.b < w.heap.size) →
    (∀ done own w w',I done own w→Fr [] w w'→I done own w') →
    (∀ done own w1 (k:Nat) y u,I done own w1→(k,V.oct y) ∈ Z04 x→Z2l w1 A u y→(done++[(k,V.oct y)]) <+: Z0m (Z04 x)→w.heap.size≤w1.heap.size→Calls P g (#[.int .u32 (k:Int),u]++caps) w1 fun e w'=>(∃ z,e = .returned z)∧∃ own',I (done++[(k,.oct y)]) own' w'∧Fr own w1 w'∧∀ z ∈ own',z.In own w1) →
    Calls P f #[.pointer (some ⟨tb,to,none⟩),.func (.func g) #[] caps] w fun e w'=>(∃ z,e = .returned z)∧∃ own',I (Z0m (Z04 x)) own' w'∧Fr own w w'∧∀ z ∈ own',z.In own w
end Go.Kq

namespace Go.Kq
open Go Go.Proofs
def keyN:Value→Nat
  | .int _ n=>n.toNat
  | _=>0
theorem ZZ.keys {w:World} {A:Nat→Prop}:∀ {es:List MapEntry} {kv:List (Nat × V)},ZZ w A es kv→kv.map (·.1)=es.map (fun e=>keyN e.key)∧∀ e ∈ es,e.key = .int .u32 (keyN e.key:Int)∧keyN e.key < 4294967296
  | [],kv,h=>by have:kv=[]:=h;subst this;simp
  | e0 :: es, kv, h => by
    obtain ⟨k,x,r,rfl,h2,h3,h4,h5⟩:=h;obtain ⟨i1,i2⟩:=h5.keys;refine ⟨by simp[i1,h3,keyN],fun e he=>?_⟩
    rcases List.mem_cons.1 he with rfl | he
    · rw[h3];exact ⟨by simp[keyN],by simpa [keyN] using h2⟩
    exact i2 e he
set_option maxRecDepth 10000 in
theorem each_m {P:Program} {f:FuncId} {fn:Func} {kt et e59 bs:TypeId} {T3 T59 T97 T99 T146:TypeId} {f97 f98:FuncId} {a0 a1:Array TypeId} {i0 i1 i2 i3 i4 i5 i6 i7 i8 i9 i10 i11:Nat}
    {t0 t1 t2 t3 t4 t5 t6 t7 t8 t9 t10 t11 t12 t13 t14 t15 t16 t17 t18 t19 t20 t21 t22 t23 t24 t25 t26 t27 t28 t29 t30 t31 t32 t33 t34 t35 t36 t37 t38 t39 t40 t41 t42 t43 t44 t45 t46 t47 t48 t49 t50:TypeId} {p0 p1 p2 p3 p4 p5 p6 p7 p8 p9 p10 p11 p12 p13 p14 p15 p16 p17 p18 p19 p20 p21 p22 p23 p24 p25 p26 p27 p28 p29 p30 p31 p32 p33 p34 p35 p36 p37 p38 p39 p40 p41 p42 p43 p44 p45 p46 p47 p48 p49 p50:String} {e0 e1 e2 e3 e4 e5 e6 e7 e8 e9 e10 e11 e12 e13 e14 e15 e16 e17 e18 e19 e20 e21 e22 e23 e24 e25 e26 e27 e28 e29 e30 e31 e32 e33 e34 e35 e36 e37 e38 e39 e40 e41 e42 e43 e44 e45 e46 e47 e48 e49 e50:Array Edge}
    (hf:P.funcs[f]?=some fn) (hname:nG fn=false) (hres:fn.results = #[]) (hN:fn.ntmps=53)
    (hbody:fn.body=some (.seq (.seq (Code.region i0 ⟨[oM 8 0 t0 p0 e0,⟨some 9,.nilCheck (.tmp 8),t1,p1,e1,none⟩,
    oF 10 T99 9 0 t2 p2 e2,
    oL 11 T97 10 t3 p3 e3,⟨some 12,.call ⟨.builtin .len,#[(.tmp 11)],#[T97]⟩,t4,p4,e4,none⟩,⟨some 13,.binOp .eql T3 (.tmp 12) (.const (.int .i64 0)) T3,t5,p5,e5,none⟩]⟩ false) (.cond (.tmp 13) .ret .skip)) (.seq (Code.region i1 ⟨[oM 14 0 t6 p6 e6,⟨some 15,.nilCheck (.tmp 14),t7,p7,e7,none⟩,
    oF 16 T99 15 0 t8 p8 e8,
    oL 17 T97 16 t9 p9 e9,⟨some 18,.call ⟨.builtin .len,#[(.tmp 17)],#[T97]⟩,t10,p10,e10,none⟩,⟨some 19,.makeSlice T146 (.const (.int .i64 0)) (.tmp 18),t11,p11,e11,none⟩,⟨some 4,.alloc T146,t12,p12,e12,none⟩,
    oS T146 4 19 t13 p13 e13]⟩ false) (.seq (.seq (Code.region i2 ⟨[oM 20 0 t14 p14 e14,⟨some 21,.nilCheck (.tmp 20),t15,p15,e15,none⟩,
    oF 22 T99 21 0 t16 p16 e16,
    oL 23 T97 22 t17 p17 e17,⟨some 24,.range T97 (.tmp 23),t18,p18,e18,none⟩]⟩ false) (.block 0 (.loop (.seq (Code.region i3 ⟨[⟨some 25,.next (.tmp 24) false,t19,p19,e19,none⟩,⟨some 26,.extract (.tmp 25) 0,t20,p20,e20,none⟩]⟩ false) (.seq (.cond (.tmp 26) .skip
  (.exit 0)) (.block 1 (.seq (Code.region i4 ⟨[⟨some 27,.entry (.tmp 24),t21,p21,e21,none⟩,⟨some 28,.extract (.tmp 27) 0,t22,p22,e22,none⟩,
    oT 5 28 t23 p23 e23]⟩ false)
  (Code.region i5 ⟨[oL 29 T146 4 t24 p24 e24,
    oM 30 5 t25 p25 e25,⟨some 31,.buildSlice T146 1 #[(0,.tmp 30)],t26,p26,e26,none⟩,⟨some 32,.call ⟨.builtin .append,#[(.tmp 29),(.tmp 31)],#[T146,T146]⟩,t27,p27,e27,none⟩,
    oS T146 4 32 t28 p28 e28]⟩ false)))))))) (.seq (Code.region i6 ⟨[oL 33 T146 4 t29 p29 e29,⟨some 34,.makeInterface T146 (.tmp 33),t30,p30,e30,none⟩,⟨some 35,.makeFunc (.func f98) #[] #[(.tmp 4)],t31,p31,e31,none⟩,
    oC 36 f97 #[(.tmp 34),(.tmp 35)] a0 t32 p32 e32]⟩ false) (.seq (Code.region i7 ⟨[oL 37 T146 4 t33 p33 e33,⟨some 38,.call ⟨.builtin .len,#[(.tmp 37)],#[T146]⟩,t34,p34,e34,none⟩,⟨some 39,.move (.const (.int .i64 0)),t35,p35,e35,none⟩]⟩ false) (.block 2 (.loop (.seq (Code.region i8 ⟨[⟨some 40,.binOp .lss T3 (.tmp 39) (.tmp 38) T3,t36,p36,e36,none⟩]⟩ false) (.seq (.cond (.tmp 40) .skip
  (.exit 2)) (.seq (.block 3 (.seq (Code.region i9 ⟨[⟨some 41,.indexAddr T146 (.tmp 37) (.tmp 39),t37,p37,e37,none⟩,
    oL 42 T59 41 t38 p38 e38,
    oT 7 42 t39 p39 e39]⟩ false)
  (Code.region i10 ⟨[oM 43 1 t40 p40 e40,
    oM 44 7 t41 p41 e41,
    oM 45 0 t42 p42 e42,⟨some 46,.nilCheck (.tmp 45),t43,p43,e43,none⟩,
    oF 47 T99 46 0 t44 p44 e44,
    oL 48 T97 47 t45 p45 e45,
    oM 49 7 t46 p46 e46,⟨some 50,.lookup T97 (.tmp 48) (.tmp 49) false,t47,p47,e47,none⟩,⟨some 51,.call ⟨.value (.tmp 43),#[(.tmp 44),(.tmp 50)],a1⟩,t48,p48,e48,none⟩]⟩ false)))
  (Code.region i11 ⟨[⟨some 52,.binOp .add T3 (.tmp 39) (.const (.int .i64 1)) T3,t49,p49,e49,none⟩,
    oM 39 52 t50 p50 e50]⟩ false))))))))))))
    (hT:Z3X P T97 kt et=true) (h97:scal P T97=true) (hF:Zt P T99 0 0=true) (hs:Z4 P T146 e59 1 bs=true) (hbs:bs≤16) (hz:ZI P e59 [.int .u32 0]) (h146:scal P T146=true) (hz146:Z1O P T146 (.slice none 0 0)) (h59:scal P T59=true) (hsort:SortM P T146 f97 f98):EachM P f:=by
  refine ⟨enters_of hf hname hbody,?_⟩;intro w A tb to v x g caps I own hc hrep hA hg hI0 hown hstab hcall;have htb:=Zz hc;refine calls_of_wp hf hbody ?_;generalize ha0:({ tmps:=#[Value.pointer (some ⟨tb,to,none⟩),Value.func (.func g) #[] caps]++Array.replicate (fn.ntmps - #[Value.pointer (some ⟨tb,to,none⟩),Value.func (.func g) #[] caps].size) undef,defers:=[] }:Act)=a0;have hsz:a0.tmps.size=53:=by subst ha0;simp[hN]
  have hd0:a0.defers=[]:=by subst ha0;rfl
  have g0:get a0 0 = .pointer (some ⟨tb,to,none⟩):=by subst ha0;exact gAr rfl
  have g1:get a0 1 = .func (.func g) #[] caps:=by subst ha0;exact gAr rfl
  obtain ⟨q,hvq,hmap⟩:∃ q,v = .map q∧((q=none∧Z04 x=[])∨∃ r,q=some r∧TagM w A r (Z04 x)∧A r):=by
    rcases hrep with ⟨h,rfl⟩ | ⟨r,es,clock,kv,hr,h,h2,h3,rfl,h4⟩
    · simp at h;exact ⟨none,h,.inl ⟨rfl,rfl⟩⟩
    simp at h;exact ⟨some r,h,.inr ⟨r,rfl,⟨es,clock,h2,h3,h4⟩,hr⟩⟩
  subst hvq;generalize hkv:Z04 x=kv at *;clear hrep hkv;refine tId (wp_seq_k fun K1 hK1=>?_);refine wS fun K2 hK2=>?_;rw[wCo,wMw,eTm,g0,wCo];refine wNc (q:=⟨tb,to,none⟩) (by rw[eTm,gQ]) ?_;refine wC (wFa (b:=tb) (i:=to) hF (by rw[eTm,gQ]) ?_);refine wC (Zn h97 (b:=tb) (o:=to) (by rw[eTm,gQ];simp) hc ?_);refine wC (Z3H (q:=q) (A:=A) (kv:=kv) hT (by rw[eTm,gQ]) (by rcases hmap with h | ⟨r,h1,h2,_⟩;exact .inl h;exact .inr ⟨r,h1,h2⟩) ?_);refine wC (Z0i (k1:=.i64) (i:=kv.length) (j:=0) (by rw[eTm,gQ]) rfl ?_);rw[wNi];generalize hb1:(((((a0.put (some 8) (.pointer (some ⟨tb,to,none⟩))).put (some 9) (.pointer (some ⟨tb,to,none⟩))).put (some 10) (.pointer (some ⟨tb,to+0,none⟩))).put (some 11) (.map q)).put (some 12) (.int .i64 kv.length)).put (some 13) (.bool ((kv.length:Int)==0))=b1;have k1:Kept 8 a0 b1:=by subst hb1;exact (((((Kept.put0 (by omega) _).pt).pt).pt).pt).pt
  have q13:get b1 13 = .bool ((kv.length:Int)==0):=by subst hb1;exact gQ
  clear hb1;have hz1:=k1.size;refine hK2 b1 w ?_;refine wp_cond_split (t:=((kv.length:Int)==0)) (by rw[eTm,q13]) (fun h=>?_) fun h=>wp_skip (hK1 b1 w (tUp ?_))
  · have hkv0 : kv = [] := by simp at h; exact h
    subst hkv0;exact wp_ret ⟨by rw[k1.defers,hd0],.tuple #[],by simp[results,hres],⟨_,rfl⟩,own,hI0,Fr.refl _ _,fun z hz=>Rng.in_self hz⟩
  have hpos:0 < kv.length:=by simp at h;exact List.length_pos_iff.2 h
  obtain ⟨r,rfl,hm,hAr⟩:∃ r,q=some r∧TagM w A r kv∧A r:=by
    rcases hmap with ⟨_,h⟩ | h
    · rw[h] at hpos;simp at hpos
    exact h
  clear hmap;have hm0:=hm;obtain ⟨es,clock,hb,hent,hnb,hcl,hnk⟩:=hm;have hrl:=ZB hb;have hlen:=hent.len;have hsmall:=hent.small;obtain ⟨hkeys,hkey⟩:=hent.keys;have hkl:kv.length≤4294967296:=by
    have:=Z5r (n:=4294967296) hnk (fun k hk=>by obtain ⟨p,hp,rfl⟩:=List.mem_map.1 hk;exact hsmall p hp)
    simpa using this
  -- the slice of keys
  refine wT fun K3 hK3=>?_;rw[wCo,wMw,eTm,k1.get 0 (by omega),g0,wCo];refine wNc (q:=⟨tb,to,none⟩) (by rw[eTm,gQ]) ?_;refine wC (wFa (b:=tb) (i:=to) hF (by rw[eTm,gQ]) ?_);refine wC (Zn h97 (b:=tb) (o:=to) (by rw[eTm,gQ];simp) hc ?_);refine wC (Z3H (q:=some r) (A:=A) (kv:=kv) hT (by rw[eTm,gQ]) (.inr ⟨r,rfl,hm0⟩) ?_);refine wC (wp_make0 (n:=kv.length) hs hz (by have:=Nat.mul_le_mul hbs hkl;omega) (by omega) (by rw[eTm,gQ]) ?_);have f1:=Fr.alloc [] w (.cells (madeCells [Value.int .u32 0].toArray (kv.length * 1)) e59);have th1:=Zx w (madeCells [Value.int .u32 0].toArray (kv.length * 1)) e59;have sz1:=Zd w (.cells (madeCells [Value.int .u32 0].toArray (kv.length * 1)) e59);have hmc:(madeCells [Value.int .u32 0].toArray (kv.length * 1)).size=kv.length * 1:=by simp[madeCells]
  rw[hmc] at th1;generalize w.alloc (.cells (madeCells [Value.int .u32 0].toArray (kv.length * 1)) e59)=w1 at f1 th1 sz1 ⊢;refine wC (Z0d hz146 ?_);have f2:=Fr.alloc [] w1 (.cells (Value.slice none 0 0).cells T146);have th2:(w1.alloc (.cells (Value.slice none 0 0).cells T146)).there w1.heap.size 0 1:=Zx w1 #[.slice none 0 0] T146;have sz2:=Zd w1 (.cells (Value.slice none 0 0).cells T146);generalize w1.alloc (.cells (Value.slice none 0 0).cells T146)=w2 at f2 th2 sz2 ⊢;refine wC (Z0b h146 (b:=w1.heap.size) (o:=0) (v:=.slice (some ⟨w.heap.size,0,none⟩) 0 kv.length) (by rw[eTm,gQ]) (by rw[eTm,gR,gQ]) rfl th2 ?_);rw[pNo,wNi];have f3:=Fr.set w2 w1.heap.size 0 (.slice (some ⟨w.heap.size,0,none⟩) 0 kv.length);have c3:(w2.setCell ⟨w1.heap.size,0,none⟩ (.slice (some ⟨w.heap.size,0,none⟩) 0 kv.length)).cell? ⟨w1.heap.size,0,none⟩=some (.slice (some ⟨w.heap.size,0,none⟩) 0 kv.length):=ZW th2;generalize w2.setCell ⟨w1.heap.size,0,none⟩ (.slice (some ⟨w.heap.size,0,none⟩) 0 kv.length)=w3 at f3 c3 ⊢;have th3:=f3.there th2;have tl3:=f3.there (f2.there th1);have sz3:=f3.size;have f03:Fr [] w w3:=(f1.tr f2).trans f3 (by intro z hz;simp at hz;subst hz;exact .inl (by simp only;omega));generalize hb2:((((((b1.put (some 14) (.pointer (some ⟨tb,to,none⟩))).put (some 15) (.pointer (some ⟨tb,to,none⟩))).put (some 16) (.pointer (some ⟨tb,to+0,none⟩))).put (some 17) (.map (some r))).put (some 18) (.int .i64 kv.length)).put (some 19) (.slice (some ⟨w.heap.size,0,none⟩) 0 kv.length)).put (some 4) (.pointer (some ⟨w1.heap.size,0,none⟩))=b2;have k2:Kept 4 b1 b2:=by subst hb2;exact ((((((Kept.put0 (by omega) _).pt).pt).pt).pt).pt).pt
  have q4:get b2 4 = .pointer (some ⟨w1.heap.size,0,none⟩):=by subst hb2;exact gQ
  clear hb2;have hz2:=k2.size;generalize hob:w1.heap.size=ob at *;refine hK3 b2 w3 (tUp ?_)
  -- the keys collected
  refine tId (wp_seq_k fun K4 hK4=>?_);refine wS fun K5 hK5=>?_;rw[wCo,wMw,eTm,k2.get 0 (by omega),k1.get 0 (by omega),g0,wCo];refine wNc (q:=⟨tb,to,none⟩) (by rw[eTm,gQ]) ?_;refine wC (wFa (b:=tb) (i:=to) hF (by rw[eTm,gQ]) ?_);refine wC (Zn h97 (b:=tb) (o:=to) (by rw[eTm,gQ];simp) (f03.cell hc .nil) ?_);rw[wCo];have hb3:w3.heap[r]?=some (.map es clock):=by rw[f03.block r hrl (by simp)];exact hb
  refine Z5G hT (by rw[eTm,gQ]) hb3 ?_;rw[wNi];have f4:=Fr.alloc [] w3 (.mapIter (some r) clock #[] clock);have hi4:(w3.alloc (.mapIter (some r) clock #[] clock)).heap[w3.heap.size]?=some (.mapIter (some r) clock #[] clock):=by show (w3.heap.push _)[w3.heap.size]?=_;simp
  have sz4:=Zd w3 (.mapIter (some r) clock #[] clock);generalize w3.alloc (.mapIter (some r) clock #[] clock)=w4 at f4 hi4 sz4 ⊢;generalize hit:w3.heap.size=it at *;generalize hb3':((((b2.put (some 20) (.pointer (some ⟨tb,to,none⟩))).put (some 21) (.pointer (some ⟨tb,to,none⟩))).put (some 22) (.pointer (some ⟨tb,to+0,none⟩))).put (some 23) (.map (some r))).put (some 24) (.pointer (some ⟨it,0,none⟩))=b3;have k3:Kept 8 b2 b3:=by subst hb3';exact ((((Kept.put0 (by omega) _).pt).pt).pt).pt
  have q24:get b3 24 = .pointer (some ⟨it,0,none⟩):=by subst hb3';exact gQ
  clear hb3';have hz3:=k3.size;have f04:Fr [] w w4:=f03.tr f4;refine hK5 b3 w4 ?_;refine wp_block (wp_loop (fun a' w'=>∃ (L:List MapEntry) (seen:Array Nat) (c0:Nat) (u:Value),a'.tmps.size=53∧a'.defers=[]∧get a' 0 = .pointer (some ⟨tb,to,none⟩)∧get a' 1 = .func (.func g) #[] caps∧get a' 4 = .pointer (some ⟨ob,0,none⟩)∧get a' 24 = .pointer (some ⟨it,0,none⟩) ∧
      (L.map (·.born)).Nodup∧(∀ e ∈ L,e ∈ es.toList)∧seen.toList=L.map (·.born)∧w'.heap[it]?=some (.mapIter (some r) clock seen c0)∧clock≤c0∧w'.cell? ⟨ob,0,none⟩=some u∧w'.there ob 0 1∧Own w' (fun b=>w.heap.size≤b∧b < w'.heap.size∧b ≠ ob∧b ≠ it) 1 u L.length (L.map (·.key)) ∧
      (∃ b o c,u = .slice (some ⟨b,o,none⟩) L.length c)∧Fr [] w w') (fun _ w'=>es.size - (match w'.heap[it]? with | some (.mapIter _ _ seen _)=>seen.size | _=>0)) ?_ ?_)
  · refine ⟨[],#[],clock,.slice (some ⟨w.heap.size,0,none⟩) 0 kv.length,by omega,by rw[k3.defers,k2.defers,k1.defers,hd0],by rw[k3.get 0 (by omega),k2.get 0 (by omega),k1.get 0 (by omega),g0],by rw[k3.get 1 (by omega),k2.get 1 (by omega),k1.get 1 (by omega),g1],by rw[k3.get 4 (by omega),q4],q24,
      List.nodup_nil,by simp,rfl,hi4,Nat.le_refl _,f4.cell c3 .nil,f4.there th3,⟨rfl,.inr ⟨w.heap.size,0,kv.length,⟨Nat.le_refl _,by omega,by omega,by omega⟩,rfl,by simp,by simp only[maxLen];omega,Z3V,f4.there tl3⟩⟩,⟨_,_,_,rfl⟩,f04⟩
  rintro a5 w5 ⟨L,seen,c0,u,hs5,hd5,p0,p1,p4,p24,hLn,hLs,hseen,hi5,hcc,hcu,hthu,hou,⟨ub,uo,uc,hus⟩,f5⟩;have hb5:w5.heap[r]?=some (.map es clock):=by rw[f5.block r hrl (by simp)];exact hb
  have hszS:seen.size=L.length:=by rw[← Array.length_toList,hseen,List.length_map]
  have hLlen:L.length≤es.size:=by
    have:=Z0W (m:=es.toList.map (·.born)) hLn (fun b hb=>by obtain ⟨e,he,rfl⟩:=List.mem_map.1 hb;exact List.mem_map.2 ⟨e,hLs e he,rfl⟩)
    simpa using this
  refine wS fun K6 hK6=>?_;rw[wCo];refine Z6P (x:=.tmp 24) (by rw[eTm,p24]) hi5 hb5 (fun e he=>hcl e he) hcc (fun hall=>?_) (fun e he hns w6 f6 hi6=>?_)
  · rw [wCo];refine Z0H (vs := #[.bool false]) (v := .bool false) (by rw [eTm, gQ]) rfl ?_;rw [wNi];generalize hb6 : (a5.put (some 25) (.tuple #[.bool false])).put (some 26) (.bool false) = a6;have k6 : Kept 25 a5 a6 := by subst hb6; exact (Kept.put0 (by omega) _).pt
    have q26:get a6 26 = .bool false:=by subst hb6;exact gQ
    clear hb6;have hz6:=k6.size;refine hK6 a6 w5 ?_;refine wp_seq_k fun K7 hK7=>?_;refine wp_cond_split (t:=false) (by rw[eTm,q26]) (fun h=>by cases h) fun _=>?_;refine wp_exit ?_;show K4 a6 w5
    refine hK4 a6 w5 (tUp ?_)
    -- the keys in order
    have hperm:(L.map (fun e=>keyN e.key)).Perm (kv.map (·.1)):=by
      rw[hkeys];have hpb:(L.map (·.born)).Perm (es.toList.map (·.born)):=Z3v hLn hnb (fun b=>by
        constructor
        · intro hb;obtain ⟨e,he,rfl⟩:=List.mem_map.1 hb;exact List.mem_map.2 ⟨e,hLs e he,rfl⟩
        · intro hb;obtain ⟨e,he,rfl⟩:=List.mem_map.1 hb;rw[← hseen];exact hall e he)
      have hkk:∀ e ∈ es.toList,keyN e.key=keyN ((es.toList.find? (fun y=>y.born==e.born)).getD e).key:=by
        intro e he
        cases hfd:es.toList.find? (fun y=>y.born==e.born) with
        | none=>rfl
        | some y =>
          have hy:=List.find?_some hfd;have hym:=List.mem_of_find?_eq_some hfd;simp at hy
          have:y=e:=by
            obtain ⟨i1,hi1⟩:=List.getElem?_of_mem hym;obtain ⟨i2,hi2⟩:=List.getElem?_of_mem he;have e1:(es.toList.map (·.born))[i1]?=some y.born:=by rw[List.getElem?_map,hi1];rfl
            have e2:(es.toList.map (·.born))[i2]?=some y.born:=by rw[List.getElem?_map,hi2,hy];rfl
            have:i1=i2:=(List.getElem?_inj (List.getElem?_eq_some_iff.1 e1).1 hnb).1 (e1.trans e2.symm);subst this;rw[hi1] at hi2;exact Option.some.inj hi2
          rw[this];rfl
      have hF:∀ l:List MapEntry,(∀ e ∈ l,e ∈ es.toList)→l.map (fun e=>keyN e.key)=(l.map (·.born)).map (fun b=>((es.toList.find? (fun y=>y.born==b)).map (fun y=>keyN y.key)).getD 0):=by
        intro l hl;rw[List.map_map];refine List.map_congr_left (fun e he=>?_);have:=hkk e (hl e he);simp only[Function.comp_apply]
        cases hfd:es.toList.find? (fun y=>y.born==e.born) with
        | none =>
          have:=List.find?_eq_none.1 hfd e (hl e he);simp at this
        | some y=>rw[hfd] at this;simpa using this
      rw[hF L hLs,hF es.toList (fun e he=>he)];exact hpb.map _
    have hLlen2:L.length=kv.length:=by have:=hperm.length_eq;simpa using this
    have hkeyL:L.map (·.key)=u32s (L.map (fun e=>keyN e.key)):=by
      unfold u32s;rw[List.map_map];exact List.map_congr_left (fun e he=>(hkey e (hLs e he)).1)
    have hLpos:0 < L.length:=by omega
    subst hus;obtain ⟨hr5,hl5,hub⟩:w5.rangeAt ub uo (L.map (·.key))∧w5.there ub uo L.length∧(w.heap.size≤ub∧ub < w5.heap.size∧ub ≠ ob∧ub ≠ it):=by
      obtain ⟨_,h | ⟨g',o',c',hg',hv',hc1,hc2,hr',ht'⟩⟩:=hou
      · omega
      simp at hv'
      obtain ⟨⟨rfl,rfl⟩,rfl⟩:=hv';exact ⟨hr',Z8 ht' (Nat.le_refl _) (by omega),hg'⟩
    rw[hkeyL] at hr5;generalize hks:L.map (fun e=>keyN e.key)=ks at hperm hr5;have hksl:ks.length=L.length:=by rw[← hks,List.length_map]
    have hkb:∀ k ∈ ks,k < 4294967296:=fun k hk=>by
      have:=hperm.mem_iff.1 hk;obtain ⟨p,hp,rfl⟩:=List.mem_map.1 this;exact hsmall p hp
    clear hkeyL hks;rw[← hksl] at hl5 hcu hLpos hLlen2;generalize hLL:L.length=nL at *;subst hksl;refine wT fun K8 hK8=>?_;refine wC (Zn h146 (b:=ob) (o:=0) (by rw[eTm,k6.get 4 (by omega),p4]) hcu ?_);refine wC (Z4Y (v:=.slice (some ⟨ub,uo,none⟩) ks.length uc) (by rw[eTm,gQ]) hs ?_);refine wC (Z3o (v:=.pointer (some ⟨ob,0,none⟩)) (by rw[eTm,gR,gR,k6.get 4 (by omega),p4]) ?_);rw[wCo];refine Ze hsort.enters (vs:=#[.iface T146 (.slice (some ⟨ub,uo,none⟩) ks.length uc),.func (.func f98) #[] #[.pointer (some ⟨ob,0,none⟩)]])
      (by simp only[List.map_toArray,List.map_cons,List.map_nil,eTm];rw[gR,gQ,gQ])
      ((hsort.call w5 ob ub uo uc ks hcu hr5 hl5 (fun e=>hub.2.2.1 e.symm) hkb (by omega) (by intro e;rw[e] at hLpos;simp at hLpos)).mono (by rintro e' w' ⟨⟨z,rfl⟩,h⟩;exact ⟨z,rfl,h⟩)) ?_
    rintro zz w6 ⟨ks',hp',hso',hr6,f6⟩;rw[wNi];generalize hb7:(((a6.put (some 33) (.slice (some ⟨ub,uo,none⟩) ks.length uc)).put (some 34) (.iface T146 (.slice (some ⟨ub,uo,none⟩) ks.length uc))).put (some 35) (.func (.func f98) #[] #[.pointer (some ⟨ob,0,none⟩)])).put (some 36) zz=a7;have k7:Kept 25 a6 a7:=by subst hb7;exact (((Kept.put0 (by omega) _).pt).pt).pt
    clear hb7;have hz7:=k7.size;have hskeys:(Z0m kv).map (·.1)=ks':=Z5T (hp'.trans hperm) hso';have hskl:(Z0m kv).length=ks'.length:=by rw[← hskeys,List.length_map]
    have hksl':ks'.length=ks.length:=hp'.length_eq;have f06:Fr [] w w6:=f5.trans f6 (by intro z hz;simp at hz;subst hz;exact .inl hub.1);have c6:=f6.cell hcu (.cons (.inl (by simp only;exact hub.2.2.1)) .nil);have sz5:=f5.size;have sz6:=f06.size;have hub6:ub < w6.heap.size:=Nat.lt_of_lt_of_le hub.2.1 f6.size;refine hK8 a7 w6 (tUp ?_);refine wT fun K9 hK9=>?_;refine wC (Zn h146 (b:=ob) (o:=0) (by rw[eTm,k7.get 4 (by omega),k6.get 4 (by omega),p4]) c6 ?_);refine wC (Z1q hs (by rw[eTm,gQ]) ?_);rw[wCo,wMw,eCo,wNi];generalize hb8:((a7.put (some 37) (.slice (some ⟨ub,uo,none⟩) ks.length uc)).put (some 38) (.int .i64 ks.length)).put (some 39) (.int .i64 0)=a8;have k8:Kept 25 a7 a8:=by subst hb8;exact ((Kept.put0 (by omega) _).pt).pt
    have q37:get a8 37 = .slice (some ⟨ub,uo,none⟩) ks.length uc:=by subst hb8;rw[gR,gR,gQ]
    have q38:get a8 38 = .int .i64 ks.length:=by subst hb8;rw[gR,gQ]
    have q39:get a8 39 = .int .i64 0:=by subst hb8;exact gQ
    clear hb8;have hz8:=k8.size;refine hK9 a8 w6 (tUp ?_);refine wp_block (wp_loop (fun a' w'=>∃ (j:Nat) (own':List Rng),j≤ks.length∧a'.tmps.size=53∧a'.defers=[]∧get a' 0 = .pointer (some ⟨tb,to,none⟩)∧get a' 1 = .func (.func g) #[] caps∧get a' 37 = .slice (some ⟨ub,uo,none⟩) ks.length uc∧get a' 38 = .int .i64 ks.length∧get a' 39 = .int .i64 j ∧
        I ((Z0m kv).take j) own' w'∧Fr own w6 w'∧(∀ z ∈ own',z.In own w6)) (fun a' _=>ks.length - Z3i (get a' 39)) ?_ ?_)
    · exact ⟨0,own,Nat.zero_le _,by omega,by rw[k8.defers,k7.defers,k6.defers,hd5],by rw[k8.get 0 (by omega),k7.get 0 (by omega),k6.get 0 (by omega),p0],by rw[k8.get 1 (by omega),k7.get 1 (by omega),k6.get 1 (by omega),p1],q37,q38,q39,hstab _ _ _ _ hI0 f06,Fr.refl _ _,fun z hz=>Rng.in_self hz⟩
    rintro a9 w9 ⟨j,own',hj,hs9,hd9,r0,r1,r37,r38,r39,hI9,f9,hin9⟩;refine wS fun K10 hK10=>?_;refine wC (Z0g (k1:=.i64) (i:=j) (j:=ks.length) (by rw[eTm,r39]) (by rw[eTm,r38]) ?_);rw[wNi];generalize hb10:a9.put (some 40) (.bool (decide ((j:Int) < ks.length)))=a10;have k10:Kept 40 a9 a10:=by subst hb10;exact Kept.put0 (Nat.le_refl _) _
    have q40:get a10 40 = .bool (decide ((j:Int) < ks.length)):=by subst hb10;exact gQ
    clear hb10;have hz10:=k10.size;have f09:Fr own w w9:=(f06.nil (l:=own)).tr f9;refine hK10 a10 w9 ?_;refine wp_seq_k fun K11 hK11=>?_;refine wp_cond_split (t:=decide ((j:Int) < ks.length)) (by rw[eTm,q40]) (fun hlt=>wp_skip (hK11 a10 w9 ?_)) (fun hge=>?_)
    · have hjl : j < ks.length := by simpa using hlt
      have hjs:j < (Z0m kv).length:=by omega
      have hjk:j < ks'.length:=by omega
      have hmem:(Z0m kv)[j] ∈ kv:=(Z1D kv).mem_iff.1 (List.getElem_mem hjs);have hkj:ks'[j]=((Z0m kv)[j]).1:=by simp[← hskeys]
      have hks32:ks'[j] < 4294967296:=hkb _ (hp'.mem_iff.1 (List.getElem_mem hjk));have hm9:TagM w9 A r kv:=hm0.kept f09 (fun z hz=>(hown z hz).1) (fun z hz e=>(hown z hz).1 (e ▸ hAr)) (fun _ h=>h);have hc9:w9.cell? ⟨tb,to,none⟩=some (.map (some r)):=f09.cell hc (fun z hz=>.inl (hown z hz).2.1);have hr9:w9.rangeAt ub uo (u32s ks'):=f9.range hr6 (fun z hz=>.inl (by have:=(hown z hz).2.2;omega));have hcell9:w9.cell? ⟨ub,uo+j,none⟩=some (.int .u32 (ks'[j]:Nat)):=hr9 j _ (by simp[u32s,hjk]);refine wp_seq_k fun K12 hK12=>?_;refine wp_block (wp_mono (show Code.wp P _ (Exit.then K12 (Exit.inBlock 3 (Exit.then K12 _))) a10 w9 from ?_) (fun _ _ _=>Z0a));refine wS fun K13 hK13=>?_;refine wC (Zw hs (b:=ub) (o:=uo) (len:=ks.length) (cap:=uc) (k1:=.i64) (i:=j) (by rw[eTm,k10.get 37 (by omega),r37]) (by rw[eTm,k10.get 39 (by omega),r39]) (by omega) (by omega) ?_);refine wC (Zn h59 (b:=ub) (o:=uo+j) (v:=.int .u32 (ks'[j]:Nat)) (by rw[eTm,gQ];simp) hcell9 ?_);rw[wCo,wAg,eTm,gQ,wNi];generalize hb11:((a10.put (some 41) (.pointer (some ⟨ub,uo+(j:Int).toNat * 1,none⟩))).put (some 42) (.int .u32 (ks'[j]:Nat))).put (some 7) (.int .u32 (ks'[j]:Nat))=a11;have k11:Kept 7 a9 a11:=by subst hb11;exact (k10.mono (by omega)).trans (((Kept.put0 (by omega) _).pt).pt)
      have q7:get a11 7 = .int .u32 (ks'[j]:Nat):=by subst hb11;exact gQ
      have q37':get a11 37 = .slice (some ⟨ub,uo,none⟩) ks.length uc:=by subst hb11;rw[gR,gR,gR,k10.get 37 (by omega),r37]
      have q38':get a11 38 = .int .i64 ks.length:=by subst hb11;rw[gR,gR,gR,k10.get 38 (by omega),r38]
      have q39':get a11 39 = .int .i64 j:=by subst hb11;rw[gR,gR,gR,k10.get 39 (by omega),r39]
      clear hb11;have hz11:=k11.size;refine hK13 a11 w9 ?_;refine Z2 ?_;rw[wCo,wMw,eTm,k11.get 1 (by omega),r1,wCo,wMw,eTm,gR,q7,wCo,wMw,eTm,gR,gR,k11.get 0 (by omega),r0,wCo];refine wNc (q:=⟨tb,to,none⟩) (by rw[eTm,gQ]) ?_;refine wC (wFa (b:=tb) (i:=to) hF (by rw[eTm,gQ]) ?_);refine wC (Zn h97 (b:=tb) (o:=to) (by rw[eTm,gQ];simp) hc9 ?_);rw[wCo,wMw,eTm,gR,gR,gR,gR,gR,gR,q7,wCo];refine Z7p (r:=r) (k:=ks'[j]) (A:=A) (kv:=kv) (x:=((Z0m kv)[j]).2) hT (by rw[eTm,gR,gQ]) (by rw[eTm,gQ]) hm9 (by rw[hkj];exact hmem) ?_;intro uv yv hxy hov;rw[wCo];refine wp_callF (f:=g) (caps:=caps) (vs:=#[.int .u32 (ks'[j]:Nat),uv]) (R:=fun _ w'=>∃ own'',I ((Z0m kv).take j++[(ks'[j],.oct yv)]) own'' w'∧Fr own' w9 w'∧∀ z ∈ own'',z.In own' w9) hg
        (by rw[eTm,gR,gR,gR,gR,gR,gR,gR,gQ])
        (by simp only[List.map_toArray,List.map_cons,List.map_nil,eTm];rw[gR,gR,gR,gR,gR,gR,gQ,gQ])
        ((hcall ((Z0m kv).take j) own' w9 (ks'[j]) yv uv hI9 (by rw[hkj,← hxy];exact hmem) hov (by rw[show (ks'[j],V.oct yv)=(Z0m kv)[j] from by rw[hkj,← hxy],← List.take_succ_eq_append_getElem hjs];exact List.take_prefix _ _) f09.size).mono (by rintro e' w' ⟨⟨z,rfl⟩,h⟩;exact ⟨z,rfl,h⟩)) ?_ ⟨_,rfl⟩
      rintro zz2 w12 ⟨own'',hI12,f12,hin12⟩;rw[wNi];refine hK12 _ w12 ?_;refine Z2 ?_;refine wC (ZF (k1:=.i64) (i:=j) (j:=1) (by rw[eTm,gR,gR,gR,gR,gR,gR,gR,gR,gR,q39']) rfl ?_);have hwr:IntKind.i64.wrap ((j:Int)+1)=((j+1:Nat):Int):=by
        simp[IntKind.wrap,IntKind.bits,IntKind.signed];omega
      rw[hwr,wCo,wMw,eTm,gQ,wNi];have hK':∀ (t:Nat),t < 39→t ≠ 7→get (((((((((((a11.put (some 43) (.func (.func g) #[] caps)).put (some 44) (.int .u32 (ks'[j]:Nat))).put (some 45) (.pointer (some ⟨tb,to,none⟩))).put (some 46) (.pointer (some ⟨tb,to,none⟩))).put (some 47) (.pointer (some ⟨tb,to+0,none⟩))).put (some 48) (.map (some r))).put (some 49) (.int .u32 (ks'[j]:Nat))).put (some 50) uv).put (some 51) zz2).put (some 52) (.int .i64 (j+1:Nat))).put (some 39) (.int .i64 (j+1:Nat))) t=get a11 t:=by
        intro t ht _;rw[gR,gR,gR,gR,gR,gR,gR,gR,gR,gR,gR]
      refine ⟨⟨j+1,own'',hjl,by simp only[sPu];omega,by simp only[dPu];rw[k11.defers,hd9],?_,?_,?_,?_,?_,?_,?_,?_⟩,?_⟩
      · rw[hK' 0 (by omega) (by omega),k11.get 0 (by omega),r0]
      · rw[hK' 1 (by omega) (by omega),k11.get 1 (by omega),r1]
      · rw[hK' 37 (by omega) (by omega),q37']
      · rw[hK' 38 (by omega) (by omega),q38']
      · exact gQ
      · have e : (ks'[j], V.oct yv) = (Z0m kv)[j] := by rw [hkj, ← hxy]
        rw[e] at hI12;rw[List.take_succ_eq_append_getElem hjs];exact hI12
      · exact f9.trans f12 hin9
      · intro z hz
        rcases hin12 z hz with h | ⟨y,hy,h1,h2,h3⟩
        · have:=f9.size;exact .inl (by omega)
        rcases hin9 y hy with h | ⟨x',hx',h4,h5,h6⟩
        · exact .inl (by omega)
        exact .inr ⟨x',hx',by omega,by omega,by omega⟩
      rw[gQ,r39];simp[Z3i];omega
    refine wp_exit ?_;have hje:j=ks.length:=by simp at hge;omega
    subst hje;have htk:(Z0m kv).take ks.length=Z0m kv:=List.take_of_length_le (by omega);rw[htk] at hI9;refine ⟨by rw[k10.defers,hd9],.tuple #[],by simp[results,hres],⟨_,rfl⟩,own',hI9,f09,fun z hz=>?_⟩
    rcases hin9 z hz with h | h
    · exact .inl (by omega)
    exact .inr h
  rw[wCo];have sz6:=f6.size;refine Z0H (vs:=#[.bool true,e.key,e.val]) (v:=.bool true) (by rw[eTm,gQ]) rfl ?_;rw[wNi];generalize hb6:(a5.put (some 25) (.tuple #[.bool true,e.key,e.val])).put (some 26) (.bool true)=a6;have k6:Kept 25 a5 a6:=by subst hb6;exact (Kept.put0 (by omega) _).pt
  have q26:get a6 26 = .bool true:=by subst hb6;exact gQ
  clear hb6;have hz6:=k6.size;refine hK6 a6 w6 ?_;refine wp_seq_k fun K7 hK7=>?_;refine wp_cond_split (t:=true) (by rw[eTm,q26]) (fun _=>wp_skip (hK7 a6 w6 ?_)) (fun h=>by cases h);refine wp_block ?_;refine wT fun K8 hK8=>?_;rw[wCo];have hitne:it ≠ r:=by intro e';rw[e',hb5] at hi5;cases hi5
  have hb6':w6.heap[r]?=some (.map es clock):=by rw[f6.block r (ZB hb5) (by intro z hz;simp at hz;subst hz;exact hitne)];exact hb5
  refine Z5J (e:=e) (by rw[eTm,k6.get 24 (by omega),p24]) hi6 hb6' he hnb ?_;refine wC (Z0H (vs:=#[e.key,e.val]) (v:=e.key) (by rw[eTm,gQ]) rfl ?_);rw[wCo,wAg,eTm,gQ,wNi];generalize hb7:((a6.put (some 27) (.tuple #[e.key,e.val])).put (some 28) e.key).put (some 5) e.key=a7;have k7:Kept 5 a6 a7:=by subst hb7;exact ((Kept.put0 (by omega) _).pt).pt
  have q5:get a7 5=e.key:=by subst hb7;exact gQ
  have q24':get a7 24 = .pointer (some ⟨it,0,none⟩):=by subst hb7;rw[gR,gR,gR,k6.get 24 (by omega),p24]
  clear hb7;have hz7:=k7.size;have f06:Fr [] w w6:=f5.trans f6 (by intro z hz;simp at hz;subst hz;exact .inl (by simp only;omega));have hobit:ob ≠ it:=by omega
  have hcu6:=f6.cell hcu (.cons (.inl (by simp only;omega)) .nil);have hthu6:=f6.there hthu;have hou6:Own w6 (fun b=>w.heap.size≤b∧b < w6.heap.size∧b ≠ ob∧b ≠ it) 1 u L.length (L.map (·.key)) :=
    hou.kept f6 (by intro z hz hA';simp at hz;subst hz;exact absurd rfl hA'.2.2.2) (fun b h=>⟨h.1,by omega,h.2.2.1,h.2.2.2⟩)
  refine hK8 a7 w6 (tUp ?_);refine Z2 ?_;refine wC (Zn h146 (b:=ob) (o:=0) (by rw[eTm,k7.get 4 (by omega),k6.get 4 (by omega),p4]) hcu6 ?_);rw[wCo,wMw,eTm,gR,q5,wCo];have hkc:e.key.cells = #[e.key]:=by rw[(hkey e he).1];rfl
  refine Z4V (cs:=[e.key]) hs hz rfl (by omega) (by rw[eTm,gQ,hkc]) rfl ?_;intro _;have f7:=Fr.alloc [] w6 (.cells [e.key].toArray e59);have r7:=ZD w6 [e.key].toArray e59 (0,0);have sz7:=Zd w6 (.cells [e.key].toArray e59);generalize w6.alloc (.cells [e.key].toArray e59)=w7 at f7 r7 sz7 ⊢;have hou7:Own w7 (fun b=>w.heap.size≤b∧b < w7.heap.size∧b ≠ ob∧b ≠ it) 1 u L.length (L.map (·.key)) :=
    hou6.kept f7 (by simp) (fun b h=>⟨h.1,by omega,h.2.2.1,h.2.2.2⟩)
  have hLlt:L.length < es.size:=by
    have:=Z0W (l:=e.born::L.map (·.born)) (m:=es.toList.map (·.born)) (by rw[List.nodup_cons];exact ⟨by rw[← hseen];exact hns,hLn⟩) (fun b hb=>by
      rcases List.mem_cons.1 hb with rfl | hb
      · exact List.mem_map.2 ⟨e,he,rfl⟩
      · obtain ⟨e',he',rfl⟩:=List.mem_map.1 hb;exact List.mem_map.2 ⟨e',hLs e' he',rfl⟩)
    simp at this;omega
  have hess:es.size≤4294967296:=by rw[← Array.length_toList,hlen];exact hkl
  rw[wCo];refine Z3J (z:=[.int .u32 0]) (v:=u) (n:=L.length) (m:=1) (c:=1) (xs:=L.map (·.key)) (news:=[e.key]) (b:=w6.heap.size) (o:=0) hs hz rfl
    (by rw[eTm,gR,gR,gQ]) (by rw[eTm,gQ]) hou7 (by omega) rfl r7 (by intro z hz';simp at hz';subst hz';rw[(hkey e he).1];rfl)
    (by have:(L.length+1) * bs≤4294967296 * 16:=Nat.mul_le_mul (by omega) hbs;omega) (by simp only[maxLen];omega) ?_
  intro v' w8 f8 ho8 hbk;rw[wCo];have hspin:∀ z ∈ Z1 u 1,w.heap.size≤z.b∧z.b < w7.heap.size∧z.b ≠ ob∧z.b ≠ it:=hou7.spare_in;have sz8:=f8.size;have th8:w8.there ob 0 1:=f8.there (f7.there hthu6);refine Z0b h146 (b:=ob) (o:=0) (v:=v') (by rw[eTm,gR,gR,gR,gR,k7.get 4 (by omega),k6.get 4 (by omega),p4]) (by rw[eTm,gQ]) ho8.one th8 ?_;rw[pNo,wNi];have f9:=Fr.set w8 ob 0 v';have c9:=ZW (v:=v') th8;generalize w8.setCell ⟨ob,0,none⟩ v'=w9 at f9 c9 ⊢;have sz9:=f9.size;have hi9:w9.heap[it]?=some (.mapIter (some r) clock (seen.push e.born) clock):=by
    have hitl:=ZB hi6;rw[f9.block it (by omega) (by intro z hz';simp at hz';subst hz';exact hobit),f8.block it (by omega) (fun z hz'=>(hspin z hz').2.2.2),f7.block it hitl (by simp)];exact hi6
  have hseen':(seen.push e.born).toList=(L++[e]).map (·.born):=by rw[Array.toList_push,hseen];simp
  refine ⟨⟨L++[e],seen.push e.born,clock,v',by simp only[sPu];omega,by simp only[dPu];rw[k7.defers,k6.defers,hd5],?_,?_,?_,?_,?_,?_,hseen',hi9,Nat.le_refl _,c9,f9.there th8,?_,?_,?_⟩,?_⟩
  · rw[gR,gR,gR,gR,k7.get 0 (by omega),k6.get 0 (by omega),p0]
  · rw[gR,gR,gR,gR,k7.get 1 (by omega),k6.get 1 (by omega),p1]
  · rw[gR,gR,gR,gR,k7.get 4 (by omega),k6.get 4 (by omega),p4]
  · rw[gR,gR,gR,gR,q24']
  · rw [List.map_append, List.nodup_append];refine ⟨hLn, by simp, ?_⟩;intro b hb' c hc' e';simp at hc'
    subst hc' e';exact hns (by rw[hseen];exact hb')
  · intro e' he'
    rcases List.mem_append.1 he' with h | h
    · exact hLs e' h
    simp at h;subst h;exact he
  · have hobl:=Zz hcu6;have hitl:=ZB hi6;have s06:=f06.size;have s7:=f7.size;have:=ho8.kept (A':=fun b=>w.heap.size≤b∧b < w9.heap.size∧b ≠ ob∧b ≠ it) f9 (by
      intro z hz' hA' g' o' c' _ e';simp at hz';subst hz'
      rcases hA' with h | h
      · exact absurd rfl h.2.2.1
      · simp only at h;omega) (fun b h=>by
      rcases h with h | h
      · exact ⟨h.1,by omega,h.2.2.1,h.2.2.2⟩
      · exact ⟨by omega,by omega,by omega,by omega⟩)
    simpa using this
  · obtain ⟨_, h | ⟨g', o', c', _, hv', _⟩⟩ := ho8
    · omega
    exact ⟨g',o',c',by simpa using hv'⟩
  · refine ((f06.tr f7).trans f8 (fun z hz'=>.inl (hspin z hz').1)).trans f9 ?_;intro z hz';simp at hz';subst hz';exact .inl (by simp only;omega)
  rw[hi9,hi5];simp;omega
end Go.Kq

namespace Go.Kq
open Go Go.Proofs
def Z2j:List UInt8:=List.replicate 16 0
def Z3z (st:RSt):V × RSt:=(.s ((Z9 16 st).1.getD Z2j),(Z9 16 st).2)
theorem Z6l (st:RSt):((Z9 16 st).1.getD Z2j).length=16∧∀ y,(Z9 16 st).1=some y→y.length=16:=by
  unfold Z9
  split
  · simp[Z2j]
  rename_i h
  split
  · simp[Z2j]
  simp;omega
def zU:List Value:=Z0 Z2j
def rowB (P:Program) (t:TypeId) (z:List Value):Bool :=
  (match P.info? t with | some i=>(i.size==z.length) && (match i.zero with | some (.agg c)=>Z2I c.toList z | _=>false) | none=>false) &&
  (match P.underlying t with | some (.array n e)=>(n==z.length) && szIs P e 1 | _=>false)
structure RowT (P:Program) (t:TypeId) (z:List Value):Prop where
  zero:Z1O P t (.agg z.toArray)
  size:(P.info? t).map (·.size)=some z.length
  row:∃ e i,P.underlying t=some (.array z.length e)∧P.info? e=some i∧i.size=1
theorem Z7M {P:Program} {t:TypeId} {z:List Value} (h:rowB P t z=true):RowT P t z:=by
  simp only[rowB,Bool.and_eq_true] at h;obtain ⟨h1,h2⟩:=h;have h3:Z1O P t (.agg z.toArray)∧(P.info? t).map (·.size)=some z.length:=by
    cases hi:P.info? t with
    | none=>simp[hi] at h1
    | some i =>
      simp only[hi,Bool.and_eq_true,beq_iff_eq] at h1
      cases hz:i.zero with
      | none=>simp[hz] at h1
      | some v =>
        simp only[hz] at h1;obtain ⟨h0,h1⟩:=h1
        cases v <;> simp only[] at h1 <;> first | (simp at h1;done) | skip
        rename_i c
        have:=Z21 h1;refine ⟨⟨i,hi,?_⟩,by simp[h0]⟩;rw[hz,← this]
  refine ⟨h3.1,h3.2,?_⟩
  cases hu:P.underlying t with
  | none=>simp[hu] at h2
  | some d =>
    cases d <;> simp only[hu] at h2 <;> first | (simp at h2;done) | skip
    rename_i n e
    simp only[Bool.and_eq_true,beq_iff_eq] at h2;obtain ⟨i,h4,h5⟩:=Z4M h2.2;exact ⟨e,i,by rw[h2.1],h4,h5⟩
section
variable {P:Program} {a:Act} {w:World} {K:Act→World→Prop} {Q:Exit→Act→World→Prop} {d:Option Tmp} {t:TypeId} {p:String} {af:Array Edge} {g:Option (Nat × Bool)}
theorem Z1p {s:TypeId} {z:List Value} {x:Operand} {b o:Nat} {cs:List Value} (h:RowT P s z) (hl:cs.length=z.length) (hx:a.eval x = .pointer (some ⟨b,o,none⟩)) (hc:w.rangeAt b o cs)
    (k:K (a.put d (.agg cs.toArray)) w):OW P ⟨d,.load s x,t,p,af,g⟩ a w K Q:=by
  obtain ⟨_,hs,e,i,hu,_⟩:=h;exact ⟨wp_load_mid s x rfl b o hx cs _ hc hu rfl (by rw[hs,hl]) k⟩
theorem Z1B {s:TypeId} {z:List Value} {x y:Operand} {b o:Nat} {cs:List Value} (h:RowT P s z) (hl:cs.length=z.length) (hx:a.eval x = .pointer (some ⟨b,o,none⟩)) (hy:a.eval y = .agg cs.toArray)
    (h1:∀ u ∈ cs,u.oneCell'=true) (ht:w.there b o cs.length) (k:K (a.put d undef) (w.setCells b o cs)):OW P ⟨d,.store s x y,t,p,af,g⟩ a w K Q:=by
  constructor
  refine wp_store_mid s x y rfl b o cs.toArray hx hy (by simpa using ht) (by rw[h.size,← hl];simp) (by simpa using h1) ?_
  simpa using k
theorem Z3G {s:TypeId} {z:List Value} {x:Operand} {b o:Nat} (h:RowT P s z) (hx:a.eval x = .pointer (some ⟨b,o,none⟩)) (hz:0 < z.length)
    (k:K (a.put d (.slice (some ⟨b,o,none⟩) z.length z.length)) w):OW P ⟨d,.slice s x none none none,t,p,af,g⟩ a w K Q:=by
  obtain ⟨_,hs,e,i,hu,hi,hs1⟩:=h;have hz0:z.length ≠ 0:=by omega
  refine Zf (v:=.slice (some ⟨b,o,none⟩) z.length z.length) (w':=w) ?_ k;simp[execOp,hx,Instr.sliceAt,Instr.sureAddr,Instr.sliceBounds,run_underlying hu,sizeOf,typeInfo,hi,hs1,hz0,Z3E]
end
theorem Z5V {P:Program} {fn:Func} {t:Nat} {T:TypeId} {z:List Value} {a:Act} {w:World} {b o:Nat} {cs:List Value} (h:fn.results = #[.cell t T]) (hT:RowT P T z) (hl:cs.length=z.length) (ha:get a t = .pointer (some ⟨b,o,none⟩)) (hc:w.rangeAt b o cs) :
    (results fn a.tmps).run P w = .ok (.agg cs.toArray) w:=by
  obtain ⟨_,hs,e,i,hu,_⟩:=hT;have hr:=run_loadVar_mid (P:=P) w b o T cs _ hc hu rfl (by rw[hs,hl]);have ha':a.tmps[t]?.getD undef = .pointer (some ⟨b,o,none⟩):=by rw[← Array.getD_eq_getD_getElem?];exact ha
  simp only[results,h];simp[ha',asAddr,hr]
theorem RW.kept2 {w w':World} {rb sb:Nat} {st:RSt} {l:List Rng} (h:RW w rb sb st) (hf:Fr l w w') (hl:∀ r ∈ l,r.b ≠ rb) (hs:st.xs ≠ []→∀ r ∈ l,r.b ≠ sb):RW w' rb sb st:=by
  obtain ⟨h1,h2,sv,h3,h4⟩:=h;refine ⟨h1,hf.there h2,sv,hf.range h3 (fun r hr=>.inl (hl r hr)),?_⟩
  rcases h4 with h4 | ⟨h4,o,cap,h5,h6,h7⟩
  · exact .inl h4
  refine .inr ⟨h4,o,cap,h5,h6,?_⟩
  by_cases hx:st.xs=[]
  · rw[hx];intro j u hj;simp[Z0] at hj
  exact hf.range h7 (fun r hr=>.inl (hs hx r hr))
structure UuidM (P:Program) (f:FuncId):Prop where
  enters:Enters P f
  call:∀ w rb sb st,RW w rb sb st→Calls P f #[.pointer (some ⟨rb,0,none⟩)] w fun e w'=>e = .returned (.agg (Z0 ((Z9 16 st).1.getD Z2j)).toArray)∧RW w' rb sb (Z3z st).2∧Fr [⟨rb,0,2⟩] w w'
theorem Z1v (l:List UInt8):∀ u ∈ Z0 l,u.oneCell'=true:=by intro u hu;simp[Z0] at hu;obtain ⟨c,_,rfl⟩:=hu;rfl
set_option maxRecDepth 10000 in
theorem uuid_m {P:Program} {f:FuncId} {fn:Func} {et T22 T141:TypeId} {f279:FuncId} {a0:Array TypeId} {i0 i1 i2 i3:Nat}
    {t0 t1 t2 t3 t4 t5 t6 t7:TypeId} {p0 p1 p2 p3 p4 p5 p6 p7:String} {e0 e1 e2 e3 e4 e5 e6 e7:Array Edge}
    (hf:P.funcs[f]?=some fn) (hname:nG fn=false) (hres:fn.results = #[.cell 2 T141]) (hN:fn.ntmps=9)
    (hbody:fn.body=some (.seq (Code.region i0 ⟨[⟨some 2,.alloc T141,t0,p0,e0,none⟩]⟩ false) (.seq (Code.region i1 ⟨[⟨some 3,.alloc T141,t1,p1,e1,none⟩]⟩ false) (.seq (Code.region i2 ⟨[⟨some 4,.slice T141 (.tmp 3) none none none,t2,p2,e2,none⟩,
    oM 5 0 t3 p3 e3,
    oC 6 f279 #[(.tmp 5),(.const (.int .i64 16))] a0 t4 p4 e4,⟨some 7,.call ⟨.builtin .copy,#[(.tmp 4),(.tmp 6)],#[T22,T22]⟩,t5,p5,e5,none⟩]⟩ true) (.seq (Code.region i3 ⟨[oL 8 T141 3 t6 p6 e6,
    oS T141 2 8 t7 p7 e7]⟩ false) .ret)))))
    (he:Z0q 0 [e2,e3,e4,e5] [[],[],[1],[0,1,2]]=true) (hm:P.follows .mixedOrders=true)
    (hT:RowT P T141 zU) (h22:Z4 P T22 et 1 1=true) (hsp:Z4g P f279):UuidM P f:=by
  refine ⟨enters_of hf hname hbody,?_⟩;intro w rb sb st h;have hul:=Z6l st;have hrb:rb < w.heap.size:=by obtain ⟨q,cap,c0,_⟩:=h.slice;exact Zz c0
  refine calls_of_wp hf hbody ?_;generalize ha0:({ tmps:=#[Value.pointer (some ⟨rb,0,none⟩)]++Array.replicate (fn.ntmps - #[Value.pointer (some ⟨rb,0,none⟩)].size) undef,defers:=[] }:Act)=b0;have hsz:b0.tmps.size=9:=by subst ha0;simp[hN]
  have hd0:b0.defers=[]:=by subst ha0;rfl
  have g0:get b0 0 = .pointer (some ⟨rb,0,none⟩):=by subst ha0;exact gAr rfl
  refine wT fun K1 hK1=>?_;refine wC (Z0d hT.zero ?_);rw[wNi];have f1:=Fr.alloc [] w (.cells (Value.agg zU.toArray).cells T141);have th1:(w.alloc (.cells (Value.agg zU.toArray).cells T141)).there w.heap.size 0 16:=Zx w zU.toArray T141;have sz1:=Zd w (.cells (Value.agg zU.toArray).cells T141);generalize w.alloc (.cells (Value.agg zU.toArray).cells T141)=w1 at f1 th1 sz1 ⊢;have k1:Kept 2 b0 (b0.put (some 2) (.pointer (some ⟨w.heap.size,0,none⟩))):=Kept.put0 (by omega) _;have q2:get (b0.put (some 2) (.pointer (some ⟨w.heap.size,0,none⟩))) 2 = .pointer (some ⟨w.heap.size,0,none⟩):=gQ;generalize b0.put (some 2) (.pointer (some ⟨w.heap.size,0,none⟩))=b1 at k1 q2 ⊢;have hz1:=k1.size;refine hK1 b1 w1 (tUp ?_);refine wT fun K2 hK2=>?_;refine wC (Z0d hT.zero ?_);rw[wNi];have f2:=Fr.alloc [] w1 (.cells (Value.agg zU.toArray).cells T141);have th2:(w1.alloc (.cells (Value.agg zU.toArray).cells T141)).there w1.heap.size 0 16:=Zx w1 zU.toArray T141;have rg2:(w1.alloc (.cells (Value.agg zU.toArray).cells T141)).rangeAt w1.heap.size 0 zU:=ZD w1 zU.toArray T141 (0,0);have sz2:=Zd w1 (.cells (Value.agg zU.toArray).cells T141);generalize w1.alloc (.cells (Value.agg zU.toArray).cells T141)=w2 at f2 th2 rg2 sz2 ⊢;have k2:Kept 3 b1 (b1.put (some 3) (.pointer (some ⟨w1.heap.size,0,none⟩))):=Kept.put0 (by omega) _;have q3:get (b1.put (some 3) (.pointer (some ⟨w1.heap.size,0,none⟩))) 3 = .pointer (some ⟨w1.heap.size,0,none⟩):=gQ;generalize b1.put (some 3) (.pointer (some ⟨w1.heap.size,0,none⟩))=b2 at k2 q3 ⊢;have hz2:=k2.size;have g02:get b2 0 = .pointer (some ⟨rb,0,none⟩):=by rw[k2.get 0 (by omega),k1.get 0 (by omega),g0]
  have g22:get b2 2 = .pointer (some ⟨w.heap.size,0,none⟩):=by rw[k2.get 2 (by omega),q2]
  have hd2:b2.defers=[]:=by rw[k2.defers,k1.defers,hd0]
  have f02:Fr [] w w2:=f1.tr f2;have h2:RW w2 rb sb st:=h.kept f02 (by simp);refine hK2 b2 w2 (tUp ?_);refine tId (wp_seq_k fun K3 hK3=>?_);refine wp_drawE (os:=[⟨some 4,.slice T141 (.tmp 3) none none none,t2,p2,e2,none⟩,oM 5 0 t3 p3 e3,oC 6 f279 #[(.tmp 5),(.const (.int .i64 16))] a0 t4 p4 e4])
    [spC [] (.slice (some ⟨w1.heap.size,0,none⟩) 16 16),spC [] (.pointer (some ⟨rb,0,none⟩)),spW [1] (fun v w'=>Octs w' (·=sb) v (Z9 16 st).1∧RW w' rb sb (Z9 16 st).2)] 4 [⟨rb,0,2⟩] hm he (by simp[Z0R]) rfl (by simp[spC,spW]) (by simp;omega)
    ⟨lCc _ _ _,lCc _ _ _,?_,trivial⟩ ?_ ?_
  · rintro v w1 w2 hf12 ⟨h1,h2⟩;have hf12:Fr [] w1 w2:=hf12;exact ⟨h1.kept hf12 (by simp) (fun _ h=>h),h2.kept hf12 (by simp)⟩
  · refine ⟨op_c fun a' w' hk' hf' hd' K' hK' => ?_, op_c fun a' w' hk' hf' hd' K' hK' => ?_, op_w0 fun a' w' hk' hf' hd' K' hK' => ?_, trivial⟩
    · exact Z3G hT (by rw[eTm,hk'.get 3 (by omega),q3]) (by simp[zU,Z2j,Z0]) hK'
    · rw[wMw,eTm,hk'.get 0 (by omega),g02];exact hK'
    have h1:get a' 5 = .pointer (some ⟨rb,0,none⟩):=hd'.c (nd':=[]) 1 (by simp) rfl
    refine Ze (R:=fun v w2=>(Octs w2 (·=sb) v (Z9 16 st).1∧RW w2 rb sb (Z9 16 st).2)∧Fr [⟨rb,0,2⟩] w' w2) hsp.enters (vs:=#[.pointer (some ⟨rb,0,none⟩),.int .i64 16]) (by simp only[List.map_toArray,List.map_cons,List.map_nil,eTm,eCo];rw[h1])
      ((hsp.call w' rb sb st 16 (h2.kept hf' (by simp))).mono (by rintro e' w' ⟨x,rfl,h1,h2,h3⟩;exact ⟨_,rfl,⟨h1,h2⟩,h3⟩)) (fun x' w2 h=>hK' x' w2 h.1 h.2)
  intro b3 w3 hk3 hf3 hd3
  obtain ⟨ho3,hr3⟩:Octs w3 (·=sb) (get b3 6) (Z9 16 st).1∧RW w3 rb sb (Z9 16 st).2:=hd3.at (d:=2) (by simp) rfl;have hs4:get b3 4 = .slice (some ⟨w1.heap.size,0,none⟩) 16 16:=hd3.c (nd':=[]) 0 (by simp) rfl;have hz3:=hk3.size;have sz3:=hf3.size;have hne:∀ r ∈ [(⟨rb,0,2⟩:Rng)],r.b ≠ w1.heap.size:=by intro r hr;simp at hr;subst hr;simp only;have:=f1.size;omega
  have th3:w3.there w1.heap.size 0 16:=hf3.there th2;have rg3:w3.rangeAt w1.heap.size 0 zU:=hf3.range rg2 (fun r hr=>.inl (hne r hr));have f03:Fr [⟨rb,0,2⟩] w w3:=f02.nil.tr hf3
  -- what the copy does
  have hcopy:∀ (K':Act→World→Prop) (Q':Exit→Act→World→Prop),(∀ w4,Fr [⟨w1.heap.size,0,16⟩] w3 w4→w4.rangeAt w1.heap.size 0 (Z0 ((Z9 16 st).1.getD Z2j))→∀ v,K' (b3.put (some 7) v) w4)→OW P ⟨some 7,.call ⟨.builtin .copy,#[(.tmp 4),(.tmp 6)],#[T22,T22]⟩,t5,p5,e5,none⟩ b3 w3 K' Q':=by
    intro K' Q' hK';obtain ⟨hu,i,z0,hi,hs,hby,hzz,hsz0⟩:=Zu h22;have hs1:(P.info? et).map (·.size)=some 1:=by simp[hi,hs]
    rcases ho3 with ⟨hv,hn⟩ | ⟨b,o,cap,l,rfl,hv,hc,hr,hl⟩
    · rw[hn] at hK';have hr:=run_copy_none (P:=P) w3 T22 T22 t5 et (some ⟨w1.heap.size,0,none⟩) none 16 16 0 0 hu hs1 rfl;refine Zf (v:=goInt 0) (w':=w3) ?_ (hK' w3 (Fr.refl _ _) rg3 _);simp only[execOp,resolve,invoke,builtin,eTm,List.map_toArray,List.map_cons,List.map_nil,hs4,hv,hr,Sem.run_bind,Result.andThen_ok,Sem.run_pure]
    have hl16:=hul.2 l hl;rw[hl] at hK';have hol:(Z0 l).length=16:=by rw[lOc,hl16]
    have hr':=run_copy_cells (P:=P) w3 T22 T22 t5 et w1.heap.size 0 16 16 ⟨b,o,none⟩ l.length cap (Z0 l) hu hs1 (by rw[hol,hl16];rfl) (fun j v hj=>by rw[Addr.add_mid];exact hr j v hj)
      (fun j hj=>by have:=(th3 j (by omega)).1;exact this) (fun j hj=>(th3 j (by omega)).2) (Z1v l)
    have fs:=Fr.sets w1.heap.size (Z0 l) w3 0;have rs:=World.rangeAt_setCells_same w3 w1.heap.size 0 (Z0 l) (by rw[hol];exact th3);rw[hol] at fs;refine Zf (v:=goInt (Z0 l).length) (w':=w3.setCells w1.heap.size 0 (Z0 l)) ?_ (hK' _ fs rs _);simp only[execOp,resolve,invoke,builtin,eTm,List.map_toArray,List.map_cons,List.map_nil,hs4,hv,hr',Sem.run_bind,Result.andThen_ok,Sem.run_pure]
  refine hcopy _ _ fun w4 f4 rg4 v=>?_;have k4:Kept 4 b2 (b3.put (some 7) v):=hk3.put (by omega) _;generalize b3.put (some 7) v=b4 at k4 ⊢;have hz4:=k4.size;have sz4:=f4.size;refine hK3 b4 w4 (tUp ?_);have ho16:(Z0 ((Z9 16 st).1.getD Z2j)).length=16:=by rw[lOc,hul.1]
  generalize hoc:Z0 ((Z9 16 st).1.getD Z2j)=oc at *;have hoc1:∀ u ∈ oc,u.oneCell'=true:=by rw[← hoc];exact Z1v _
  refine wT fun K5 hK5=>?_;refine wC (Z1p hT (cs:=oc) (b:=w1.heap.size) (o:=0) (by rw[ho16];rfl) (by rw[eTm,k4.get 3 (by omega),q3]) rg4 ?_);rw[wCo];have hne1:∀ r ∈ [(⟨w1.heap.size,0,16⟩:Rng)],r.b ≠ w.heap.size:=by intro r hr;simp at hr;subst hr;simp only;omega
  have th4:w4.there w.heap.size 0 16:=f4.there (hf3.there (f2.there th1));refine Z1B hT (cs:=oc) (b:=w.heap.size) (o:=0) (by rw[ho16];rfl) (by rw[eTm,gR,k4.get 2 (by omega),g22]) (by rw[eTm,gQ]) hoc1 (by rw[ho16];exact th4) ?_;rw[pNo,wNi];have f5:=Fr.sets w.heap.size oc w4 0;have rg5:=World.rangeAt_setCells_same w4 w.heap.size 0 oc (by rw[ho16];exact th4);generalize w4.setCells w.heap.size 0 oc=w5 at f5 rg5 ⊢;refine hK5 _ w5 (wp_ret ?_);have f35:Fr [] w w5∨True:=.inr trivial;have hf45:Fr [⟨w1.heap.size,0,16⟩,⟨w.heap.size,0,0+oc.length⟩] w3 w5:=by
    refine (f4.mono (l':=[⟨w1.heap.size,0,16⟩,⟨w.heap.size,0,0+oc.length⟩]) ?_).trans f5 ?_
    · intro r hr;simp at hr;subst hr;exact Rng.in_self (by simp)
    intro r hr;simp at hr;subst hr;exact .inr ⟨⟨w.heap.size,0,0+oc.length⟩,by simp,rfl,by simp,by simp⟩
  refine ⟨by simp only[dPu];rw[k4.defers,hd2],_,Z5V hres hT (by rw[ho16];rfl) (by rw[gR,k4.get 2 (by omega),g22]) rg5,rfl,?_,?_⟩
  · have hw3:w3.heap.size≤w5.heap.size:=hf45.size;have hsbw:(Z9 16 st).2.xs ≠ []→sb < w.heap.size:=fun hx=>by
      have hne:st.xs ≠ []:=by
        intro e;apply hx;unfold Z9;rw[e];simp[RSt.fail]
      obtain ⟨_,_,_,_,_,_,_,hs,_⟩:=h.some hne;exact hs
    exact RW.kept2 hr3 hf45 (by intro r hr;simp at hr;rcases hr with rfl | rfl <;> simp only <;> omega) (by
      intro hx r hr;have:=hsbw hx;simp at hr;rcases hr with rfl | rfl <;> simp only <;> omega)
  refine f03.trans hf45 ?_;intro r hr;simp at hr
  rcases hr with rfl | rfl
  · exact .inl (by simp only;omega)
  exact .inl (Nat.le_refl _)
variable {P:Program} {TT TL S Tf Ti et:TypeId} {N sv st m n k o kf id:Nat}
end Go.Kq

namespace Go.Kq
open Go Go.Proofs Go.Shelf
def ltN (x y:Nat):Bool:=decide (x < y)
theorem swo_ltN:Sort.SWO ltN where
  irrefl x:=by simp[ltN]
  trans x y z h1 h2:=by simp only[ltN,decide_eq_true_eq] at *;omega
  ntrans x y z h1 h2:=by simp only[ltN,decide_eq_false_iff_not] at *;omega
theorem Fr.growth (w:World) (os:Array Obj):Fr [] w (Sort.grow w os) where
  os:=rfl
  tape:=rfl
  output:=rfl
  size:=by rw[Sort.size_grow];omega
  block k hk _:=Sort.heap_grow_old w os hk
  cells k cs T fz hk:=⟨cs,by rw[Sort.heap_grow_old w os (ZB hk)];exact hk,rfl,fun _ _=>rfl⟩
theorem Fr.drewN (w:World) (n:Nat):Fr [] w (w.drewN n) where
  os:=rfl
  tape:=rfl
  output:=rfl
  size:=Nat.le_refl _
  block _ _ _:=rfl
  cells k cs T fz hk:=⟨cs,hk,rfl,fun _ _=>rfl⟩
structure LessM (P:Program) (g:FuncId):Prop where
  enters:Enters P g
  call:∀ (W:World) (ob b o c n:Nat) (G:Nat→Nat),W.cell? ⟨ob,0,none⟩=some (.slice (some ⟨b,o,none⟩) n c)→(∀ t,t < n→W.cell? ⟨b,o+t,none⟩=some (.int .u32 ((G t:Nat):Int)))→∀ i j:Nat,i < n→j < n →
    Calls P g #[.int .i64 (i:Int),.int .i64 (j:Int),.pointer (some ⟨ob,0,none⟩)] W fun e w'=>e = .returned (.bool (decide (G i < G j)))∧∃ q,w'=W.drewN q
def encK (k:Nat):Value:=.int .u32 (k:Int)
theorem u32s_enc (ks:List Nat):u32s ks=ks.map encK:=rfl
theorem sort_m {P:Program} {ρ:Ren} (L:LaysGg.n6 P ρ) {t e:TypeId} {i ie:TypeInfo} {fs g f2 f6:FuncId} (hfs:ρ.f 6=fs) (he:Enters P fs)
    (hi:P.info? t=some i) (hd:i.desc = .slice e) (hpk:P.packed t=false) (hie:P.info? e=some ie) (hke:∀ w,(Extern.Rtype.kind e).run P w = .ok 10 w) (hs1:ie.size=1) (hp:ie.hasPointers=false) (hb:ie.bytes=4) (hagg:∀ w,(isAgg e).run P w = .ok false w)
    (hf2:P.funcs.findIdx? (·.name == "internal/reflectlite" ++ ".Swapper$"++toString 2)=some f2) (hf6:P.funcs.findIdx? (·.name == "internal/reflectlite" ++ ".Swapper$"++toString 6)=some f6)
    (gS:Bool) (hx:∀ args W,(callFunc f6 args).run P W=((Extern.ReflectliteSwapper.swap gS args).run P W).andThen fun v w'=>.ok (.value v) w')
    (hl:LessM P g):SortM P t fs g:=by
  refine ⟨he,?_⟩;intro w ob b o c ks hcell hr hth hne h32 hlen hks;subst hfs;have hpos:0 < ks.length:=List.length_pos_iff.2 hks;have hblk:b < w.heap.size:=by
    have:=hr 0 (.int .u32 (ks[0]:Nat)) (by simp[u32s,hpos]);exact Zz this
  have hH:Sort.Holds encK w b o ks.toArray:=by
    intro j hj;have hj':j < ks.length:=by simpa using hj
    refine ⟨?_,(hth j hj').2⟩;have:=hr j (.int .u32 (ks[j]:Nat)) (by simp[u32s,hj']);rw[this];simp[encK,hj']
  by_cases h2:2≤ks.length
  · have hK:Lib.swapperK ks.toArray.size ie 10=6:=by
      have c1:(ks.toArray.size==0)=false:=by simp;omega
      have c2:(ks.toArray.size==1)=false:=by simp;omega
      simp only[Lib.swapperK,c1,c2,hp,hb,Bool.false_and,Bool.false_eq_true,if_false]
    have hless:LessReads P g #[.pointer (some ⟨ob,0,none⟩)] encK ltN b o ks.toArray.size w:=by
      intro m os dk hs i j hi hj;have e1:sortWorld encK w b o m dk os=Sort.putRow encK (Sort.grow (Sort.ahead w m) os) b o dk:=by
        unfold sortWorld;rw[Sort.putRow_grow _ (Sort.ahead w m) _ b o _ hblk]
      have hHg:Sort.Holds encK (Sort.grow (Sort.ahead w m) os) b o ks.toArray:=Sort.holds_grow _ _ _ b o _ hblk (Sort.holds_ahead _ _ _ _ _ _ hH);rw[show (#[Value.int .i64 (i:Int),Value.int .i64 (j:Int)] ++ #[Value.pointer (some ⟨ob,0,none⟩)]) = #[Value.int .i64 (i:Int),Value.int .i64 (j:Int),Value.pointer (some ⟨ob,0,none⟩)] from by simp];refine hl.call _ ob b o c ks.toArray.size (fun t=>dk[t]!) ?_ (fun t ht=>?_) i j hi hj
      · rw [e1, Sort.cell?_putRow_other _ _ b o dk _ (Or.inl hne), Sort.cell?_grow _ _ _ (Zz hcell)];show w.cell? _ = _
        rw[hcell];simp
      rw[e1];exact Sort.cell?_putRow _ _ b o ks.toArray dk hHg hs t (by omega)
    have hS:=Any.sort_Slice_sorted L t e i ie hi hd hpk hie 10 hke hs1 hagg encK (fun _=>rfl) ltN swo_ltN g #[.pointer (some ⟨ob,0,none⟩)] hl.enters b o c ks.toArray (by simpa using h2) (by simp;omega) f6 (by rw[hK];exact hf6) gS hx w hless hH hblk;have hsz:ks.toArray.size=ks.length:=by simp
    rw[hsz] at hS;refine hS.mono ?_;rintro e w' ⟨rfl,d',n,os,hpm,hso,rfl⟩;obtain ⟨p1,_,p3⟩:=hpm;have p1':d'.size=ks.length:=by rw[p1,hsz]
    have hperm:d'.toList.Perm ks:=by
      have e1:d'.extract 0 ks.length=d':=by rw[← p1'];simp
      have e2:ks.toArray.extract 0 ks.length=ks.toArray:=by rw[← hsz];simp
      rw[e1,e2] at p3
      simpa using p3
    have hw:Sort.grow (Sort.putRow encK (Sort.ahead w n) b o d') os=Sort.grow ((w.drewN n).setCells b o (u32s d'.toList)) os:=by
      have:=Lib.sorted_world encK w b o n ks.toArray d'.toList os hH (by rw[Array.length_toList,p1]);rw[Array.toArray_toList] at this;rw[this,u32s_enc]
    rw[hw];have f1:=Fr.drewN w n;have f2:=Fr.sets b (u32s d'.toList) (w.drewN n) o;have hul:(u32s d'.toList).length=ks.length:=by simp[u32s,p1']
    have r2:=World.rangeAt_setCells_same (w.drewN n) b o (u32s d'.toList) (by rw[hul];exact f1.there hth);generalize (w.drewN n).setCells b o (u32s d'.toList)=w2 at f2 r2 ⊢;have f3:=Fr.growth w2 os;refine ⟨⟨_,rfl⟩,d'.toList,hperm,?_,f3.range r2 .nil,?_⟩
    · rw [List.pairwise_iff_getElem];intro i j hi hj hij;have hi' : i < d'.size := by simpa using hi
      have hj':j < d'.size:=by simpa using hj
      have:=hso i j (Nat.zero_le _) hij (by omega);simp only[ltN,decide_eq_false_iff_not,getElem!_pos d' i hi',getElem!_pos d' j hj'] at this;simp only[Array.getElem_toList];omega
    refine (f1.nil (l:=[⟨b,o,o+ks.length⟩])).tr (Fr.tr (b:=w2) ?_ (f3.nil));rw[hul] at f2;exact f2
  have h1:ks.length=1:=by omega
  have hK:Lib.swapperK ks.length ie 10=2:=by rw[h1];rfl
  refine (Any.sort_Slice_tiny L t e i ie hi hd hpk hie 10 hke (some ⟨b,o,none⟩) ks.length c (by omega) f2 (by rw[hK];exact hf2) (.func g) #[] #[.pointer (some ⟨ob,0,none⟩)] w).mono ?_;rintro e w' ⟨rfl,os,rfl⟩;have f3:=Fr.growth w os;refine ⟨⟨_,rfl⟩,ks,List.Perm.refl _,?_,f3.range hr .nil,f3.nil⟩;obtain ⟨k,rfl⟩:=List.length_eq_one_iff.1 h1;simp
end Go.Kq

namespace Go.Kq
open Go Go.Proofs
theorem Reps.set {w:World} {A:Nat→Prop}:∀ {tys:List Ty} {z:List Value} {xs:List V} {i:Nat} {ty:Ty} {v:Value} {x:V},Reps w A tys z xs→tys[i]?=some ty→ty.size=1→Rep w A ty [v] x →
    Reps w A tys (z.set (Ty.sizes (tys.take i)) v) (xs.set i x)
  | [],z,xs,i,ty,v,x,_,hi,_,_=>by simp at hi
  | t :: ts, z, xs, i, ty, v, x, h, hi, h1, hx => by
    obtain ⟨c1,c2,y,r,rfl,rfl,h2,h3⟩:=h;have hl:=h2.length
    cases i with
    | zero =>
      simp at hi;subst hi
      rw[h1] at hl;obtain ⟨c,rfl⟩:=List.length_eq_one_iff.1 hl;exact ⟨[v],c2,x,r,rfl,rfl,hx,h3⟩
    | succ i =>
      have hr:=Reps.set h3 (by simpa using hi) h1 hx;refine ⟨c1,c2.set (Ty.sizes (ts.take i)) v,y,r.set i x,?_,rfl,h2,hr⟩;rw[List.take_succ_cons,show Ty.sizes (t::ts.take i)=t.size+Ty.sizes (ts.take i) from rfl,← hl,List.set_append_right _ _ (by omega)]
      congr 2;omega
theorem Reps.setLt {w:World} {A:Nat→Prop}:∀ {tys:List Ty} {z:List Value} {xs:List V} {i:Nat} {ty:Ty},Reps w A tys z xs→tys[i]?=some ty→ty.size=1→Ty.sizes (tys.take i) < z.length
  | [],z,xs,i,ty,_,hi,_=>by simp at hi
  | t :: ts, z, xs, i, ty, h, hi, h1 => by
    obtain ⟨c1,c2,y,r,rfl,rfl,h2,h3⟩:=h;have hl:=h2.length
    cases i with
    | zero=>simp at hi;subst hi;simp[Ty.sizes];omega
    | succ i =>
      have hr:=Reps.setLt h3 (by simpa using hi) h1;rw[List.take_succ_cons,show Ty.sizes (t::ts.take i)=t.size+Ty.sizes (ts.take i) from rfl,List.length_append];omega
def DRun (P:Program) (N:Nat) (c:Code) (tys:List Ty) (d:List V→List V):Prop :=
  ∀ (Q : Exit → Act → World → Prop) (a : Act) (w : World) (b o : Nat) (z : List Value) (xs : List V), a.tmps.size = N → a.defers = [] → get a 0 = .pointer (some ⟨b, o, none⟩) → w.rangeAt b o z → w.there b o z.length → Reps w ZU tys z xs →
    (∀ a' w' z',a'.tmps.size=N→a'.defers=[]→get a' 0 = .pointer (some ⟨b,o,none⟩)→z'.length=z.length→w'.rangeAt b o z'→w'.there b o z.length→Reps w' ZU tys z' (d xs)→Fr [⟨b,o,o+z.length⟩] w w'→Q .normal a' w')→c.wp P Q a w
theorem Z5W {w:World} {b o i:Nat} {z:List Value} {v:Value} (hr:w.rangeAt b o z) (ht:w.there b o z.length) (hi:i < z.length):(w.setCell ⟨b,o+i,none⟩ v).rangeAt b o (z.set i v):=by
  have f:=Fr.set w b (o+i) v;intro j u hj
  by_cases hij:i=j
  · subst hij;rw [List.getElem?_set_self hi] at hj;simp at hj; subst hj
    exact ZW (Z8 ht (by omega) (by omega))
  rw[List.getElem?_set_ne hij] at hj;exact f.cell (hr j u hj) (.cons (.inr (by simp only;omega)) .nil)
theorem DRun.one {P:Program} {N n k o i i1:Nat} {S T:TypeId} {v:Value} {x:V} {ty:Ty} {tys:List Ty} {t1 t2 t3 t4:TypeId} {p1 p2 p3 p4:String} {e1 e2 e3 e4:Array Edge}
    (hF:Zt P S k o=true) (hT:scal P T=true) (hi:tys[i]?=some ty) (h1:ty.size=1) (ho:o=Ty.sizes (tys.take i)) (hv:v.oneCell'=true) (hx:∀ w,Rep w ZU ty [v] x) (hb:(decide (0 < n) && decide (n+2 < N))=true) :
    DRun P N (Code.region i1 ⟨[oM n 0 t1 p1 e1,⟨some (n+1),.nilCheck (.tmp n),t2,p2,e2,none⟩,oF (n+2) S (n+1) k t3 p3 e3,⟨none,.store T (.tmp (n+2)) (.const v),t4,p4,e4,none⟩]⟩ false) tys (fun xs=>xs.set i x):=by
  intro Q a w b ob z xs hN hd h0 hz ht hr hk;simp only[Bool.and_eq_true,decide_eq_true_eq] at hb;obtain ⟨b1,b2⟩:=hb;have hlt:=hr.setLt hi h1;subst ho;refine Z2 ?_;rw[wCo,wMw,eTm,h0,wCo];refine wNc (q:=⟨b,ob,none⟩) (by rw[eTm,gQ]) ?_;refine wC (wFa (b:=b) (i:=ob) hF (by rw[eTm,gQ]) ?_);refine wC (Z0b hT (b:=b) (o:=ob+Ty.sizes (tys.take i)) (v:=v) (by rw[eTm,gQ]) rfl hv (Z8 ht (by omega) (by omega)) ?_);rw[pNo,wNi];have f:=Fr.set w b (ob+Ty.sizes (tys.take i)) v;have rg:=Z5W (v:=v) hz ht hlt;have hr':=(hr.set hi h1 (hx w)).kept f (by intro r _ h;exact h) (fun _ h=>h);generalize w.setCell ⟨b,ob+Ty.sizes (tys.take i),none⟩ v=w1 at f rg hr' ⊢;refine hk _ w1 _ (by simp only[sPu];omega) (by simp only[dPu];exact hd) (by rw[gR,gR,gR,h0]) (by simp) rg (f.there ht) hr' (f.mono ?_);intro r hrr;simp at hrr;subst hrr;exact .inr ⟨_,List.mem_singleton.2 rfl,rfl,by simp,by simp only;omega⟩
theorem DRun.cons {P:Program} {N:Nat} {c c':Code} {tys:List Ty} {d d':List V→List V} (h:DRun P N c tys d) (h':DRun P N c' tys d'):DRun P N (.seq c c') tys (fun xs=>d' (d xs)):=by
  intro Q a w b o z xs hN hd h0 hz ht hr hk;refine tId (wp_seq_k fun K1 hK1=>?_);refine h _ a w b o z xs hN hd h0 hz ht hr fun a1 w1 z1 s1 d1 g1 l1 r1 t1 e1 f1=>hK1 a1 w1 (tUp ?_);refine h' _ a1 w1 b o z1 _ s1 d1 g1 r1 (by rw[l1];exact t1) e1 fun a2 w2 z2 s2 d2 g2 l2 r2 t2 e2 f2=>?_;rw[l1] at t2 f2;exact hk a2 w2 z2 s2 d2 g2 (l2.trans l1) r2 t2 e2 (f1.tr f2)
theorem def_sets {P:Program} {f:FuncId} {fn:Func} {N:Nat} {c:Code} {tys:List Ty} {d:List V→List V} (hf:P.funcs[f]?=some fn) (hname:nG fn=false) (hr:fn.results = #[]) (hN:fn.ntmps=N) (hN0:(decide (0 < N))=true) (hb:fn.body=some c) (h:DRun P N c tys d):DefM P f tys d:=by
  have hN0:=of_decide_eq_true hN0;refine ⟨enters_of hf hname hb,?_⟩;intro w b o z xs hz ht hr';refine calls_of_wp hf hb ?_;generalize ha0:({ tmps:=#[Value.pointer (some ⟨b,o,none⟩)]++Array.replicate (fn.ntmps - #[Value.pointer (some ⟨b,o,none⟩)].size) undef,defers:=[] }:Act)=a0;have hsz:a0.tmps.size=N:=by subst ha0;simp[hN];omega
  have hd0:a0.defers=[]:=by subst ha0;rfl
  have g0:get a0 0 = .pointer (some ⟨b,o,none⟩):=by subst ha0;exact gAr rfl
  refine h _ a0 w b o z xs hsz hd0 g0 hz ht hr' fun a' w' z' _ d' _ _ r' _ e' f'=>?_;exact ⟨d',.tuple #[],by simp[results,hr],_,rfl,⟨z',r',e'⟩,f'⟩
end Go.Kq

namespace Go.Kq
open Go Go.Proofs
section
variable {P:Program} {a:Act} {w:World} {K:Act→World→Prop} {Q:Exit→Act→World→Prop} {d:Option Tmp} {t:TypeId} {p:String} {af:Array Edge} {g:Option (Nat × Bool)}
theorem wMv {x:Operand} {v:Value} (hx:a.eval x=v) (k:K (a.put d v) w):OW P ⟨d,.move x,t,p,af,g⟩ a w K Q:=by rw[wMw,hx];exact k
theorem wAs {x:Operand} {v:Value} (hx:a.eval x=v) (k:K (a.put d v) w):OW P ⟨d,.assign x,t,p,af,g⟩ a w K Q:=by rw[wAg,hx];exact k
theorem lt_sz {a:Act} {N d:Nat} (h:a.tmps.size=N) (hd:d < N):d < a.tmps.size:=h ▸ hd
theorem wEn {K:Act→World→Prop} (h:∀ a',a'=a→K a' w):wpl P (Exit.then K Q) [] a w:=h a rfl
theorem wEk {a0:Act} {N:Nat} {l:List Deferred} {K:Act→World→Prop} (hz:a0.tmps.size=N) (hd:a0.defers=l) (k:∀ a',a'=a→a'.tmps.size=N→a'.defers=l→K a' w) (hp:a.tmps.size=a0.tmps.size:=by (repeat first | rw[sPu] | rw[pNo]);try rfl) (hq:a.defers=a0.defers:=by (repeat first | rw[dPu] | rw[pNo]);try rfl):wpl P (Exit.then K Q) [] a w:=wEn fun a' h=>k a' h (kS h hz hp) (kD h hd hq)
theorem Zj {id:Nat} {c:Code} {K:Act→World→Prop} (h:c.wp P (Exit.then K (Exit.inBlock id (Exit.then K Q))) a w):(Code.block id c).wp P (Exit.then K Q) a w :=
  wp_block (wp_mono h fun _ _ _=>Z0a)
theorem wCr {f:FuncId} {xs:Array Operand} {ts:Array TypeId} {vs:Array Value} {R:Value→World→Prop} (he:Enters P f) (hx:xs.map a.eval=vs)
    (hc:Calls P f vs w fun e w'=>∃ v,e = .returned v∧R v w') (k:∀ v w',R v w'→K (a.put d v) w'):OW P ⟨d,.call ⟨.value (.func f),xs,ts⟩,t,p,af,g⟩ a w K Q:=Ze he hx hc k
variable {s u:TypeId} {x y:Operand} {k1:IntKind} {i j:Int}
theorem Z1g (h:i < j) (hx:a.eval x = .int k1 i) (hy:a.eval y = .int k1 j) (k:K (a.put d (.bool true)) w):OW P ⟨d,.binOp .lss s x y u,t,p,af,g⟩ a w K Q:=Z0g hx hy (by rw[decide_eq_true h];exact k)
theorem Z1h (h:¬ i < j) (hx:a.eval x = .int k1 i) (hy:a.eval y = .int k1 j) (k:K (a.put d (.bool false)) w):OW P ⟨d,.binOp .lss s x y u,t,p,af,g⟩ a w K Q:=Z0g hx hy (by rw[decide_eq_false h];exact k)
theorem wp_gtrF (h:¬ i > j) (hx:a.eval x = .int k1 i) (hy:a.eval y = .int k1 j) (k:K (a.put d (.bool false)) w):OW P ⟨d,.binOp .gtr s x y u,t,p,af,g⟩ a w K Q:=Z2m hx hy (by rw[decide_eq_false h];exact k)
theorem Z7r (h:i≤j) (hx:a.eval x = .int k1 i) (hy:a.eval y = .int k1 j) (k:K (a.put d (.bool true)) w):OW P ⟨d,.binOp .leq s x y u,t,p,af,g⟩ a w K Q:=Z4Z hx hy (by rw[decide_eq_true h];exact k)
theorem wp_leqF (h:¬ i≤j) (hx:a.eval x = .int k1 i) (hy:a.eval y = .int k1 j) (k:K (a.put d (.bool false)) w):OW P ⟨d,.binOp .leq s x y u,t,p,af,g⟩ a w K Q:=Z4Z hx hy (by rw[decide_eq_false h];exact k)
theorem Z2r (h:i≥j) (hx:a.eval x = .int k1 i) (hy:a.eval y = .int k1 j) (k:K (a.put d (.bool true)) w):OW P ⟨d,.binOp .geq s x y u,t,p,af,g⟩ a w K Q:=Z2F hx hy (by rw[decide_eq_true h];exact k)
theorem Z38 (h:¬ i≥j) (hx:a.eval x = .int k1 i) (hy:a.eval y = .int k1 j) (k:K (a.put d (.bool false)) w):OW P ⟨d,.binOp .geq s x y u,t,p,af,g⟩ a w K Q:=Z2F hx hy (by rw[decide_eq_false h];exact k)
theorem Z11 (h:i=j) (hx:a.eval x = .int k1 i) (hy:a.eval y = .int k1 j) (k:K (a.put d (.bool true)) w):OW P ⟨d,.binOp .eql s x y u,t,p,af,g⟩ a w K Q:=Z0i hx hy (by rw[beq_iff_eq.2 h];exact k)
theorem ZQ (h:¬ i=j) (hx:a.eval x = .int k1 i) (hy:a.eval y = .int k1 j) (k:K (a.put d (.bool false)) w):OW P ⟨d,.binOp .eql s x y u,t,p,af,g⟩ a w K Q:=Z0i hx hy (by rw[beq_eq_false_iff_ne.2 h];exact k)
theorem wp_mul {x y:Operand} (hx:a.eval x = .int k1 i) (hy:a.eval y = .int k1 j) (k:K (a.put d (.int k1 (k1.wrap (i * j)))) w) :
    OW P ⟨d,.binOp .mul s x y u,t,p,af,g⟩ a w K Q:=Zf (by simp[execOp,hx,hy,eqGuard,binOp,Op.intArith]) k
theorem Z08 {x y:Operand} {k2:IntKind} {n:Nat} (hx:a.eval x = .int k1 i) (hy:a.eval y = .int k2 n) (hn:n≤k1.bits) (k:K (a.put d (.int k1 (i / (2 ^ n:Nat)))) w) :
    OW P ⟨d,.binOp .shr s x y u,t,p,af,g⟩ a w K Q:=by
  have hr:(Op.shift .shr k1 i k2 (n:Int)).run P w = .ok (.int k1 (i / (2 ^ n:Nat))) w:=by
    unfold Op.shift;rw[if_neg (by omega)]
    have : i.fdiv (2 ^ n) = i / ((2 ^ n : Nat) : Int) := by rw [Int.fdiv_eq_ediv_of_nonneg]; · simp
                                                            · exact Int.le_of_lt (Int.pow_pos (by omega))
    simp[Nat.min_eq_left hn,this]
  have hb:(binOp .shr s (.int k1 i) (.int k2 (n:Int))).run P w = .ok (.int k1 (i / (2 ^ n:Nat))) w:=by
    simp only[binOp];exact hr
  exact Zf (by simp[execOp,hx,hy,eqGuard,hb]) k
theorem Z0U {x y:Operand} (hx:a.eval x = .int k1 i) (hy:a.eval y = .int k1 j) (k:K (a.put d (.int k1 (bits .and k1 i j))) w) :
    OW P ⟨d,.binOp .and s x y u,t,p,af,g⟩ a w K Q:=by
  have hr:(binOp .and s (.int k1 i) (.int k1 j)).run P w = .ok (.int k1 (bits .and k1 i j)) w:=by
    simp only[binOp,ne_eq,not_true,if_false];rfl
  exact Zf (by simp[execOp,hx,hy,eqGuard,hr]) k
theorem Z20 {x y:Operand} (hx:a.eval x = .int k1 i) (hy:a.eval y = .int k1 j) (k:K (a.put d (.int k1 (bits .or k1 i j))) w) :
    OW P ⟨d,.binOp .or s x y u,t,p,af,g⟩ a w K Q:=by
  have hr:(binOp .or s (.int k1 i) (.int k1 j)).run P w = .ok (.int k1 (bits .or k1 i j)) w:=by
    simp only[binOp,ne_eq,not_true,if_false];rfl
  exact Zf (by simp[execOp,hx,hy,eqGuard,hr]) k
theorem Zs {s:TypeId} {x:Operand} {q:Option Addr} {n cap:Nat} (h:slTy P s=true) (hx:a.eval x = .slice q n cap)
    (k:K (a.put d (.int .i64 n)) w):OW P ⟨d,.call ⟨.builtin .len,#[x],#[s]⟩,t,p,af,g⟩ a w K Q:=by
  unfold slTy at h
  cases hu:P.underlying s with
  | none=>simp[hu] at h
  | some e =>
    cases e <;> simp[hu] at h
    refine Zf (v:=.int .i64 n) (w':=w) ?_ k;simp[execOp,resolve,invoke,builtin,Builtin.len_,hx,run_underlying hu,goInt]
theorem Z5H {x y:Operand} {ts:Array TypeId} (hx:a.eval x = .int k1 i) (hy:a.eval y = .int k1 j) (k:K (a.put d (.int k1 (if j < i then j else i))) w) :
    OW P ⟨d,.call ⟨.builtin .min,#[x,y],ts⟩,t,p,af,g⟩ a w K Q:=by
  refine Zf (v:=.int k1 (if j < i then j else i)) (w':=w) ?_ k;have:=run_min_int2 (P:=P) (w:=w) ts t k1 k1 i j;simp[execOp,resolve,invoke,builtin,hx,hy,this]
theorem wp_max2 {x y:Operand} {ts:Array TypeId} (hx:a.eval x = .int k1 i) (hy:a.eval y = .int k1 j) (k:K (a.put d (.int k1 (if j > i then j else i))) w) :
    OW P ⟨d,.call ⟨.builtin .max,#[x,y],ts⟩,t,p,af,g⟩ a w K Q:=by
  refine Zf (v:=.int k1 (if j > i then j else i)) (w':=w) ?_ k;have:=run_max_int2 (P:=P) (w:=w) ts t k1 k1 i j;simp[execOp,resolve,invoke,builtin,hx,hy,this]
end
theorem oCs {P:Program} {Q:Exit→Act→World→Prop} {l0:List Rng} {n:Nat} {a0:Act} {w0:World} {sps:List Sp} {i:Nat} {o:Oper} {os:List Oper} {s:Sp} {ss:List Sp}
    (h1:OpOk P Q l0 n a0 w0 sps i o s) (h2:Z4O P Q l0 n a0 w0 sps (i+1) os ss):Z4O P Q l0 n a0 w0 sps i (o::os) (s::ss):=⟨h1,h2⟩
theorem ZX {P:Program} {Q:Exit→Act→World→Prop} {l0:List Rng} {n:Nat} {a0:Act} {w0:World} {sps ss:List Sp} {i:Nat}:Z4O P Q l0 n a0 w0 sps i [] ss:=trivial
section
variable {P:Program} {Q:Exit→Act→World→Prop}
def wg (P:Program) (Q:Exit→Act→World→Prop) (all:List Oper):List Oper→Act→World→Prop
  | [],a,w=>Q .normal a w
  | o :: os, a, w => (o.guard = none ∧ OW P o a w (wg P Q all os) Q) ∨
      (∃ j want dj b,o.guard=some (j,want)∧(all[j]?.bind (·.dst))=some dj∧dj < a.tmps.size∧get a dj = .bool b∧(b=want→OW P o a w (wg P Q all os) Q)∧(b=(!want)→wg P Q all os (a.put o.dst undef) w)) ∨
      (∃ j want dj,o.guard=some (j,want)∧(all[j]?.bind (·.dst))=some dj∧get a dj=undef∧wg P Q all os (a.put o.dst undef) w)
variable {all os:List Oper} {a:Act} {w:World}
theorem gCn {d:Option Tmp} {i:Op} {t:TypeId} {p:String} {af:Array Edge} (h:OW P ⟨d,i,t,p,af,none⟩ a w (wg P Q all os) Q):wg P Q all (⟨d,i,t,p,af,none⟩::os) a w:=.inl ⟨rfl,h⟩
theorem Zm {d:Option Tmp} {i:Op} {t:TypeId} {p:String} {af:Array Edge} {j:Nat} {want:Bool} {dj:Nat} (hj:(all[j]?.bind (·.dst))=some dj) (hs:dj < a.tmps.size) (hb:get a dj = .bool want)
    (h:OW P ⟨d,i,t,p,af,some (j,want)⟩ a w (wg P Q all os) Q):wg P Q all (⟨d,i,t,p,af,some (j,want)⟩::os) a w:=.inr (.inl ⟨j,want,dj,want,rfl,hj,hs,hb,fun _=>h,fun e=>(by cases want <;> simp at e)⟩)
theorem wg_no {d:Option Tmp} {i:Op} {t:TypeId} {p:String} {af:Array Edge} {j:Nat} {want:Bool} {dj:Nat} (hj:(all[j]?.bind (·.dst))=some dj) (hs:dj < a.tmps.size) (hb:get a dj = .bool (!want))
    (h:wg P Q all os (a.put d undef) w):wg P Q all (⟨d,i,t,p,af,some (j,want)⟩::os) a w:=.inr (.inl ⟨j,want,dj,!want,rfl,hj,hs,hb,fun e=>(by cases want <;> simp at e),fun _=>h⟩)
theorem wg_un {d:Option Tmp} {i:Op} {t:TypeId} {p:String} {af:Array Edge} {j:Nat} {want:Bool} {dj:Nat} (hj:(all[j]?.bind (·.dst))=some dj) (hb:get a dj=undef)
    (h:wg P Q all os (a.put d undef) w):wg P Q all (⟨d,i,t,p,af,some (j,want)⟩::os) a w:=.inr (.inr ⟨j,want,dj,rfl,hj,hb,h⟩)
theorem Z00 {d:Option Tmp} {i:Op} {t:TypeId} {p:String} {af:Array Edge} {j:Nat} {dj:Nat} (hj:(all[j]?.bind (·.dst))=some dj) (hs:dj < a.tmps.size) (hb:get a dj = .bool false)
    (h:wg P Q all os (a.put d undef) w):wg P Q all (⟨d,i,t,p,af,some (j,true)⟩::os) a w:=wg_no hj hs hb h
theorem Z6f {d:Option Tmp} {i:Op} {t:TypeId} {p:String} {af:Array Edge} {j:Nat} {dj:Nat} (hj:(all[j]?.bind (·.dst))=some dj) (hs:dj < a.tmps.size) (hb:get a dj = .bool true)
    (h:wg P Q all os (a.put d undef) w):wg P Q all (⟨d,i,t,p,af,some (j,false)⟩::os) a w:=wg_no hj hs hb h
theorem rIs {fn:Func} {t:Nat} {v:Value} (h:fn.results = #[.tmp t]) (hg:get a t=v):(results fn a.tmps).run P w = .ok v w:=by rw[← hg];exact Z6 h
theorem Z0l {K:Act→World→Prop} (h:∀ a',a'=a→K a' w):wg P (Exit.then K Q) all [] a w:=h a rfl
theorem Z5L {ops:Array Oper}:∀ (n i:Nat) (a:Act) (w:World),i+n=ops.size→wg P Q ops.toList (ops.toList.drop i) a w→wpOps P ops Q (List.range' i n) a w:=by
  intro n
  induction n with
  | zero =>
    intro i a w hi h;have:ops.toList.drop i=[]:=by apply List.drop_of_length_le;simp;omega
    rw[this] at h
    simpa [wpOps,wg] using h
  | succ n ih =>
    intro i a w hi h;have hlt:i < ops.size:=by omega
    have hd:ops.toList.drop i=ops[i]::ops.toList.drop (i+1):=by
      rw[List.drop_eq_getElem_cons (by simpa using hlt)];simp
    have hs:ops[i]?=some ops[i]:=Array.getElem?_eq_getElem hlt;rw[hd] at h;simp only[List.range'_succ,wpOps,hs]
    rcases h with ⟨hg,h⟩ | ⟨j,want,dj,b,hg,hj,hsz,hb,h1,h2⟩ | ⟨j,want,dj,hg,hj,hb,h⟩
    · have hw : Region.wanted ops[i] (yielded ops a.tmps) = true := by simp [Region.wanted, hg]
      simp only[hw,if_true]
      left
      exact Oper.upon_mono (fun a w h=>ih (i+1) a w (by omega) h) _ h.sem
    · have hy:yielded ops a.tmps j=some b:=by
        have hj':(ops[j]?.bind (·.dst))=some dj:=by simpa using hj
        have ht:a.tmps[dj]?=some (.bool b):=by
          unfold get at hb;rw[Array.getD_eq_getD_getElem?] at hb;simp[hsz] at hb ⊢
          exact hb
        simp[yielded,hj',ht]
      have hw:Region.wanted ops[i] (yielded ops a.tmps)=(b==want):=by simp only[Region.wanted,hg,hy];cases b <;> cases want <;> rfl
      rw[hw]
      by_cases hbw:b=want
      · simp only[hbw,beq_self_eq_true,if_true];exact .inl (Oper.upon_mono (fun a w h=>ih (i+1) a w (by omega) h) _ (h1 hbw).sem)
      have e:b = !want:=by cases b <;> cases want <;> first | rfl | exact absurd rfl hbw
      have:(b==want)=false:=by cases b <;> cases want <;> first | rfl | exact absurd rfl hbw
      rw[this];simp only[Bool.false_eq_true,if_false];exact ih (i+1) _ w (by omega) (h2 e)
    have hy:yielded ops a.tmps j=none:=by
      have hj':(ops[j]?.bind (·.dst))=some dj:=by simpa using hj
      unfold get at hb;rw[Array.getD_eq_getD_getElem?] at hb
      cases h:a.tmps[dj]? with
      | none=>simp[yielded,hj',h]
      | some v=>rw[h] at hb;simp at hb;subst hb;simp[yielded,hj',h,undef]
    have hw:Region.wanted ops[i] (yielded ops a.tmps)=false:=by simp only[Region.wanted,hg,hy];rfl
    rw[hw];simp only[Bool.false_eq_true,if_false];exact ih (i+1) _ w (by omega) h
theorem ZV {id:Nat} {l:List Oper} {a:Act} {w:World} (h:wg P Q l l a w):(Code.region id ⟨l⟩ false).wp P Q a w:=by
  refine wp_region ?_;have:=Z5L (P:=P) (Q:=Q) (ops:=⟨l⟩) l.length 0 a w (by simp) (by simpa using h)
  simpa [List.range_eq_range'] using this
end
end Go.Kq

namespace Go.Kq
open Go
def T.n:T→Int | .mk k _ _ _ _=>k
def T.s:T→List UInt8 | .mk _ k _ _ _=>k
def T.nl:T→Bool | .mk _ _ k _ _=>k
def T.l:T→List T | .mk _ _ _ k _=>k
def T.u:T→List (Nat × List UInt8) | .mk _ _ _ _ k=>k
inductive Fd where
  | mk (kind fr to nul tag df of:Int) (sub:List Fd)
  deriving Inhabited
def Fd.kind:Fd→Int | .mk k _ _ _ _ _ _ _=>k
def Fd.fr:Fd→Int | .mk _ k _ _ _ _ _ _=>k
def Fd.to:Fd→Int | .mk _ _ k _ _ _ _ _=>k
def Fd.nul:Fd→Int | .mk _ _ _ k _ _ _ _=>k
def Fd.tag:Fd→Int | .mk _ _ _ _ k _ _ _=>k
def Fd.df:Fd→Int | .mk _ _ _ _ _ k _ _=>k
def Fd.of:Fd→Int | .mk _ _ _ _ _ _ k _=>k
def Fd.sub:Fd→List Fd | .mk _ _ _ _ _ _ _ k=>k
def Fd.has (f:Fd) (ver:Int):Bool:=decide (f.fr≤ver) && (decide (f.to < 0) || decide (ver≤f.to))
def Z0S (nul ver:Int) (t:T):Bool:=t.nl && decide (nul≥0) && decide (ver≥nul)
def Zb (b:List UInt8):List UInt8:=b.take 32767
def atT (l:List T) (i:Nat):T:=l[i]?.getD .zero
def uvW (n:Nat):List UInt8:=if n > 127 then UInt8.ofNat (n % 128+128)::uvW (n / 128) else [UInt8.ofNat n]
termination_by n
decreasing_by omega
def fxW (n:Int):Nat→List UInt8
  | 0=>[]
  | k+1=>UInt8.ofNat ((n / (2 ^ (8 * k):Nat)) % 256).toNat::fxW n k
def Zg (kind:Int):Nat:=if kind=1 then 1 else if kind=2∨kind=5 then 2 else if kind=3 then 4 else 8
def Zk (flex null:Bool) (n size:Nat):List UInt8 :=
  if flex && null then [0] else if flex then uvW (n+1) else if null then fxW (-1) size else fxW n size
def Z2K (s:List UInt8):List UInt8:=s.take 16++List.replicate (16 - s.length) 0
def Zi (kind:Int) (sub:T→List UInt8) (null flex:Bool) (t:T):List UInt8 :=
  if kind=0 then [UInt8.ofNat (t.n % 2).toNat]
  else if kind=7 then Z2K t.s
  else if kind=8 then Zk flex null (if null then [] else Zb t.s).length 2++(if null then [] else Zb t.s)
  else if kind=9 then Zk flex null (if null then [] else Zb t.s).length 4++(if null then [] else Zb t.s)
  else if kind=10 then sub t
  else fxW t.n (Zg kind)
def Z0K (null:Bool) (t:T):List T:=if null then [] else t.l.take 32767
def ZM (kind nul of:Int) (sub:T→List UInt8) (ver:Int) (flex:Bool) (t:T):List UInt8 :=
  if kind=11 then Zk flex (Z0S nul ver t) (Z0K (Z0S nul ver t) t).length 4++(Z0K (Z0S nul ver t) t).flatMap (Zi of sub false flex)
  else if kind=10∧nul≥0 then (if Z0S nul ver t then [255] else 1::sub t)
  else Zi kind sub (Z0S nul ver t) flex t
def Z5:List Fd→Nat
  | []=>0
  | f::fs=>if f.tag≥0 then max (f.tag.toNat+1) (Z5 fs) else Z5 fs
def Z0h (out:List (Nat × List UInt8)) (k:Nat):Nat:=(out.takeWhile fun p=>decide (p.1 < k)).length
def ZT (least:Nat) (out:List (Nat × List UInt8)) (t:Nat × List UInt8):List (Nat × List UInt8) :=
  if t.1 < least then out else if (out[Z0h out t.1]?.map (·.1))=some t.1 then out else out.take (Z0h out t.1)++t::out.drop (Z0h out t.1)
def Zy (fs:List Fd) (u:List (Nat × List UInt8)):List (Nat × List UInt8):=(u.take 32767).foldl (ZT (Z5 fs)) []
mutual
/-- What is so by default. -/
def ZG:Fd→T→Bool
  | .mk kind _ _ nul _ df _ sub, t =>
    if kind=0 then decide (t.n % 2=df)
    else if kind=7 then (t.s.take 16).all (·==0)
    else if kind=8∨kind=9 then (if nul≥0 then t.nl else t.s.isEmpty)
    else if kind=11 then t.l.isEmpty
    else if kind=10 then Z5O sub t.l 0 && (Zy sub t.u).isEmpty
    else decide (fxW t.n (Zg kind)=fxW df (Zg kind))
def Z5O:List Fd→List T→Nat→Bool
  | [],_,_=>true
  | f::fs,ts,i=>ZG f (atT ts i) && Z5O fs ts (i+1)
end
def ZP (p:Nat × List UInt8):List UInt8:=uvW p.1++(uvW p.2.length++p.2)
def Z0T (fs:List Fd) (ver:Int) (encs:List (List UInt8)) (n:Nat):List UInt8 :=
  (List.range n).flatMap fun i=>match fs[i]? with
    | some f=>if decide (f.tag < 0) && f.has ver then encs.getD i [] else []
    | none=>[]
def Zl (fs:List Fd) (t:T) (encs:List (List UInt8)):List (Nat × List UInt8) :=
  (List.range (Z5 fs)).flatMap fun (tag:Nat)=>(List.range fs.length).flatMap fun i=>match fs[i]? with
    | some f=>if decide (f.tag=((tag:Nat):Int)) && !ZG f (atT t.l i) then [(tag,encs.getD i [])] else []
    | none=>[]
def ZC (fs:List Fd) (t:T):List (Nat × List UInt8):=(Zy fs t.u).map fun u=>(u.1,Zb u.2)
def Z83 (fs:List Fd) (ver:Int) (flex:Bool) (t:T) (encs:List (List UInt8)):List UInt8 :=
  if flex then Z0T fs ver encs fs.length++(uvW ((Zl fs t encs).length+(ZC fs t).length)++(Zl fs t encs++ZC fs t).flatMap ZP)
  else Z0T fs ver encs fs.length
mutual
def Zc:Fd→Int→Bool→T→List UInt8
  | .mk kind _ _ nul _ _ of sub,ver,flex,t=>ZM kind nul of (fun t=>Z83 sub ver flex t (ZY sub ver flex t.l 0)) ver flex t
def ZY:List Fd→Int→Bool→List T→Nat→List (List UInt8)
  | [],_,_,_,_=>[]
  | f::fs,ver,flex,ts,i=>Zc f ver flex (atT ts i)::ZY fs ver flex ts (i+1)
end
def Z07 (fs:List Fd) (ver:Int) (flex:Bool) (t:T):List UInt8:=Z83 fs ver flex t (ZY fs ver flex t.l 0)
theorem Z06 (f:Fd) (ver:Int) (flex:Bool) (t:T):Zc f ver flex t=ZM f.kind f.nul f.of (Z07 f.sub ver flex) ver flex t:=by
  cases f with
  | mk kind fr to nul tag df of sub=>rw[Zc];rfl
theorem Z2h:∀ (fs:List Fd) (ver:Int) (flex:Bool) (ts:List T) (j i:Nat) (f:Fd),fs[i]?=some f→(ZY fs ver flex ts j).getD i []=Zc f ver flex (atT ts (j+i))
  | [],_,_,_,_,_,_,h=>by simp at h
  | g::fs,ver,flex,ts,j,0,f,h=>by simp at h;subst h;rw[ZY];rfl
  | g :: fs, ver, flex, ts, j, i + 1, f, h => by
    rw[ZY,List.getD_cons_succ,Z2h fs ver flex ts (j+1) i f (by simpa using h)]
    congr 2;omega
end Go.Kq

namespace Go.Kq
open Go Go.Proofs
def zF:List Value:=[.int .i64 0,.int .i64 0,.int .i64 0,.int .i64 0,.int .i64 0,.int .i64 0,.int .i64 0,.slice none 0 0]
inductive RepF (w:World) (A:Nat→Prop):List Value→Fd→Prop where
  | nil {kind fr to nul tag df of:Int} :
      RepF w A [.int .i64 kind,.int .i64 fr,.int .i64 to,.int .i64 nul,.int .i64 tag,.int .i64 df,.int .i64 of,.slice none 0 0] (.mk kind fr to nul tag df of [])
  | sl {kind fr to nul tag df of:Int} {b o cap:Nat} {l:List Fd} (es:Nat→List Value) (hb:A b) (hc:l.length≤cap∧l.length≤4294967296)
      (hr:∀ i y,l[i]?=some y→w.rangeAt b (o+i * 8) (es i)) (hes:∀ i y,l[i]?=some y→RepF w A (es i) y) :
      RepF w A [.int .i64 kind,.int .i64 fr,.int .i64 to,.int .i64 nul,.int .i64 tag,.int .i64 df,.int .i64 of,.slice (some ⟨b,o,none⟩) l.length cap] (.mk kind fr to nul tag df of l)
theorem RepF.kept {w w':World} {A A':Nat→Prop} {l:List Rng} {cs:List Value} {t:Fd} (h:RepF w A cs t) (hf:Fr l w w') (hl:∀ r ∈ l,¬ A r.b) (hA:∀ b,A b→A' b):RepF w' A' cs t:=by
  induction h with
  | nil=>exact .nil
  | sl es hb hc hr _ ih=>exact .sl es (hA _ hb) hc (fun i y hi=>hf.range (hr i y hi) (fun r hr=>.inl fun e=>hl r hr (e ▸ hb))) ih
theorem RepF.length {w:World} {A:Nat→Prop} {cs:List Value} {t:Fd} (h:RepF w A cs t):cs.length=8:=by cases h <;> rfl
def FdsR (w:World) (A:Nat→Prop) (v:Value) (l:List Fd):Prop :=
  (v = .slice none 0 0∧l=[])∨∃ b o cap,A b∧v = .slice (some ⟨b,o,none⟩) l.length cap∧(l.length≤cap∧l.length≤4294967296) ∧
    ∃ es:Nat→List Value,(∀ i y,l[i]?=some y→w.rangeAt b (o+i * 8) (es i))∧∀ i y,l[i]?=some y→RepF w A (es i) y
theorem FdsR.one {w:World} {A:Nat→Prop} {v:Value} {x:List Fd} (h:FdsR w A v x):v.oneCell'=true:=by
  rcases h with h | ⟨_,_,_,_,h,_⟩
  · rw[h.1];rfl
  rw[h];rfl
theorem FdsR.kept {w w':World} {A A':Nat→Prop} {l:List Rng} {v:Value} {x:List Fd} (h:FdsR w A v x) (hf:Fr l w w') (hl:∀ r ∈ l,¬ A r.b) (hA:∀ b,A b→A' b):FdsR w' A' v x:=by
  rcases h with h | ⟨b,o,cap,hb,h1,h2,es,h3,h4⟩
  · exact .inl h
  exact .inr ⟨b,o,cap,hA b hb,h1,h2,es,fun i y hi=>hf.range (h3 i y hi) (fun r hr=>.inl fun e=>hl r hr (e ▸ hb)),fun i y hi=>(h4 i y hi).kept hf hl hA⟩
theorem ZO {w:World} {A:Nat→Prop} {cs:List Value} {f:Fd}:RepF w A cs f ↔
    ∃ sv,cs=[.int .i64 f.kind,.int .i64 f.fr,.int .i64 f.to,.int .i64 f.nul,.int .i64 f.tag,.int .i64 f.df,.int .i64 f.of,sv]∧FdsR w A sv f.sub:=by
  constructor
  · intro h
    cases h with
    | nil=>exact ⟨_,rfl,.inl ⟨rfl,rfl⟩⟩
    | sl es hb hc hr hes=>exact ⟨_,rfl,.inr ⟨_,_,_,hb,rfl,hc,es,hr,hes⟩⟩
  rintro ⟨sv,rfl,h⟩
  cases f with
  | mk kind fr to nul tag df of sub =>
    rcases h with ⟨rfl,h⟩ | ⟨b,o,cap,hb,rfl,hc,es,hr,hes⟩
    · simp only[Fd.sub] at h;subst h;exact .nil
    exact .sl es hb hc hr hes
theorem FdsR.slice {w:World} {A:Nat→Prop} {v:Value} {l:List Fd} (h:FdsR w A v l):∃ q cap,v = .slice q l.length cap∧l.length≤4294967296 ∧
    (∀ i f,l[i]?=some f→∃ b o cs,q=some ⟨b,o,none⟩∧A b∧w.rangeAt b (o+i * 8) cs∧RepF w A cs f):=by
  rcases h with ⟨rfl,rfl⟩ | ⟨b,o,cap,hb,rfl,hc,es,hr,hes⟩
  · exact ⟨none,0,rfl,by simp,by simp⟩
  exact ⟨_,cap,rfl,hc.2,fun i f hi=>⟨b,o,es i,rfl,hb,hr i f hi,hes i f hi⟩⟩
theorem Z0G.sl2 {w:World} {A:Nat→Prop} {v:Value} {l:List T} (h:Z0G w A v l):∃ q cap,v = .slice q l.length cap∧l.length≤cap∧l.length≤4294967296 ∧
    (∀ i t,l[i]?=some t→∃ b o cs,q=some ⟨b,o,none⟩∧A b∧w.rangeAt b (o+i * 5) cs∧RepT w A cs t):=by
  rcases h with ⟨rfl | ⟨a,rfl⟩,rfl⟩ | ⟨b,o,cap,hb,rfl,hc,es,hr,hes⟩
  · exact ⟨none,0,rfl,by simp,by simp,by simp⟩
  · exact ⟨some a,0,rfl,by simp,by simp,by simp⟩
  exact ⟨_,cap,rfl,hc.1,hc.2,fun i f hi=>⟨b,o,es i,rfl,hb,hr i f hi,hes i f hi⟩⟩
theorem Z1V.sl2 {w:World} {A:Nat→Prop} {v:Value} {u:List (Nat × List UInt8)} (h:Z1V w A v u):∃ q cap,v = .slice q u.length cap∧u.length≤cap∧u.length≤4294967296 ∧
    (∀ (i k:Nat) (x:List UInt8),u[i]?=some (k,x)→∃ b o xv,q=some ⟨b,o,none⟩∧A b∧k < 4294967296∧w.rangeAt b (o+i * 2) [.int .u32 k,xv]∧OctE w A xv x):=by
  rcases h with ⟨rfl | ⟨a,rfl⟩,rfl⟩ | ⟨b,o,cap,hb,rfl,hc,h⟩
  · exact ⟨none,0,rfl,by simp,by simp,by simp⟩
  · exact ⟨some a,0,rfl,by simp,by simp,by simp⟩
  exact ⟨_,cap,rfl,hc.1,hc.2,fun i k x hi=>by obtain ⟨xv,h1,h2,h3⟩:=h i k x hi;exact ⟨b,o,xv,rfl,hb,h1,h2,h3⟩⟩
def Z5F (w:World) (xs:List UInt8) (e:Ending) (w':World):Prop:=∃ v,e = .returned v∧Fr [] w w'∧Own w' (From w.heap.size w') 1 v xs.length (Z0 xs)
theorem Own.octE {w:World} {A:Nat→Prop} {v:Value} {xs:List UInt8} (h:Own w A 1 v xs.length (Z0 xs)) (hl:xs.length≤4294967296):OctE w A v xs:=by
  obtain ⟨_,⟨rfl,h0⟩ | ⟨g,o,cap,hg,rfl,hc,hm,hr,ht⟩⟩:=h
  · have:xs=[]:=List.eq_nil_of_length_eq_zero h0;subst this;exact .nil
  exact .inl ⟨some xs,.inr ⟨g,o,cap,xs,hg,rfl,⟨hc,hl⟩,hr,rfl⟩,rfl⟩
theorem Z5p (xs:List UInt8):∀ u ∈ Z0 xs,u.oneCell'=true:=by
  intro u hu;simp[Z0] at hu;obtain ⟨c,_,rfl⟩:=hu;rfl
theorem Z0z (xs ys:List UInt8):Z0 (xs++ys)=Z0 xs++Z0 ys:=by simp[Z0]
theorem Own.upTo {w w':World} {A A':Nat→Prop} {sz n:Nat} {v:Value} {xs:List Value} (h:Own w A sz v n xs) (hf:Fr [] w w') (hA:∀ b,A b→A' b):Own w' A' sz v n xs:=h.kept hf (by simp) hA
theorem Own.sl {w:World} {A:Nat→Prop} {sz n:Nat} {v:Value} {xs:List Value} (h:Own w A sz v n xs):∃ q cap,v = .slice q n cap:=by
  obtain ⟨_,⟨rfl,rfl⟩ | ⟨g,o,cap,hg,rfl,_⟩⟩:=h
  · exact ⟨_,_,rfl⟩
  exact ⟨_,_,rfl⟩
section
variable {P:Program} {a:Act} {w:World} {K:Act→World→Prop} {Q:Exit→Act→World→Prop} {d:Option Tmp} {t:TypeId} {p:String} {af:Array Edge} {g:Option (Nat × Bool)}
theorem Z0c {T e:TypeId} {A B:Nat→Prop} {v u:Value} {xs ys:List UInt8} {x y:Operand} (hT:Z4 P T e 1 1=true) (hz:ZI P e [.int .u8 0])
    (hx:a.eval x=v) (hy:a.eval y=u) (h:Own w A 1 v xs.length (Z0 xs)) (hu:OctE w B u ys) (hb:xs.length+ys.length≤4294967296)
    (k:∀ v' w',Fr (Z1 v 1) w w'→Own w' (fun b=>A b∨(w.heap.size≤b∧b < w'.heap.size)) 1 v' (xs++ys).length (Z0 (xs++ys))→(∀ r ∈ Z1 v' 1,r.In (Z1 v 1) w)→(blk v'=blk v∨blk v'=some w.heap.size)→K (a.put d v') w') :
    OW P ⟨d,.call ⟨.builtin .append,#[x,y],#[T,T]⟩,t,p,af,g⟩ a w K Q:=by
  obtain ⟨q,cap,rfl,hq⟩:=hu.slice
  by_cases h0:ys=[]
  · subst h0;obtain ⟨hut,i,z0,hi,hs',hby,hzz,hsz⟩:=Zu hT;obtain ⟨q',cap',rfl⟩:=h.sl;have hle:xs.length≤cap':=by
      obtain ⟨_,⟨hv,h0⟩ | ⟨g,o,cap,hg,hv,hc,_⟩⟩:=h
      · omega
      cases hv;exact hc
    have hr:(Builtin.append_ #[T,T] t #[.slice q' xs.length cap',.slice q 0 cap]).run P w = .ok (.slice q' xs.length cap') w:=by
      cases q <;> cases q' <;> simp[Builtin.append_,run_underlying hut,sizeOf,typeInfo,hi,Builtin.lenOf,Builtin.firstCells,loadCells,loadCellsFrom,storeCells,hle]
    refine Zf (v:=.slice q' xs.length cap') (w':=w) ?_ (k _ _ (Fr.refl _ _) (by rw[List.append_nil];exact h.upTo (Fr.refl _ _) (fun _ h=>.inl h)) (fun r hr=>Rng.in_self hr) (.inl rfl));simp only[List.length_nil] at hy;simp[execOp,resolve,invoke,builtin,hx,hy,hr]
  have hpos:0 < ys.length:=List.length_pos_iff.2 h0;obtain ⟨b,o,rfl,hr⟩:=hq hpos;refine Z3I (z:=[.int .u8 0]) (m:=ys.length) (news:=Z0 ys) hT hz rfl hx hy h hpos (by rw[lOc,Nat.mul_one]) hr (Z5p ys) (by omega) (by simp only[maxLen];omega) ?_;intro v' w' hf ho hbk hin;refine k v' w' hf ?_ hin hbk;rw[Z0z,List.length_append];exact ho
theorem Z4y {n o:Nat}:∀ (l:List Value) (k:Nat) (acc:List Value),o+k+l.length≤acc.length→acc.length=n →
    (l.zipIdx k).foldl (fun cs (x:Value × Nat)=>cs.setIfInBounds (o+x.2) x.1) acc.toArray=(acc.take (o+k)++l++acc.drop (o+k+l.length)).toArray
  | [],k,acc,h,hn=>by simp
  | v :: l, k, acc, h, hn => by
    simp only[List.length_cons] at h;simp only[List.zipIdx_cons,List.foldl_cons,List.setIfInBounds_toArray];rw[Z4y (n:=n) l (k+1) (acc.set (o+k) v) (by simp;omega) (by simpa using hn)]
    congr 1
    have hk:o+k < acc.length:=by omega
    have e1:(acc.set (o+k) v).take (o+(k+1))=acc.take (o+k)++[v]:=by
      rw[show o+(k+1)=(o+k)+1 from by omega,List.take_succ_eq_append_getElem (by simpa using hk)];simp[List.take_set_of_le]
    have e2:(acc.set (o+k) v).drop (o+(k+1)+l.length)=acc.drop (o+k+(l.length+1)):=by
      rw[List.drop_set_of_lt (by omega)];congr 1;omega
    rw[e1,e2];simp
theorem Z6z {sz:Nat}:∀ (vs:List Value) (css:List (List Value)) (i:Nat) (pre:List Value) (rest:List Value),vs.map (fun v=>v.cells)=css.map List.toArray→(∀ c ∈ css,c.length=sz)→pre.length=i * sz→rest.length=css.length * sz →
    Instr.fill (fun i=>some (i * sz,sz)) (pre++rest).toArray ((vs.zipIdx i).map fun x=>(x.2,x.1))=some (pre++css.flatten).toArray
  | [], [], i, pre, rest, _, _, hp, hr => by
    have:rest=[]:=List.eq_nil_of_length_eq_zero (by simpa using hr);subst this;simp[Instr.fill]
  | v::vs,[],i,pre,rest,h,_,_,_=>by simp at h
  | [],c::css,i,pre,rest,h,_,_,_=>by simp at h
  | v :: vs, c :: css, i, pre, rest, h, hc, hp, hr => by
    simp only[List.map_cons,List.cons.injEq] at h;have hcl:c.length=sz:=hc c (by simp);rw[List.zipIdx_cons,List.map_cons,Instr.fill.eq_2];simp only[h.1,List.size_toArray,hcl];simp only[List.length_cons,Nat.add_mul,Nat.one_mul] at hr;rw[if_neg (by simp;omega)];have hf:=Z4y (n:=(pre++rest).length) (o:=i * sz) c 0 (pre++rest) (by simp;omega) rfl;have hz:∀ (acc:Array Value),Array.foldl (fun cs (x:Value × Nat)=>cs.setIfInBounds (i * sz+x.2) x.1) acc c.toArray.zipIdx=(c.zipIdx 0).foldl (fun cs (x:Value × Nat)=>cs.setIfInBounds (i * sz+x.2) x.1) acc:=by
      intro acc;rw[← Array.foldl_toList];simp
    rw[hz,hf];have e1:(pre++rest).take (i * sz+0)=pre:=by rw[Nat.add_zero,← hp];simp
    have e2:(pre++rest).drop (i * sz+0+c.length)=rest.drop sz:=by rw[Nat.add_zero,hcl,← hp];simp[List.drop_append]
    rw[e1,e2];rw[Z6z vs css (i+1) (pre++c) (rest.drop sz) h.2 (fun x hx=>hc x (by simp[hx])) (by rw[List.length_append,hp,hcl,Nat.add_mul];omega) (by rw[List.length_drop];omega)];simp
theorem Z1o {T e sz bs:Nat} {xs:List Operand} {css:List (List Value)} {n:Nat} (hT:Z4 P T e sz bs=true) (hn:n=css.length) (hn0:0 < n) (hsz:n * sz≤16777216) (hx:(xs.map a.eval).map (fun v=>v.cells)=css.map List.toArray) (hl:∀ c ∈ css,c.length=sz)
    (k:K (a.put d (.slice (some ⟨w.heap.size,0,none⟩) n n)) (w.alloc (.cells css.flatten.toArray e))) :
    OW P ⟨d,.buildSlice T n ((xs.zipIdx 0).map fun x=>(x.2,x.1)).toArray,t,p,af,g⟩ a w K Q:=by
  obtain ⟨hu,i,z0,hi,hs,hby,hzz,hsz0⟩:=Zu hT;subst hs
  constructor
  refine wp_buildSlice T e n _ rfl css.flatten.toArray i z0 hu hi hzz (by omega) (by have:=Nat.mul_pos hn0 hsz0;omega) ?_ k;have h1:(Array.map (fun x:Nat × Operand=>(x.1,a.eval x.2)) ((xs.zipIdx 0).map fun x=>(x.2,x.1)).toArray).toList=((xs.map a.eval).zipIdx 0).map fun x=>(x.2,x.1):=by
    simp only[List.map_toArray,List.map_map,List.zipIdx_map]
    rfl
  have h2:=Z6z (sz:=i.size) (xs.map a.eval) css 0 [] ((Array.range (n * i.size)).map (z0.cells[· % z0.cells.size]!)).toList hx hl (by simp) (by simp[hn]);simp only[List.nil_append] at h2
  have h3:((Array.range (n * i.size)).map (z0.cells[· % z0.cells.size]!)).toList.toArray=(Array.range (n * i.size)).map (z0.cells[· % z0.cells.size]!):=Array.toArray_toList;rw[h3] at h2;rw[← h1] at h2;exact h2
theorem ZL {s:TypeId} {x:Operand} {cs:List Value} (hx:a.eval x = .agg cs.toArray)
    (k:∀ w',Fr [] w w'→w'.heap.size=w.heap.size+1→w'.rangeAt w.heap.size 0 cs→w'.there w.heap.size 0 cs.length→K (a.put d (.pointer (some ⟨w.heap.size,0,none⟩))) w') :
    OW P ⟨d,.box s x,t,p,af,g⟩ a w K Q:=by
  have hr:=ZD w cs.toArray s (0,0);have ht:=Zx w cs.toArray s;refine Z7s hx (k _ (Fr.alloc _ _ _) (Zd _ _) (by simpa [Value.cells] using hr) (by simpa [Value.cells] using ht))
theorem Z0w {s:TypeId} {z:List Value} (hz:Flat P s z)
    (k:∀ w',Fr [] w w'→w'.heap.size=w.heap.size+1→w'.rangeAt w.heap.size 0 z→w'.there w.heap.size 0 z.length→K (a.put d (.pointer (some ⟨w.heap.size,0,none⟩))) w') :
    OW P ⟨d,.alloc s,t,p,af,g⟩ a w K Q:=by
  have hr:=ZD w z.toArray s (0,0);have ht:=Zx w z.toArray s;refine Z0d hz.zero (k _ (Fr.alloc _ _ _) (Zd _ _) (by simpa [Value.cells] using hr) (by simpa [Value.cells] using ht))
theorem Z0f {s:TypeId} {z:List Value} {x y:Operand} {b o:Nat} {cs:List Value} (h:Flat P s z) (hl:cs.length=z.length) (hx:a.eval x = .pointer (some ⟨b,o,none⟩)) (hy:a.eval y = .agg cs.toArray)
    (h1:∀ u ∈ cs,u.oneCell'=true) (ht:w.there b o z.length) (k:∀ w',Fr [⟨b,o,o+z.length⟩] w w'→w'.heap.size=w.heap.size→w'.rangeAt b o cs→w'.there b o z.length→K (a.put d undef) w'):OW P ⟨d,.store s x y,t,p,af,g⟩ a w K Q:=by
  rw[← hl] at ht;have f:=Fr.sets b cs w o;refine Z1Y h hl hx hy h1 ht (k _ (by rw[← hl];exact f) ?_ (World.rangeAt_setCells_same _ _ _ _ ht) (by rw[← hl];exact f.there ht));have h2:∀ (vs:List Value) (w:World) (o:Nat),(w.setCells b o vs).heap.size=w.heap.size:=by
    intro vs
    induction vs with
    | nil=>intro w o;rfl
    | cons v r ih=>intro w o;show ((w.setCell ⟨b,o,none⟩ v).setCells b (o+1) r).heap.size=_;rw[ih];simp[World.setCell]
  exact h2 cs w o
theorem wL0 {s:TypeId} {x:Operand} {b j:Nat} {cs:List Value} {v:Value} (hs:scal P s=true) (hx:a.eval x = .pointer (some ⟨b,j,none⟩)) (hr:w.rangeAt b 0 cs) (hj:cs[j]?=some v)
    (k:K (a.put d v) w):OW P ⟨d,.load s x,t,p,af,g⟩ a w K Q:=Zn hs hx (by have:=hr j v hj;rwa [Nat.zero_add] at this) k
theorem Z53 {s:TypeId} {z:List Value} {ps:List (Nat × Operand)} {vs:List (Nat × Value)} (h:Flat P s z) (hv:ps.map (fun p=>(p.1,a.eval p.2))=vs) (h1:∀ p ∈ vs,p.1 < z.length∧p.2.oneCell'=true)
    (k:K (a.put d (.agg (laid z vs).toArray)) w):OW P ⟨d,.build s ps.toArray,t,p,af,g⟩ a w K Q:=by
  refine Zf (v:=.agg (laid z vs).toArray) (w':=w) ?_ k;have hr:=Z7L (w:=w) (ps:=vs) h h1;have hm:(ps.toArray.map fun (x:Nat × Operand)=>(x.1,a.eval x.2))=vs.toArray:=by rw[← hv];simp
  simp only[execOp];have:(Array.map (fun (x:Nat × Operand)=>match x with | (i,x)=>(i,a.eval x)) ps.toArray)=vs.toArray:=hm;simp only[this,Sem.run_bind,hr,Result.andThen_ok,Sem.run_pure]
theorem Z52 {s:TypeId} {z:List Value} (h:Flat P s z) (k:K (a.put d (.agg z.toArray)) w):OW P ⟨d,.build s #[],t,p,af,g⟩ a w K Q :=
  Z53 (ps:=[]) h rfl (by simp) k
theorem Z10 {s e n bs:Nat} {x y:Operand} {b o len cap:Nat} {k1:IntKind} {i:Nat} (h:Z4 P s e n bs=true) (hx:a.eval x = .slice (some ⟨b,o,none⟩) len cap) (hy:a.eval y = .int k1 (i:Int))
    (h1:i < len) (k:K (a.put d (.pointer (some ⟨b,o+i * n,none⟩))) w):OW P ⟨d,.indexAddr s x y,t,p,af,g⟩ a w K Q :=
  Zw h hx hy (by omega) (by omega) (by simpa using k)
end
theorem Flat.fld {P:Program} {t:TypeId} {z:List Value} (h:Flat P t z) {k:Nat} (hk:k < z.length):Zt P t k k=true:=by
  obtain ⟨_,_,fs,hu,hs,hf⟩:=h;have hk':k < fs.size:=by omega
  have hfk:fs[k]?=some fs[k]:=by simp[hk']
  obtain ⟨h1,i,h2,h3⟩:=hf k _ hfk;simp only[Zt,hu,hfk,h1,h2,h3];simp
theorem Z2R {P:Program} {fn:Func} {t:Nat} {T:TypeId} {z:List Value} {a:Act} {w:World} {b o:Nat} {cs:List Value} (h:fn.results = #[.cell t T]) (hT:Flat P T z) (hl:cs.length=z.length) (ha:get a t = .pointer (some ⟨b,o,none⟩)) (hc:w.rangeAt b o cs) :
    (results fn a.tmps).run P w = .ok (.agg cs.toArray) w:=by
  obtain ⟨_,hs,fs,hu,_⟩:=hT;have hr:=run_loadVar_mid (P:=P) w b o T cs _ hc hu rfl (by rw[hs,hl]);have ha':a.tmps[t]?.getD undef = .pointer (some ⟨b,o,none⟩):=by rw[← Array.getD_eq_getD_getElem?];exact ha
  simp only[results,h];simp[ha',asAddr,hr]
theorem OctE.slice2 {w:World} {A:Nat→Prop} {v:Value} {s:List UInt8} (h:OctE w A v s):∃ q cap,v = .slice q s.length cap∧s.length≤cap∧s.length≤4294967296∧∀ n,n≤s.length→OctE w A (.slice q n cap) (s.take n):=by
  rcases h with ⟨x,h,rfl⟩ | ⟨⟨a,rfl⟩,rfl⟩
  rotate_left
  · refine ⟨some a, 0, rfl, by simp, by simp, fun n hn => ?_⟩;simp at hn; subst hn
    exact .inr ⟨⟨a,rfl⟩,rfl⟩
  rcases h with ⟨rfl,rfl⟩ | ⟨b,o,cap,l,hb,rfl,hc,hr,rfl⟩
  · refine ⟨none, 0, rfl, by simp, by simp, fun n hn => ?_⟩;simp at hn; subst hn
    exact .inl ⟨none,.inl ⟨rfl,rfl⟩,rfl⟩
  refine ⟨_,cap,rfl,hc.1,hc.2,fun n hn=>.inl ⟨some (l.take n),.inr ⟨b,o,cap,l.take n,hb,?_,⟨by simp;omega,by simp;omega⟩,?_,rfl⟩,rfl⟩⟩
  · simp only[List.length_take,Option.getD_some] at hn ⊢;rw[Nat.min_eq_left hn]
  have:=Z0o hr 0 n
  simpa using this
theorem Z0G.take {w:World} {A:Nat→Prop} {q:Option Addr} {cap:Nat} {l:List T} (h:Z0G w A (.slice q l.length cap) l) (n:Nat) (hn:n≤l.length):Z0G w A (.slice q n cap) (l.take n):=by
  rcases h with ⟨hv,rfl⟩ | ⟨b,o,c,hb,hv,hc,es,hr,hes⟩
  · simp at hn; subst hn
    rcases hv with hv | ⟨a,hv⟩
    · cases hv;exact .inl ⟨.inl rfl,rfl⟩
    cases hv;exact .inl ⟨.inr ⟨a,rfl⟩,rfl⟩
  cases hv
  refine .inr ⟨b,o,cap,hb,by rw[List.length_take,Nat.min_eq_left hn],⟨by simp;omega,by simp;omega⟩,es,fun i y hi=>hr i y ?_,fun i y hi=>hes i y ?_⟩ <;>
  · rw[List.getElem?_take] at hi;split at hi <;> first | exact hi | cases hi
end Go.Kq

namespace Go.Kq
open Go Go.Proofs
theorem fxL (n:Int):∀ k,(fxW n k).length=k
  | 0=>rfl
  | k+1=>by rw[fxW,List.length_cons,fxL n k]
theorem Zr (n:Int):IntKind.u8.wrap n=((UInt8.ofNat (n % 256).toNat).toNat:Int):=by
  simp[IntKind.wrap,IntKind.bits,IntKind.signed]
  omega
theorem Own.imp_A {w:World} {A A':Nat→Prop} {sz n:Nat} {v:Value} {xs:List Value} (h:Own w A sz v n xs) (hA:∀ b,A b→A' b):Own w A' sz v n xs:=h.upTo (Fr.refl _ _) hA
theorem Z2W {s:Nat} {w w':World} (h1:s≤w.heap.size) (h2:w.heap.size≤w'.heap.size) (b:Nat) (hb:From s w b∨(w.heap.size≤b∧b < w'.heap.size)):From s w' b:=by
  rcases hb with hb | hb
  · exact From.mono h2 b hb
  exact ⟨by omega,hb.2⟩
theorem Z0C {w0 w w':World} {sz n:Nat} {v:Value} {xs:List Value} {A:Nat→Prop} (h:Fr [] w0 w) (f:Fr (Z1 v sz) w w') (ho:Own w A sz v n xs) (hA:∀ b,A b→w0.heap.size≤b):Fr [] w0 w' :=
  h.trans f fun r hr=>.inl (hA _ (ho.spare_in r hr))
section
variable {P:Program} {a:Act} {w:World} {K:Act→World→Prop} {Q:Exit→Act→World→Prop} {d:Option Tmp} {t:TypeId} {p:String} {af:Array Edge} {g:Option (Nat × Bool)}
theorem Z5I {T e:TypeId} {x:Operand} {c:UInt8} (hT:Z4 P T e 1 1=true) (hx:a.eval x = .int .u8 (c.toNat:Int))
    (k:∀ w' u,Fr [] w w'→w'.heap.size=w.heap.size+1→OctE w' (fun b=>b=w.heap.size) u [c]→K (a.put d u) w') :
    OW P ⟨d,.buildSlice T 1 #[(0,x)],t,p,af,g⟩ a w K Q:=by
  have hr:=ZD w #[.int .u8 (c.toNat:Int)] e (0,0);refine Z1o (xs:=[x]) (css:=[[.int .u8 (c.toNat:Int)]]) hT rfl (by decide) (by decide) (by simp[hx,Value.cells]) (by simp) (k _ _ (Fr.alloc _ _ _) (Zd _ _) ?_);exact .inl ⟨some [c],.inr ⟨w.heap.size,0,1,[c],rfl,rfl,by simp,by simpa [Z0] using hr,rfl⟩,rfl⟩
end
structure FixM (P:Program) (f:FuncId):Prop where
  enters:Enters P f
  call:∀ (w:World) (n:Int) (k:Nat),k≤8→Calls P f #[.int .i64 n,.int .i64 k] w (Z5F w (fxW n k))
theorem fixed_m {P:Program} {f:FuncId} {fn:Func} {T2 T3 T5 T22:TypeId} {i0 i1 i2 i3 i5 i4 i6:Nat} {t0 t1 t2 t3 t4 t5 t6 t7 t8 t9 t10 t11 t12 t13 t14 t15 t16 t17 t18 t19 t20:TypeId} {p0 p1 p2 p3 p4 p5 p6 p7 p8 p9 p10 p11 p12 p13 p14 p15 p16 p17 p18 p19 p20:String} {e0 e1 e2 e3 e4 e5 e6 e7 e8 e9 e10 e11 e12 e13 e14 e15 e16 e17 e18 e19 e20:Array Edge} {te:TypeId}
    (hf:P.funcs[f]?=some fn) (hname:nG fn=false) (hres:fn.results = #[.tmp 4]) (hN:fn.ntmps=22)
    (hbody:fn.body=some (.seq (Code.region i0 ⟨[oA 4 (.const (.slice none 0 0)) t0 p0 e0]⟩ false) (.seq (Code.region i1 ⟨[oA 5 (.const (.slice none 0 0)) t1 p1 e1]⟩ false) (.seq (.seq (Code.region i2 ⟨[oM 7 1 t2 p2 e2,⟨some 8,.binOp .sub T3 (.tmp 7) (.const (.int .i64 1)) T3,t3,p3,e3,none⟩,
    oT 6 8 t4 p4 e4]⟩ false) (.block 0 (.loop (.seq (.seq (Code.region i3 ⟨[oM 9 6 t5 p5 e5,⟨some 10,.binOp .geq T3 (.tmp 9) (.const (.int .i64 0)) T3,t6,p6,e6,none⟩]⟩ false) (.cond (.tmp 10) .skip
  (.exit 0))) (.seq (.block 1 (Code.region i5 ⟨[oM 13 5 t7 p7 e7,
    oM 14 0 t8 p8 e8,
    oM 15 6 t9 p9 e9,⟨some 16,.binOp .mul T3 (.const (.int .i64 8)) (.tmp 15) T3,t10,p10,e10,none⟩,⟨some 17,.binOp .shr T2 (.tmp 14) (.tmp 16) T3,t11,p11,e11,none⟩,⟨some 18,.convert T2 T5 (.tmp 17),t12,p12,e12,none⟩,⟨some 19,.buildSlice T22 1 #[(0,.tmp 18)],t13,p13,e13,none⟩,⟨some 20,.call ⟨.builtin .append,#[(.tmp 13),(.tmp 19)],#[T22,T22]⟩,t14,p14,e14,none⟩,
    oT 5 20 t15 p15 e15]⟩ false))
  (Code.region i4 ⟨[oM 11 6 t16 p16 e16,⟨some 12,.binOp .sub T3 (.tmp 11) (.const (.int .i64 1)) T3,t17,p17,e17,none⟩,
    oT 6 12 t18 p18 e18]⟩ false)))))) (.seq (Code.region i6 ⟨[oM 21 5 t19 p19 e19,
    oT 4 21 t20 p20 e20]⟩ false) .ret)))))
    (hT2_i64:Zh P T2 .i64=true) (hT5_u8:Zh P T5 .u8=true) (hs_T22:Z4 P T22 te 1 1=true) (hz_T22:ZI P te [.int .u8 0]) :FixM P f:=by
  refine ⟨enters_of hf hname hbody,?_⟩;intro w n k hk;refine calls_of_wp hf hbody ?_;generalize ha0:({ tmps:=#[Value.int .i64 n,Value.int .i64 (k:Int)]++Array.replicate (fn.ntmps - (#[Value.int .i64 n,Value.int .i64 (k:Int)]:Array Value).size) undef,defers:=[] }:Act)=a0;have hz0:a0.tmps.size=22:=by subst ha0;simp[hN]
  have hd0:a0.defers=[]:=by subst ha0;rfl
  have g0_0:get a0 0 = .int .i64 n:=by subst ha0;exact gAr rfl
  have g0_1:get a0 1 = .int .i64 (k:Int):=by subst ha0;exact gAr rfl
  refine wT fun K1 hK1=>?_;refine wC (wAs (v:=.slice none 0 0) rfl ?_);refine wEk hz0 hd0 fun a2 ha2 hz2 hd2=>?_;have g2_0:=kP ha2 g0_0;have g2_1:=kP ha2 g0_1;refine hK1 a2 w (tUp ?_);refine wT fun K3 hK3=>?_;refine wC (wAs (v:=.slice none 0 0) rfl ?_);refine wEk hz2 hd2 fun a4 ha4 hz4 hd4=>?_;have g4_0:=kP ha4 g2_0;have g4_1:=kP ha4 g2_1;have g4_5:get a4 5 = .slice none 0 0:=kG ha4 hz2;refine hK3 a4 w (tUp ?_);refine tId (wp_seq_k fun K5 hK5=>?_);refine wS fun K6 hK6=>?_;refine wC (wMv (v:=.int .i64 (k:Int)) (eK g4_1) ?_);refine wC (Z1P (k1:=.i64) (i:=(k:Int)) (j:=1) (eS hz4) rfl ?_);rw[show (IntKind.i64.wrap (((k:Int):Int) - (1:Int)):Int)=((k:Int) - 1:Int) from by simp[IntKind.wrap,IntKind.bits,IntKind.signed];omega];refine wC (wAs (v:=.int .i64 ((k:Int) - 1)) (eS hz4) ?_);refine wEk hz4 hd4 fun a7 ha7 hz7 hd7=>?_;have g7_0:=kP ha7 g4_0;have g7_5:=kP ha7 g4_5;have g7_6:get a7 6 = .int .i64 ((k:Int) - 1):=kG ha7 hz4;refine hK6 a7 w ?_;refine wp_block (wp_loop_ghost (fun (j:Nat) a' w'=>∃ (v:Value) (ys:List UInt8),a'.tmps.size=22∧a'.defers=[]∧get a' 0 = .int .i64 n∧get a' 5=v∧get a' 6 = .int .i64 ((j:Int) - 1)∧j≤k∧ys++fxW n j=fxW n k∧Own w' (From w.heap.size w') 1 v ys.length (Z0 ys)∧Fr [] w w') k ?_ ?_)
  · exact ⟨.slice none 0 0,[],hz7,hd7,g7_0,g7_5,g7_6,Nat.le_refl _,rfl,Own.nil,Fr.refl _ _⟩
  rintro j a8 w8 ⟨v,ys,hz8,hd8,g8_0,g8_5,g8_6,hj,hys,ho,hfw⟩;refine wp_seq_k fun K9 hK9=>?_;refine wS fun K10 hK10=>?_;refine wC (wMv (v:=.int .i64 ((j:Int) - 1)) (eK g8_6) ?_);refine wC (Z2F (k1:=.i64) (i:=(j:Int) - 1) (j:=0) (eS hz8) rfl ?_);refine wEk hz8 hd8 fun a11 ha11 hz11 hd11=>?_;have g11_0:=kP ha11 g8_0;have g11_5:=kP ha11 g8_5;have g11_6:=kP ha11 g8_6;have g11_10:get a11 10 = .bool (decide (((j:Int) - 1:Int)≥(0:Int))):=kG ha11 hz8;refine hK10 a11 w8 ?_;refine wp_cond_split (t:=decide (((j:Int) - 1:Int)≥(0:Int))) (eK g11_10) (fun hc12=>?_) (fun hc12=>?_)
  · have hyl : ys.length + j = k := by have := congrArg List.length hys; simpa [fxL] using this
    obtain ⟨i,rfl⟩:∃ i,j=i+1:=⟨j - 1,by simp at hc12;omega⟩;rw[show ((i+1:Nat):Int) - 1=(i:Int) from by omega] at g11_6;refine wp_skip ?_;refine hK9 a11 w8 ?_;refine wp_seq_k fun K13 hK13=>?_;refine Zj ?_;refine Z2 ?_;refine wC (wMv (v:=v) (eK g11_5) ?_);refine wC (wMv (v:=.int .i64 n) (eK g11_0) ?_);refine wC (wMv (v:=.int .i64 (i:Int)) (eK g11_6) ?_);refine wC (wp_mul (k1:=.i64) (i:=8) (j:=(i:Int)) rfl (eS hz11) ?_);rw[show (IntKind.i64.wrap ((8:Int) * ((i:Int):Int)):Int)=(((8 * i:Nat):Int):Int) from by simp[IntKind.wrap,IntKind.bits,IntKind.signed];omega];refine wC (Z08 (k1:=.i64) (i:=n) (n:=8 * i) (eS hz11) (eS hz11) (by show 8 * i≤64;omega) ?_);refine wC (wCv (k1:=.i64) (i:=n / (2 ^ (8 * i):Nat)) hT2_i64 hT5_u8 (eS hz11) ?_);rw[show (IntKind.u8.wrap (n / (2 ^ (8 * i):Nat):Int))=(((UInt8.ofNat ((n / (2 ^ (8 * i):Nat)) % 256).toNat).toNat:Int):Int) from Zr _];refine wC (Z5I (c:=UInt8.ofNat ((n / (2 ^ (8 * i):Nat)) % 256).toNat) hs_T22 (eS hz11) ?_);rintro w14 u14 f14 s14 ou14;refine wC (Z0c hs_T22 hz_T22 (eS hz11) (eS hz11) (ho.upTo f14 (From.mono f14.size)) ou14 (by simp only[List.length_singleton];omega) ?_);rintro v15 w15 fa15 oa15 sp15 -;refine wC (wAs (v:=v15) (eS hz11) ?_);refine wEk hz11 hd11 fun a16 ha16 hz16 hd16=>?_;have g16_0:=kP ha16 g11_0;have g16_5:get a16 5=v15:=kG ha16 hz11;have g16_6:=kP ha16 g11_6;refine hK13 a16 w15 ?_;refine Z2 ?_;refine wC (wMv (v:=.int .i64 (i:Int)) (eK g16_6) ?_);refine wC (Z1P (k1:=.i64) (i:=(i:Int)) (j:=1) (eS hz16) rfl ?_);rw[show (IntKind.i64.wrap (((i:Int):Int) - (1:Int)):Int)=((i:Int) - 1:Int) from by simp[IntKind.wrap,IntKind.bits,IntKind.signed];omega];refine wC (wAs (v:=.int .i64 ((i:Int) - 1)) (eS hz16) ?_);refine wEk hz16 hd16 fun a17 ha17 hz17 hd17=>?_;have g17_0:=kP ha17 g16_0;have g17_5:=kP ha17 g16_5;have g17_6:get a17 6 = .int .i64 ((i:Int) - 1):=kG ha17 hz16;refine ⟨i,by omega,_,ys++[UInt8.ofNat ((n / (2 ^ (8 * i):Nat)) % 256).toNat],hz17,hd17,g17_0,g17_5,g17_6,by omega,by rw[← hys,List.append_assoc];rfl,?_,?_⟩
    · exact oa15.imp_A (Z2W (Nat.le_trans hfw.size f14.size) fa15.size)
    exact Z0C (hfw.tr f14) fa15 (ho.upTo f14 (From.mono f14.size)) (fun b hb=>hb.1)
  have hj0:j=0:=by simp at hc12;omega
  simp only[hj0,fxW,List.append_nil] at hys;refine wp_exit ?_;show K5 a11 w8
  refine hK5 a11 w8 (tUp ?_);refine wT fun K18 hK18=>?_;refine wC (wMv (v:=v) (eK g11_5) ?_);refine wC (wAs (v:=v) (eS hz11) ?_);refine wEk hz11 hd11 fun a19 ha19 hz19 hd19=>?_;have g19_4:get a19 4=v:=kG ha19 hz11;refine hK18 a19 w8 (tUp ?_);refine wp_ret ?_;exact ⟨hd19,v,by rw[← g19_4];exact Z6 hres,v,rfl,hfw,by rw[← hys];exact ho⟩
theorem Z1C (m:Nat):1≤(uvW m).length:=by rw[uvW];split <;> simp
theorem Z6j:∀ (k n:Nat),0 < k→n < 128 ^ k→(uvW n).length≤k
  | 0,_,h,_=>by omega
  | k + 1, n, _, h => by
    rw[uvW]
    split
    · rename_i hn
      have hk:0 < k:=by
        by_cases h0:k=0
        · subst h0;simp at h;omega
        omega
      have:=Z6j k (n / 128) hk (by rw[Nat.pow_succ] at h;omega);simp only[List.length_cons];omega
    simp
theorem uvW_len (n:Nat) (h:n < 18446744073709551616):(uvW n).length≤10:=Z6j 10 n (by omega) (by simp only[Nat.reducePow];omega)
theorem band127 (m:Nat) (h:m < 18446744073709551616):bits .and .u64 (m:Int) 127=((m % 128:Nat):Int):=by
  have:=bits_mask .u64 64 (by decide) wraps_u64 7 (by decide) (m:Int) (by omega) (by omega);simp at this
  rw[this];omega
set_option maxRecDepth 100000 in
theorem Z5s:∀ c,c < 128→c ||| 128=c+128:=by decide
theorem bor128 (m:Nat):bits .or .u8 ((m % 128:Nat):Int) 128=((UInt8.ofNat (m % 128+128)).toNat:Int):=by
  have hm:=Nat.mod_lt m (show 0 < 128 by omega);have:=(bits_nat .u8 8 (by decide) wraps_u8 (m % 128) 128 (by omega) (by omega)).2;rw[show ((128:Nat):Int)=128 from rfl] at this;rw[this,Z5s _ hm];simp;omega
structure UvWM (P:Program) (f:FuncId):Prop where
  enters:Enters P f
  call:∀ (w:World) (n:Nat),n < 18446744073709551616→Calls P f #[.int .u64 n] w (Z5F w (uvW n))
theorem Z7w {P:Program} {f:FuncId} {fn:Func} {T5 T22 T73 T93:TypeId} {i0 i1 i2 i3 i4 i5:Nat} {t0 t1 t2 t3 t4 t5 t6 t7 t8 t9 t10 t11 t12 t13 t14 t15 t16 t17 t18 t19 t20:TypeId} {p0 p1 p2 p3 p4 p5 p6 p7 p8 p9 p10 p11 p12 p13 p14 p15 p16 p17 p18 p19 p20:String} {e0 e1 e2 e3 e4 e5 e6 e7 e8 e9 e10 e11 e12 e13 e14 e15 e16 e17 e18 e19 e20:Array Edge} {te:TypeId}
    (hf:P.funcs[f]?=some fn) (hname:nG fn=false) (hres:fn.results = #[.tmp 2]) (hN:fn.ntmps=20)
    (hbody:fn.body=some (.seq (Code.region i0 ⟨[oA 2 (.const (.slice none 0 0)) t0 p0 e0]⟩ false) (.seq (Code.region i1 ⟨[oA 3 (.const (.slice none 0 0)) t1 p1 e1]⟩ false) (.seq (.block 0 (.loop (.seq (.seq (Code.region i2 ⟨[oM 4 0 t2 p2 e2,⟨some 5,.binOp .gtr T73 (.tmp 4) (.const (.int .u64 127)) T73,t3,p3,e3,none⟩]⟩ false) (.cond (.tmp 5) .skip
  (.exit 0))) (.block 1 (.seq (Code.region i3 ⟨[oM 6 3 t4 p4 e4,
    oM 7 0 t5 p5 e5,⟨some 8,.binOp .and T73 (.tmp 7) (.const (.int .u64 127)) T73,t6,p6,e6,none⟩,⟨some 9,.convert T73 T5 (.tmp 8),t7,p7,e7,none⟩,⟨some 10,.binOp .or T5 (.tmp 9) (.const (.int .u8 128)) T5,t8,p8,e8,none⟩,⟨some 11,.buildSlice T22 1 #[(0,.tmp 10)],t9,p9,e9,none⟩,⟨some 12,.call ⟨.builtin .append,#[(.tmp 6),(.tmp 11)],#[T22,T22]⟩,t10,p10,e10,none⟩,
    oT 3 12 t11 p11 e11]⟩ false)
  (Code.region i4 ⟨[oM 13 0 t12 p12 e12,⟨some 14,.binOp .shr T73 (.tmp 13) (.const (.int .u64 7)) T93,t13,p13,e13,none⟩,
    oT 0 14 t14 p14 e14]⟩ false)))))) (.seq (Code.region i5 ⟨[oM 15 3 t15 p15 e15,
    oM 16 0 t16 p16 e16,⟨some 17,.convert T73 T5 (.tmp 16),t17,p17,e17,none⟩,⟨some 18,.buildSlice T22 1 #[(0,.tmp 17)],t18,p18,e18,none⟩,⟨some 19,.call ⟨.builtin .append,#[(.tmp 15),(.tmp 18)],#[T22,T22]⟩,t19,p19,e19,none⟩,
    oT 2 19 t20 p20 e20]⟩ false) .ret)))))
    (hT73_u64:Zh P T73 .u64=true) (hT5_u8:Zh P T5 .u8=true) (hs_T22:Z4 P T22 te 1 1=true) (hz_T22:ZI P te [.int .u8 0]) :UvWM P f:=by
  refine ⟨enters_of hf hname hbody,?_⟩;intro w n hn;have hlen:=uvW_len n hn;refine calls_of_wp hf hbody ?_;generalize ha0:({ tmps:=#[Value.int .u64 (n:Int)]++Array.replicate (fn.ntmps - (#[Value.int .u64 (n:Int)]:Array Value).size) undef,defers:=[] }:Act)=a0;have hz0:a0.tmps.size=20:=by subst ha0;simp[hN]
  have hd0:a0.defers=[]:=by subst ha0;rfl
  have g0_0:get a0 0 = .int .u64 (n:Int):=by subst ha0;exact gAr rfl
  refine wT fun K1 hK1=>?_;refine wC (wAs (v:=.slice none 0 0) rfl ?_);refine wEk hz0 hd0 fun a2 ha2 hz2 hd2=>?_;have g2_0:=kP ha2 g0_0;refine hK1 a2 w (tUp ?_);refine wT fun K3 hK3=>?_;refine wC (wAs (v:=.slice none 0 0) rfl ?_);refine wEk hz2 hd2 fun a4 ha4 hz4 hd4=>?_;have g4_0:=kP ha4 g2_0;have g4_3:get a4 3 = .slice none 0 0:=kG ha4 hz2;refine hK3 a4 w (tUp ?_);refine tId (wp_seq_k fun K5 hK5=>?_);refine wp_block (wp_loop_ghost (fun (m:Nat) a' w'=>∃ (v:Value) (ys:List UInt8),a'.tmps.size=20∧a'.defers=[]∧get a' 0 = .int .u64 (m:Int)∧get a' 3=v∧m≤n∧ys++uvW m=uvW n∧Own w' (From w.heap.size w') 1 v ys.length (Z0 ys)∧Fr [] w w') n ?_ ?_)
  · exact ⟨.slice none 0 0,[],hz4,hd4,g4_0,g4_3,Nat.le_refl _,rfl,Own.nil,Fr.refl _ _⟩
  rintro m a6 w6 ⟨v,ys,hz6,hd6,g6_0,g6_3,hmn,hys,ho,hfw⟩;have hyl:ys.length+(uvW m).length=(uvW n).length:=by have:=congrArg List.length hys;simpa using this
  have hu1:1≤(uvW m).length:=Z1C m;refine wp_seq_k fun K7 hK7=>?_;refine wS fun K8 hK8=>?_;refine wC (wMv (v:=.int .u64 (m:Int)) (eK g6_0) ?_);refine wC (Z2m (k1:=.u64) (i:=(m:Int)) (j:=127) (eS hz6) rfl ?_);refine wEk hz6 hd6 fun a9 ha9 hz9 hd9=>?_;have g9_0:=kP ha9 g6_0;have g9_3:=kP ha9 g6_3;have g9_5:get a9 5 = .bool (decide (((m:Int):Int) > (127:Int))):=kG ha9 hz6;refine hK8 a9 w6 ?_;refine wp_cond_split (t:=decide (((m:Int):Int) > (127:Int))) (eK g9_5) (fun hc10=>?_) (fun hc10=>?_)
  · have hm : 127 < m := by simp at hc10; omega
    have hum:uvW m=UInt8.ofNat (m % 128+128)::uvW (m / 128):=by rw[uvW,if_pos hm]
    refine wp_skip ?_;refine hK7 a9 w6 ?_;refine Zj ?_;refine wS fun K11 hK11=>?_;refine wC (wMv (v:=v) (eK g9_3) ?_);refine wC (wMv (v:=.int .u64 (m:Int)) (eK g9_0) ?_);refine wC (Z0U (k1:=.u64) (i:=m) (j:=127) (eS hz9) rfl ?_);rw[band127 m (by omega)];refine wC (wCv (k1:=.u64) (i:=((m % 128:Nat):Int)) hT73_u64 hT5_u8 (eS hz9) ?_);rw[show (IntKind.u8.wrap (((m % 128:Nat):Int):Int))=(((m % 128:Nat):Int):Int) from by simp only[IntKind.wrap,IntKind.bits,IntKind.signed];simp;omega];refine wC (Z20 (k1:=.u8) (i:=((m % 128:Nat):Int)) (j:=128) (eS hz9) rfl ?_);rw[bor128 m];refine wC (Z5I (c:=UInt8.ofNat (m % 128+128)) hs_T22 (eS hz9) ?_);rintro w12 u12 f12 s12 ou12;refine wC (Z0c hs_T22 hz_T22 (eS hz9) (eS hz9) (ho.upTo f12 (From.mono f12.size)) ou12 (by simp only[List.length_singleton];omega) ?_);rintro v13 w13 fa13 oa13 sp13 -;refine wC (wAs (v:=v13) (eS hz9) ?_);refine wEk hz9 hd9 fun a14 ha14 hz14 hd14=>?_;have g14_0:=kP ha14 g9_0;have g14_3:get a14 3=v13:=kG ha14 hz9;refine hK11 a14 w13 ?_;refine Z2 ?_;refine wC (wMv (v:=.int .u64 (m:Int)) (eK g14_0) ?_);refine wC (Z08 (k1:=.u64) (i:=m) (n:=7) (eS hz14) rfl (by decide) ?_);rw[show ((m:Int) / (2 ^ 7:Nat))=((m / 128:Nat):Int) from by simp];refine wC (wAs (v:=.int .u64 ((m / 128:Nat):Int)) (eS hz14) ?_);refine wEk hz14 hd14 fun a15 ha15 hz15 hd15=>?_;have g15_0:get a15 0 = .int .u64 ((m / 128:Nat):Int):=kG ha15 hz14;have g15_3:=kP ha15 g14_3;refine ⟨m / 128,by omega,_,ys++[UInt8.ofNat (m % 128+128)],hz15,hd15,g15_0,g15_3,by omega,by rw[← hys,hum,List.append_assoc];rfl,?_,?_⟩
    · exact oa13.imp_A (Z2W (Nat.le_trans hfw.size f12.size) fa13.size)
    exact Z0C (hfw.tr f12) fa13 (ho.upTo f12 (From.mono f12.size)) (fun b hb=>hb.1)
  have hm:¬ 127 < m:=by simp at hc10;omega
  have hum:uvW m=[UInt8.ofNat m]:=by rw[uvW,if_neg hm]
  refine wp_exit ?_;show K5 a9 w6
  refine hK5 a9 w6 (tUp ?_);refine wT fun K16 hK16=>?_;refine wC (wMv (v:=v) (eK g9_3) ?_);refine wC (wMv (v:=.int .u64 (m:Int)) (eK g9_0) ?_);refine wC (wCv (k1:=.u64) (i:=(m:Int)) hT73_u64 hT5_u8 (eS hz9) ?_);rw[show (IntKind.u8.wrap ((m:Int):Int))=(((UInt8.ofNat m).toNat:Int):Int) from by simp only[IntKind.wrap,IntKind.bits,IntKind.signed,UInt8.toNat_ofNat'];simp];refine wC (Z5I (c:=UInt8.ofNat m) hs_T22 (eS hz9) ?_);rintro w17 u17 f17 s17 ou17;refine wC (Z0c hs_T22 hz_T22 (eS hz9) (eS hz9) (ho.upTo f17 (From.mono f17.size)) ou17 (by simp only[List.length_singleton];omega) ?_);rintro v18 w18 fa18 oa18 sp18 -;refine wC (wAs (v:=v18) (eS hz9) ?_);refine wEk hz9 hd9 fun a19 ha19 hz19 hd19=>?_;have g19_2:get a19 2=v18:=kG ha19 hz9;refine hK16 a19 w18 (tUp ?_);refine wp_ret ?_;refine ⟨hd19,v18,by rw[← g19_2];exact Z6 hres,v18,rfl,?_,?_⟩
  · exact Z0C (hfw.tr f17) fa18 (ho.upTo f17 (From.mono f17.size)) (fun b hb=>hb.1)
  rw[← hys,hum];exact oa18.imp_A (Z2W (Nat.le_trans hfw.size f17.size) fa18.size)
structure Z6K (P:Program) (f:FuncId):Prop where
  enters:Enters P f
  call:∀ (w:World) (kind:Int),Calls P f #[.int .i64 kind] w fun e w'=>e = .returned (.int .i64 (Zg kind:Nat))∧w'=w
theorem width_m {P:Program} {f:FuncId} {fn:Func} {T3:TypeId} {i0 i1 i2 i3 i4 i5 i6 i7 i8 i9:Nat} {t0 t1 t2 t3 t4 t5 t6 t7 t8 t9 t10 t11 t12 t13:TypeId} {p0 p1 p2 p3 p4 p5 p6 p7 p8 p9 p10 p11 p12 p13:String} {e0 e1 e2 e3 e4 e5 e6 e7 e8 e9 e10 e11 e12 e13:Array Edge} 
    (hf:P.funcs[f]?=some fn) (hname:nG fn=false) (hres:fn.results = #[.tmp 2]) (hN:fn.ntmps=11)
    (hbody:fn.body=some (.seq (Code.region i0 ⟨[oA 2 (.const (.int .i64 0)) t0 p0 e0]⟩ false) (.seq (.seq (Code.region i1 ⟨[oM 3 0 t1 p1 e1]⟩ false) (.block 0 (.seq (Code.region i2 ⟨[⟨some 5,.binOp .eql T3 (.tmp 3) (.const (.int .i64 1)) T3,t2,p2,e2,none⟩,
    oT 4 5 t3 p3 e3]⟩ false) (.cond (.tmp 4) (.seq (Code.region i3 ⟨[oA 2 (.const (.int .i64 1)) t4 p4 e4]⟩ false) .ret) (.seq (.seq (Code.region i4 ⟨[⟨some 7,.binOp .eql T3 (.tmp 3) (.const (.int .i64 2)) T3,t5,p5,e5,none⟩,
    oT 6 7 t6 p6 e6]⟩ false) (.cond (.tmp 6) .skip
  (Code.region i5 ⟨[⟨some 8,.binOp .eql T3 (.tmp 3) (.const (.int .i64 5)) T3,t7,p7,e7,none⟩,
    oT 6 8 t8 p8 e8]⟩ false))) (.cond (.tmp 6) (.seq (Code.region i6 ⟨[oA 2 (.const (.int .i64 2)) t9 p9 e9]⟩ false) .ret) (.seq (Code.region i7 ⟨[⟨some 10,.binOp .eql T3 (.tmp 3) (.const (.int .i64 3)) T3,t10,p10,e10,none⟩,
    oT 9 10 t11 p11 e11]⟩ false) (.cond (.tmp 9) (.seq (Code.region i8 ⟨[oA 2 (.const (.int .i64 4)) t12 p12 e12]⟩ false) .ret) .skip)))))))) (.seq (Code.region i9 ⟨[oA 2 (.const (.int .i64 8)) t13 p13 e13]⟩ false) .ret))))
      : Z6K P f:=by
  refine ⟨enters_of hf hname hbody,?_⟩;intro w kind;refine calls_of_wp hf hbody ?_;generalize ha0:({ tmps:=#[Value.int .i64 kind]++Array.replicate (fn.ntmps - (#[Value.int .i64 kind]:Array Value).size) undef,defers:=[] }:Act)=a0;have hz0:a0.tmps.size=11:=by subst ha0;simp[hN]
  have hd0:a0.defers=[]:=by subst ha0;rfl
  have g0_0:get a0 0 = .int .i64 kind:=by subst ha0;exact gAr rfl
  refine wT fun K1 hK1=>?_;refine wC (wAs (v:=.int .i64 0) rfl ?_);refine wEk hz0 hd0 fun a2 ha2 hz2 hd2=>?_;have g2_0:=kP ha2 g0_0;refine hK1 a2 w (tUp ?_);refine tId (wp_seq_k fun K3 hK3=>?_);refine wS fun K4 hK4=>?_;refine wC (wMv (v:=.int .i64 kind) (eK g2_0) ?_);refine wEk hz2 hd2 fun a5 ha5 hz5 hd5=>?_;have g5_3:get a5 3 = .int .i64 kind:=kG ha5 hz2;refine hK4 a5 w ?_;refine Zj ?_;refine wS fun K6 hK6=>?_;refine wC (Z0i (k1:=.i64) (i:=kind) (j:=1) (eK g5_3) rfl ?_);refine wC (wAs (v:=.bool ((kind:Int)==(1:Int))) (eS hz5) ?_);refine wEk hz5 hd5 fun a7 ha7 hz7 hd7=>?_;have g7_3:=kP ha7 g5_3;have g7_4:get a7 4 = .bool ((kind:Int)==(1:Int)):=kG ha7 hz5;refine hK6 a7 w ?_;refine wp_cond_split (t:=((kind:Int)==(1:Int))) (eK g7_4) (fun hc8=>?_) (fun hc8=>?_)
  · refine wp_seq_k fun K9 hK9=>?_;refine Z2 ?_;refine wC (wAs (v:=.int .i64 1) rfl ?_);refine wEk hz7 hd7 fun a10 ha10 hz10 hd10=>?_;have g10_2:get a10 2 = .int .i64 1:=kG ha10 hz7;refine hK9 a10 w ?_;refine wp_ret ?_;exact ⟨hd10,.int .i64 1,by rw[← g10_2];exact Z6 hres,by first | (exfalso;simp_all;done) | (simp_all [Zg]),rfl⟩
  refine wp_seq_k fun K11 hK11=>?_;refine wS fun K12 hK12=>?_;refine wC (Z0i (k1:=.i64) (i:=kind) (j:=2) (eK g7_3) rfl ?_);refine wC (wAs (v:=.bool ((kind:Int)==(2:Int))) (eS hz7) ?_);refine wEk hz7 hd7 fun a13 ha13 hz13 hd13=>?_;have g13_3:=kP ha13 g7_3;have g13_6:get a13 6 = .bool ((kind:Int)==(2:Int)):=kG ha13 hz7;refine hK12 a13 w ?_;refine wp_cond_split (t:=((kind:Int)==(2:Int))) (eK g13_6) (fun hc14=>?_) (fun hc14=>?_)
  · refine wp_skip ?_;refine hK11 a13 w ?_;refine wp_cond_split (t := ((kind : Int) == (2 : Int))) (eK g13_6) (fun hc15 => ?_) (fun hc15 => ?_)
    · refine wp_seq_k fun K16 hK16=>?_;refine Z2 ?_;refine wC (wAs (v:=.int .i64 2) rfl ?_);refine wEk hz13 hd13 fun a17 ha17 hz17 hd17=>?_;have g17_2:get a17 2 = .int .i64 2:=kG ha17 hz13;refine hK16 a17 w ?_;refine wp_ret ?_;exact ⟨hd17,.int .i64 2,by rw[← g17_2];exact Z6 hres,by first | (exfalso;simp_all;done) | (simp_all [Zg]),rfl⟩
    refine wp_seq_k fun K18 hK18=>?_;refine Z2 ?_;refine wC (Z0i (k1:=.i64) (i:=kind) (j:=3) (eK g13_3) rfl ?_);refine wC (wAs (v:=.bool ((kind:Int)==(3:Int))) (eS hz13) ?_);refine wEk hz13 hd13 fun a19 ha19 hz19 hd19=>?_;have g19_9:get a19 9 = .bool ((kind:Int)==(3:Int)):=kG ha19 hz13;refine hK18 a19 w ?_;refine wp_cond_split (t:=((kind:Int)==(3:Int))) (eK g19_9) (fun hc20=>?_) (fun hc20=>?_)
    · refine wp_seq_k fun K21 hK21=>?_;refine Z2 ?_;refine wC (wAs (v:=.int .i64 4) rfl ?_);refine wEk hz19 hd19 fun a22 ha22 hz22 hd22=>?_;have g22_2:get a22 2 = .int .i64 4:=kG ha22 hz19;refine hK21 a22 w ?_;refine wp_ret ?_;exact ⟨hd22,.int .i64 4,by rw[← g22_2];exact Z6 hres,by first | (exfalso;simp_all;done) | (simp_all [Zg]),rfl⟩
    refine wp_skip ?_;refine hK3 a19 w (tUp ?_);refine wT fun K23 hK23=>?_;refine wC (wAs (v:=.int .i64 8) rfl ?_);refine wEk hz19 hd19 fun a24 ha24 hz24 hd24=>?_;have g24_2:get a24 2 = .int .i64 8:=kG ha24 hz19;refine hK23 a24 w (tUp ?_);refine wp_ret ?_;exact ⟨hd24,.int .i64 8,by rw[← g24_2];exact Z6 hres,by first | (exfalso;simp_all;done) | (simp_all [Zg]),rfl⟩
  refine Z2 ?_;refine wC (Z0i (k1:=.i64) (i:=kind) (j:=5) (eK g13_3) rfl ?_);refine wC (wAs (v:=.bool ((kind:Int)==(5:Int))) (eS hz13) ?_);refine wEk hz13 hd13 fun a25 ha25 hz25 hd25=>?_;have g25_3:=kP ha25 g13_3;have g25_6:get a25 6 = .bool ((kind:Int)==(5:Int)):=kG ha25 hz13;refine hK11 a25 w ?_;refine wp_cond_split (t:=((kind:Int)==(5:Int))) (eK g25_6) (fun hc26=>?_) (fun hc26=>?_)
  · refine wp_seq_k fun K27 hK27=>?_;refine Z2 ?_;refine wC (wAs (v:=.int .i64 2) rfl ?_);refine wEk hz25 hd25 fun a28 ha28 hz28 hd28=>?_;have g28_2:get a28 2 = .int .i64 2:=kG ha28 hz25;refine hK27 a28 w ?_;refine wp_ret ?_;exact ⟨hd28,.int .i64 2,by rw[← g28_2];exact Z6 hres,by first | (exfalso;simp_all;done) | (simp_all [Zg]),rfl⟩
  refine wp_seq_k fun K29 hK29=>?_;refine Z2 ?_;refine wC (Z0i (k1:=.i64) (i:=kind) (j:=3) (eK g25_3) rfl ?_);refine wC (wAs (v:=.bool ((kind:Int)==(3:Int))) (eS hz25) ?_);refine wEk hz25 hd25 fun a30 ha30 hz30 hd30=>?_;have g30_9:get a30 9 = .bool ((kind:Int)==(3:Int)):=kG ha30 hz25;refine hK29 a30 w ?_;refine wp_cond_split (t:=((kind:Int)==(3:Int))) (eK g30_9) (fun hc31=>?_) (fun hc31=>?_)
  · refine wp_seq_k fun K32 hK32=>?_;refine Z2 ?_;refine wC (wAs (v:=.int .i64 4) rfl ?_);refine wEk hz30 hd30 fun a33 ha33 hz33 hd33=>?_;have g33_2:get a33 2 = .int .i64 4:=kG ha33 hz30;refine hK32 a33 w ?_;refine wp_ret ?_;exact ⟨hd33,.int .i64 4,by rw[← g33_2];exact Z6 hres,by first | (exfalso;simp_all;done) | (simp_all [Zg]),rfl⟩
  refine wp_skip ?_;refine hK3 a30 w (tUp ?_);refine wT fun K34 hK34=>?_;refine wC (wAs (v:=.int .i64 8) rfl ?_);refine wEk hz30 hd30 fun a35 ha35 hz35 hd35=>?_;have g35_2:get a35 2 = .int .i64 8:=kG ha35 hz30;refine hK34 a35 w (tUp ?_);refine wp_ret ?_;exact ⟨hd35,.int .i64 8,by rw[← g35_2];exact Z6 hres,by first | (exfalso;simp_all;done) | (simp_all [Zg]),rfl⟩
end Go.Kq

namespace Go.Kq
open Go Go.Proofs
def Apd (w:World) (A:Nat→Prop) (dst:Value) (zs:List UInt8) (e:Ending) (w':World):Prop :=
  ∃ u,e = .returned u∧Fr (Z1 dst 1) w w'∧Own w' (fun b=>A b∨(w.heap.size≤b∧b < w'.heap.size)) 1 u zs.length (Z0 zs)∧∀ r ∈ Z1 u 1,r.In (Z1 dst 1) w
theorem Apd.ret {P:Program} {f:FuncId} {vs:Array Value} {w:World} {A:Nat→Prop} {dst:Value} {zs:List UInt8} (h:Calls P f vs w (Apd w A dst zs)) :
    Calls P f vs w fun e w'=>∃ u,e = .returned u∧(Fr (Z1 dst 1) w w'∧Own w' (fun b=>A b∨(w.heap.size≤b∧b < w'.heap.size)) 1 u zs.length (Z0 zs)∧∀ r ∈ Z1 u 1,r.In (Z1 dst 1) w):=h
theorem Rng.in_trans {r:Rng} {l l':List Rng} {w w':World} (h:r.In l' w') (hl:∀ x ∈ l',x.In l w) (hs:w.heap.size≤w'.heap.size):r.In l w:=by
  rcases h with h | ⟨x,hx,e,h1,h2⟩
  · exact .inl (by omega)
  rcases hl x hx with h3 | ⟨y,hy,e',h3,h4⟩
  · exact .inl (by omega)
  exact .inr ⟨y,hy,e'.trans e,by omega,by omega⟩
theorem Z0n {w0 w1 w2:World} {A:Nat→Prop} (h01:w0.heap.size≤w1.heap.size) (h12:w1.heap.size≤w2.heap.size) (b:Nat) (hb:(A b∨(w0.heap.size≤b∧b < w1.heap.size))∨(w1.heap.size≤b∧b < w2.heap.size)):A b∨(w0.heap.size≤b∧b < w2.heap.size):=by
  rcases hb with (hb | hb) | hb
  · exact .inl hb
  · exact .inr ⟨hb.1,by omega⟩
  exact .inr ⟨by omega,hb.2⟩
section
variable {P:Program} {a:Act} {w:World} {K:Act→World→Prop} {Q:Exit→Act→World→Prop} {d:Option Tmp} {t:TypeId} {p:String} {af:Array Edge} {g:Option (Nat × Bool)}
theorem Z1Z {T e:TypeId} {n:Nat} {xs:List Operand} {cs:List UInt8} (hT:Z4 P T e 1 1=true) (hx:xs.map a.eval=cs.map fun c=>.int .u8 (c.toNat:Int)) (hn:n=cs.length) (h0:0 < n) (h1:n≤16777216)
    (k:∀ w' u,Fr [] w w'→OctE w' (fun b=>b=w.heap.size) u cs→K (a.put d u) w') :
    OW P ⟨d,.buildSlice T n ((xs.zipIdx 0).map fun x=>(x.2,x.1)).toArray,t,p,af,g⟩ a w K Q:=by
  have hfl:(cs.map fun c=>[Value.int .u8 (c.toNat:Int)]).flatten=Z0 cs:=by
    have:∀ (l:List UInt8),(l.map fun c=>[Value.int .u8 (c.toNat:Int)]).flatten=Z0 l:=by
      intro l
      induction l with
      | nil=>rfl
      | cons c l ih=>rw[List.map_cons,List.flatten_cons,ih];rfl
    exact this cs
  have hr:=ZD w (Z0 cs).toArray e (0,0);refine Z1o (css:=cs.map fun c=>[.int .u8 (c.toNat:Int)]) hT (by simpa using hn) h0 (by omega) (by rw[hx];simp only[List.map_map];congr 1) (by intro c hc;simp at hc;obtain ⟨_,_,rfl⟩:=hc;rfl) (k _ _ (Fr.alloc _ _ _) ?_);rw[hfl,hn];exact .inl ⟨some cs,.inr ⟨w.heap.size,0,cs.length,cs,rfl,rfl,⟨Nat.le_refl _,by omega⟩,by simpa using hr,rfl⟩,rfl⟩
theorem Z0I {T e:TypeId} {A B:Nat→Prop} {v u:Value} {xs ys:List UInt8} {x y:Operand} (hT:Z4 P T e 1 1=true) (hz:ZI P e [.int .u8 0])
    (hx:a.eval x=v) (hy:a.eval y=u) (h:Own w A 1 v xs.length (Z0 xs)) (hu:OctE w B u ys) (hb:xs.length+ys.length≤4294967296)
    (k:∀ v' w',(∀ e',e' = .returned v'→Apd w A v (xs++ys) e' w')→K (a.put d v') w') :
    OW P ⟨d,.call ⟨.builtin .append,#[x,y],#[T,T]⟩,t,p,af,g⟩ a w K Q :=
  Z0c hT hz hx hy h hu hb fun v' w' f ho hin _=>k v' w' fun e' he=>⟨v',he,f,ho,hin⟩
theorem Z50 {T:TypeId} {x:Operand} {s:ByteArray} (hT:Z2N P T=true) (hx:a.eval x = .string s) (k:K (a.put d (.int .i64 s.data.toList.length)) w):OW P ⟨d,.call ⟨.builtin .len,#[x],#[T]⟩,t,p,af,g⟩ a w K Q:=by
  refine Zf (v:=.int .i64 s.data.toList.length) (w':=w) ?_ k;have:=Z2L hT;simp[execOp,resolve,invoke,builtin,Builtin.len_,hx,run_underlying this,goInt,Z7F]
theorem Z2E {T:TypeId} {x y:Operand} {s:ByteArray} {k1:IntKind} {i:Nat} {c:UInt8} (hT:Z2N P T=true) (hx:a.eval x = .string s) (hy:a.eval y = .int k1 (i:Int)) (hc:s[i]?=some c) (k:K (a.put d (.int .u8 (c.toNat:Int))) w) :
    OW P ⟨d,.index T x y,t,p,af,g⟩ a w K Q:=by
  refine Zf (v:=.int .u8 (c.toNat:Int)) (w':=w) ?_ k;simp[execOp,hx,hy,Instr.index,asIntOf,run_underlying (Z2L hT),hc]
theorem Z6Z (s:ByteArray):Lib.strCells s=Z0 s.data.toList:=rfl
theorem Z54 {T S e:TypeId} {A:Nat→Prop} {v:Value} {xs:List UInt8} {s:ByteArray} {x y:Operand} (hT:Z4 P T e 1 1=true) (hS:Z2N P S=true) (hz:ZI P e [.int .u8 0])
    (hx:a.eval x=v) (hy:a.eval y = .string s) (h:Own w A 1 v xs.length (Z0 xs)) (hb:xs.length+s.data.toList.length≤4294967296)
    (k:∀ v' w',(∀ e',e' = .returned v'→Apd w A v (xs++s.data.toList) e' w')→K (a.put d v') w') :
    OW P ⟨d,.call ⟨.builtin .append,#[x,y],#[T,S]⟩,t,p,af,g⟩ a w K Q:=by
  obtain ⟨hut,i,z0,hi,hs',hby,hzz,hsz⟩:=Zu hT;obtain ⟨i',v0,hi',hz',hzc⟩:=hz;rw[hi] at hi';obtain rfl:=Option.some.inj hi';rw[hzz] at hz';obtain rfl:=Option.some.inj hz';have hus:=Z2L hS;have hss:=Z7F s;have key:∃ v' w',(Builtin.append_ #[T,S] t #[v,.string s]).run P w = .ok v' w'∧Fr (Z1 v 1) w w'∧Own w' (fun b=>A b∨(w.heap.size≤b∧b < w'.heap.size)) 1 v' (xs++s.data.toList).length (Z0 (xs++s.data.toList))∧∀ r ∈ Z1 v' 1,r.In (Z1 v 1) w:=by
    by_cases h0:s.size=0
    · have hnil:s.data.toList=[]:=List.eq_nil_of_length_eq_zero (by omega);obtain ⟨q',cap',rfl⟩:=h.sl;have hle:xs.length≤cap':=by
        obtain ⟨_,⟨hv,h0⟩ | ⟨g,o,cap,hg,hv,hc,_⟩⟩:=h
        · omega
        cases hv;exact hc
      have hr:(Builtin.append_ #[T,S] t #[.slice q' xs.length cap',.string s]).run P w = .ok (.slice q' xs.length cap') w:=by
        cases q' <;> simp[Builtin.append_,run_underlying hut,run_underlying hus,sizeOf,typeInfo,hi,Builtin.lenOf,Builtin.firstCells,storeCells,hle,h0]
      refine ⟨_,w,hr,Fr.refl _ _,?_,fun r hr=>Rng.in_self hr⟩;rw[hnil,List.append_nil];exact h.upTo (Fr.refl _ _) fun _ h=>.inl h
    have hpos:0 < s.size:=Nat.pos_of_ne_zero h0;obtain ⟨hxl,⟨rfl,hn⟩ | ⟨g,o,cap,hg,rfl,hnc,hcm,hr,ht⟩⟩:=h
    · have hxs : xs = [] := List.eq_nil_of_length_eq_zero hn;subst hxs;have hrun := run_append_nil_string (P := P) w T S t e i z0 hut hus hi hzz s hpos (by omega) (by rw [hby]; omega);have hge := grownCap_ge w s.size 0 e;have hcells : (s.data.map fun b => Value.int .u8 b.toNat).toList = Z0 s.data.toList := by simp [Z0]
      refine ⟨_,_,hrun,(Fr.drew _ w).tr (Fr.alloc _ w.drew _),⟨by rw[lOc,Nat.mul_one],.inr ⟨w.heap.size,0,grownCap w s.size 0 e,.inr ⟨Nat.le_refl _,by rw[Zd];exact Nat.lt_succ_self _⟩,by rw[List.nil_append,hss],by rw[List.nil_append,hss];exact hge,grownCap_le_maxLen w s.size 0 e (by simp only[maxLen];omega),?_,?_⟩⟩,fun r hr=>by rw[Z0t] at hr;simp at hr;subst hr;exact .inl (Nat.le_refl _)⟩
      · have:=ZD w.drew ((s.data.map fun b=>Value.int .u8 b.toNat)++Builtin.zeroCells z0.cells (grownCap w s.size 0 e - s.size)) e (0,0);rw[Array.toList_append,Z3,hcells] at this;exact this.1
      refine Z8 (Zx w.drew _ e) (Nat.le_refl _) ?_;simp[Builtin.zeroCells]
      have hz1:z0.cells.size=1:=by have:=congrArg List.length hzc;simpa using this
      rw[hz1];omega
    by_cases hroom:xs.length+s.size≤cap
    · have hths:w.there g (o+xs.length * 1) (Lib.strCells s).length:=Z8 ht (by omega) (by rw[Lib.strCells_length];omega);have hf:=Lib.run_firstCells_string (P:=P) w 1 s;have hst:=run_storeCells_cells (P:=P) g (o+xs.length * 1) (Lib.strCells s) 0 w (fun j hj=>by simpa using (hths j hj).1) (fun j hj=>by simpa using (hths j hj).2) (Lib.strCells_oneCell s);simp only[Nat.add_zero] at hst;have hrun:(Builtin.append_ #[T,S] t #[.slice (some ⟨g,o,none⟩) xs.length cap,.string s]).run P w = .ok (.slice (some ⟨g,o,none⟩) (xs.length+s.size) cap) (w.setCells g (o+xs.length * 1) (Lib.strCells s)):=by
        simp only[Nat.mul_one] at hst ⊢;simp[Builtin.append_,run_underlying hut,run_underlying hus,sizeOf,typeInfo,hi,hs',Builtin.lenOf,hroom,hf,Addr.add_lit,hst]
      have hfr:=Fr.sets g (Lib.strCells s) w (o+xs.length * 1);refine ⟨_,_,hrun,?_,⟨by rw[lOc,Nat.mul_one],.inr ⟨g,o,cap,.inl hg,by rw[List.length_append,hss],by rw[List.length_append,hss];exact hroom,hcm,?_,hfr.there ht⟩⟩,fun r hr=>by rw[Z0t] at hr ⊢;simp at hr;subst hr;exact .inr ⟨⟨g,o+xs.length * 1,o+cap * 1⟩,by simp,rfl,by simp only;omega,by simp only;omega⟩⟩
      · rw [Z0t];refine hfr.mono ?_;intro r hr;simp at hr; subst hr
        exact .inr ⟨⟨g,o+xs.length * 1,o+cap * 1⟩,by simp,rfl,by simp only;omega,by simp only[Lib.strCells_length];omega⟩
      rw[Z0z,Z3,lOc];refine ⟨hfr.range hr (.cons (.inr (.inl (by rw[lOc];simp only;omega))) .nil),?_⟩;have:=World.rangeAt_setCells_same w g (o+xs.length * 1) (Lib.strCells s) hths;rw[Nat.mul_one,Z6Z] at this;rw[Nat.mul_one];exact this
    have hgr:cap < xs.length+s.size:=by omega
    have hrun:=Lib.run_append_grow_string (P:=P) w T S t e i z0 hut hus hi hzz ⟨g,o,none⟩ xs.length cap (Z0 xs) (by rw[lOc,hs',Nat.mul_one]) (fun j u hj=>by rw[Addr.add_mid];exact hr j u hj) s hgr (by omega) (growslice_fits hgr (by rw[hby];omega));have hge:=grownCap_ge w (xs.length+s.size) cap e;refine ⟨_,_,hrun,(Fr.drew _ w).tr (Fr.alloc _ w.drew _),⟨by rw[lOc,Nat.mul_one],.inr ⟨w.heap.size,0,grownCap w (xs.length+s.size) cap e,.inr ⟨Nat.le_refl _,by rw[Zd];exact Nat.lt_succ_self _⟩,by rw[List.length_append,hss],by rw[List.length_append,hss];exact hge,grownCap_le_maxLen w (xs.length+s.size) cap e (by simp only[maxLen];omega),?_,?_⟩⟩,fun r hr=>by rw[Z0t] at hr;simp at hr;subst hr;exact .inl (Nat.le_refl _)⟩
    · have:=ZD w.drew ((Z0 xs).toArray++(Lib.strCells s).toArray++Builtin.zeroCells z0.cells (grownCap w (xs.length+s.size) cap e - (xs.length+s.size))) e (0,0);rw[Array.toList_append,Array.toList_append,Z3] at this;rw[Z0z];exact this.1
    refine Z8 (Zx w.drew _ e) (Nat.le_refl _) ?_;have hz1:z0.cells.size=1:=by have:=congrArg List.length hzc;simpa using this
    have hsc:=Lib.strCells_length s;simp[Builtin.zeroCells,lOc,hz1,hsc]
    omega
  obtain ⟨v',w',hr,hf,ho,hin⟩:=key;refine Zf (v:=v') (w':=w') ?_ (k v' w' fun e' he=>⟨v',he,hf,ho,hin⟩);simp[execOp,resolve,invoke,builtin,hx,hy,hr]
end
theorem Z1J (i:Int):fxW (i % 4294967296) 4=fxW i 4:=by
  simp only[fxW,Nat.reduceMul,Nat.reducePow,List.cons.injEq,and_true];refine ⟨?_,?_,?_,?_⟩ <;> congr 2 <;> omega
theorem Z2z (i:Int):fxW (i % 65536) 2=fxW i 2:=by
  simp only[fxW,Nat.reduceMul,Nat.reducePow,List.cons.injEq,and_true];refine ⟨?_,?_⟩ <;> congr 2 <;> omega
theorem Z1I (i:Int):fxW (i % 18446744073709551616) 8=fxW i 8:=by
  simp only[fxW,Nat.reduceMul,Nat.reducePow,List.cons.injEq,and_true];refine ⟨?_,?_,?_,?_,?_,?_,?_,?_⟩ <;> congr 2 <;> omega
end Go.Kq
