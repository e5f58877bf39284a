/- A part of the library: rules of reasoning about the program's operations and what its shared functions do. -/
import Derived.Test.YtnfcfigefdbkhaaGreatDoorKqP02
import Derived.Laws.IdiomCopy
import Derived.Lib.SortBridge
import Derived.Sort.LotA
import Derived.Shelf.GgSortFunc.Whole
import Derived.Shelf.GgSortFunc.Tiny
import Derived.Test.YtnfcfigefdbkhaaGreatDoorKqP01
import Derived.Laws.Small
set_option linter.unusedVariables false
set_option linter.unusedSimpArgs false
namespace Go.Kq
open Go Go.Proofs
def rdUv (st:RSt):Nat × RSt :=
  match uv st.xs with
  | some (x,n)=>(x,{ st with xs:=st.xs.drop n })
  | none=>(0,.fail)
def gUv (st:RSt):V × RSt:=(.n (rdUv st).1,(rdUv st).2)
theorem rdUv_lt (st:RSt):(rdUv st).1 < 4294967296:=by
  unfold rdUv
  split
  · rename_i x n h;exact (uv_spec h).1
  simp
theorem RW.octe {w:World} {rb sb:Nat} {st:RSt} (h:RW w rb sb st):∃ sv,w.cell? ⟨rb,0,none⟩=Option.some sv∧OctE w (·=sb) sv st.xs:=by
  obtain ⟨sv,h0,h1,f0,f1,hrb,hs⟩:=h.cells;refine ⟨sv,h0,?_⟩
  rcases hs with ⟨hn,hxs,rfl⟩ | ⟨hn,o,cap,rfl,hc,hr⟩
  · rw[hxs];exact .nil
  exact .inl ⟨Option.some st.xs,.inr ⟨sb,o,cap,st.xs,rfl,rfl,hc,hr,rfl⟩,rfl⟩
set_option maxRecDepth 10000 in
/-- The reader's own. -/
theorem rdruv_m {P:Program} {f:FuncId} {fn:Func} {et:TypeId} {T3 T4 T22 T114:TypeId} {f100:FuncId} {a0:Array TypeId} {i0 i1 i2 i3 i4 i5 i6 i7:Nat}
    {t0 t1 t2 t3 t4 t5 t6 t7 t8 t9 t10 t11 t12 t13 t14 t15 t16 t17 t18 t19 t20 t21 t22 t23 t24 t25 t26 t27 t28 t29 t30 t31 t32 t33:TypeId} {p0 p1 p2 p3 p4 p5 p6 p7 p8 p9 p10 p11 p12 p13 p14 p15 p16 p17 p18 p19 p20 p21 p22 p23 p24 p25 p26 p27 p28 p29 p30 p31 p32 p33:String} {e0 e1 e2 e3 e4 e5 e6 e7 e8 e9 e10 e11 e12 e13 e14 e15 e16 e17 e18 e19 e20 e21 e22 e23 e24 e25 e26 e27 e28 e29 e30 e31 e32 e33:Array Edge}
    (hf:P.funcs[f]?=some fn) (hname:(fn.name == "runtime.NumGoroutine")=false) (hres:fn.results = #[.tmp 2]) (hN:fn.ntmps=31)
    (hbody:fn.body=some (.seq (Code.region i0 ⟨[oA 2 (.const (.int .u32 0)) t0 p0 e0]⟩ false) (.seq (Code.region i1 ⟨[oM 6 0 t1 p1 e1,⟨some 7,.nilCheck (.tmp 6),t2,p2,e2,none⟩,
    oF 8 T114 7 0 t3 p3 e3,
    oL 9 T22 8 t4 p4 e4,
    oC 10 f100 #[(.tmp 9)] a0 t5 p5 e5,
    oM 5 10 t6 p6 e6,⟨some 11,.extract (.tmp 5) 0,t7,p7,e7,none⟩,⟨some 12,.extract (.tmp 5) 1,t8,p8,e8,none⟩,
    oT 3 11 t9 p9 e9,
    oT 4 12 t10 p10 e10]⟩ false) (.seq (.seq (Code.region i2 ⟨[oM 13 4 t11 p11 e11,⟨some 14,.binOp .leq T3 (.tmp 13) (.const (.int .i64 0)) T3,t12,p12,e12,none⟩]⟩ false) (.cond (.tmp 14) (.seq (Code.region i3 ⟨[oM 15 0 t13 p13 e13,⟨some 16,.nilCheck (.tmp 15),t14,p14,e14,none⟩,
    oF 17 T114 16 1 t15 p15 e15,⟨none,.store T4 (.tmp 17) (.const (.bool true)),t16,p16,e16,none⟩]⟩ false) (.seq (Code.region i4 ⟨[oM 18 0 t17 p17 e17,⟨some 19,.nilCheck (.tmp 18),t18,p18,e18,none⟩,
    oF 20 T114 19 0 t19 p19 e19,⟨none,.store T22 (.tmp 20) (.const (.slice none 0 0)),t20,p20,e20,none⟩]⟩ false) (.seq (Code.region i5 ⟨[oA 2 (.const (.int .u32 0)) t21 p21 e21]⟩ false) .ret))) .skip)) (.seq (Code.region i6 ⟨[oM 21 0 t22 p22 e22,
    oM 22 0 t23 p23 e23,⟨some 23,.nilCheck (.tmp 22),t24,p24,e24,none⟩,
    oF 24 T114 23 0 t25 p25 e25,
    oL 25 T22 24 t26 p26 e26,
    oM 26 4 t27 p27 e27,⟨some 27,.slice T22 (.tmp 25) (some (.tmp 26)) none none,t28,p28,e28,none⟩,⟨some 28,.nilCheck (.tmp 21),t29,p29,e29,none⟩,
    oF 29 T114 28 0 t30 p30 e30,
    oS T22 29 27 t31 p31 e31]⟩ false) (.seq (Code.region i7 ⟨[oM 30 3 t32 p32 e32,
    oT 2 30 t33 p33 e33]⟩ false) .ret))))))
    (hs:sliceOf P T22 et 1 1=true) (h22:scal P T22=true) (h4:scal P T4=true) (hF0:fieldOf P T114 0 0=true) (hF1:fieldOf P T114 1 1=true) (hu:UvM P f100):MethV P f (.int .u32) gUv:=by
  refine ⟨enters_of hf hname hbody,?_⟩;intro w rb sb st h;obtain ⟨sv,hc0,ho⟩:=h.octe;have hgone:=h.gone;have hthere:w.there rb 0 2:=h.2.1;refine calls_of_wp hf hbody ?_;generalize ha0:({ tmps:=#[Value.pointer (some ⟨rb,0,none⟩)]++Array.replicate (fn.ntmps - #[Value.pointer (some ⟨rb,0,none⟩)].size) undef,defers:=[] }:Act)=a0;have hsz:a0.tmps.size=31:=by subst ha0;simp[hN]
  have hd0:a0.defers=[]:=by subst ha0;rfl
  have g0:get a0 0 = .pointer (some ⟨rb,0,none⟩):=by subst ha0;exact gAr rfl
  refine tId (wp_seq_k fun K1 hK1=>?_);refine r_const (m:=2) (by omega) (by omega) fun a1 k1 _=>hK1 a1 w (tUp ?_);have hz1:=k1.size;have g1:get a1 0 = .pointer (some ⟨rb,0,none⟩):=by rw[k1.get 0 (by omega),g0]
  refine wT fun K2 hK2=>?_;rw[wCo,wMw,eTm,g1,wCo];refine wNc (q:=⟨rb,0,none⟩) (by rw[eTm,gQ]) ?_;refine wC (wFa (b:=rb) (i:=0) hF0 (by rw[eTm,gQ]) ?_);refine wC (wp_load h22 (b:=rb) (o:=0) (v:=sv) (by rw[eTm,gQ]) hc0 ?_);rw[wCo];refine wp_calls (R:=fun v w'=>w'=w∧∃ (x:Nat) (z:Int),v = .tuple #[.int .u32 x,.int .i64 z]∧((z≤0∧uv st.xs=none)∨∃ n:Nat,z=n∧uv st.xs=some (x,n))) hu.enters (vs:=#[sv])
    (by simp[eTm,gPs (a:=((a1.put (some 6) (.pointer (some ⟨rb,0,none⟩))).put (some 7) (.pointer (some ⟨rb,0,none⟩))).put (some 8) (.pointer (some ⟨rb,0+0,none⟩))) (d:=9) (v:=sv) (by simp only[sPu];omega)])
    ((hu.call w _ sv st.xs ho).mono (by
      rintro e' w' ⟨rfl,hm⟩
      cases huv:uv st.xs with
      | none=>rw[huv] at hm;obtain ⟨z,hz,rfl⟩:=hm;exact ⟨_,rfl,rfl,0,z,rfl,.inl ⟨hz,rfl⟩⟩
      | some y=>obtain ⟨x,n⟩:=y;rw[huv] at hm;subst hm;exact ⟨_,rfl,rfl,x,n,rfl,.inr ⟨n,rfl,rfl⟩⟩)) ?_
  rintro v w' ⟨rfl,x,z,rfl,hxz⟩;rw[wCo,wMw,eTm,gQ,wCo];refine wp_extract (vs:=#[.int .u32 x,.int .i64 z]) (v:=.int .u32 x) (by rw[eTm,gQ]) rfl ?_;refine wC (wp_extract (vs:=#[.int .u32 x,.int .i64 z]) (v:=.int .i64 z) (by rw[eTm,gR,gQ]) rfl ?_);rw[wCo,wAg,eTm,gR,gQ,wCo,wAg,eTm,gR,gQ,wNi];generalize ha2:(((((((((a1.put (some 6) (.pointer (some ⟨rb,0,none⟩))).put (some 7) (.pointer (some ⟨rb,0,none⟩))).put (some 8) (.pointer (some ⟨rb,0+0,none⟩))).put (some 9) sv).put (some 10) (.tuple #[.int .u32 x,.int .i64 z])).put (some 5) (.tuple #[.int .u32 x,.int .i64 z])).put (some 11) (.int .u32 x)).put (some 12) (.int .i64 z)).put (some 3) (.int .u32 x)).put (some 4) (.int .i64 z)=a2;have k2:Kept 2 a1 a2:=by subst ha2;exact (((((((((Kept.put0 (by omega) _).put (by omega) _).put (by omega) _).put (by omega) _).put (by omega) _).put (by omega) _).put (by omega) _).put (by omega) _).put (by omega) _).put (by omega) _
  have q3:get a2 3 = .int .u32 x:=by subst ha2;rw[gR,gQ]
  have q4:get a2 4 = .int .i64 z:=by subst ha2;exact gQ
  have hz2:=k2.size;refine hK2 a2 w' (tUp ?_);refine tId (wp_seq_k fun K3 hK3=>?_);refine wS fun K4 hK4=>?_;rw[wCo,wMw,eTm,q4,wCo];refine wp_leq (k1:=.i64) (i:=z) (j:=0) (by rw[eTm,gQ]) rfl ?_;rw[wNi];generalize ha3:(a2.put (some 13) (.int .i64 z)).put (some 14) (.bool (decide (z≤0)))=a3;have k3:Kept 13 a2 a3:=by subst ha3;exact (Kept.put0 (by omega) _).put (by omega) _
  have q14:get a3 14 = .bool (decide (z≤0)):=by subst ha3;exact gQ
  have hz3:=k3.size;have g3:get a3 0 = .pointer (some ⟨rb,0,none⟩):=by rw[k3.get 0 (by omega),k2.get 0 (by omega),g1]
  have hd3:a3.defers=[]:=by rw[k3.defers,k2.defers,k1.defers,hd0]
  refine hK4 a3 w' ?_;refine wp_cond_split (t:=decide (z≤0)) (by rw[eTm,q14]) (fun hz=>?_) fun hz=>wp_skip (hK3 a3 w' (tUp ?_))
  · have hnone:uv st.xs=none:=by
      rcases hxz with ⟨_,h⟩ | ⟨n,rfl,h⟩
      · exact h
      have:=(uv_spec h).2.1;simp at hz;omega
    have er:gUv st=(.n 0,.fail):=by simp[gUv,rdUv,hnone]
    rw[er];refine wS fun K5 hK5=>?_;rw[wCo,wMw,eTm,g3,wCo];refine wNc (q:=⟨rb,0,none⟩) (by rw[eTm,gQ]) ?_;refine wC (wFa (b:=rb) (i:=0) hF1 (by rw[eTm,gQ]) ?_);refine wC (wp_store h4 (b:=rb) (o:=0+1) (v:=.bool true) (by rw[eTm,gQ]) rfl rfl (there_part hthere (by omega) (by omega)) ?_);rw[pNo,wNi];generalize ha4:((a3.put (some 15) (.pointer (some ⟨rb,0,none⟩))).put (some 16) (.pointer (some ⟨rb,0,none⟩))).put (some 17) (.pointer (some ⟨rb,0+1,none⟩))=a4;have k4:Kept 13 a3 a4:=by subst ha4;exact ((Kept.put0 (by omega) _).put (by omega) _).put (by omega) _
    have hz4:=k4.size;refine hK5 a4 _ ?_;refine wS fun K6 hK6=>?_;rw[wCo,wMw,eTm,k4.get 0 (by omega),g3,wCo];refine wNc (q:=⟨rb,0,none⟩) (by rw[eTm,gQ]) ?_;refine wC (wFa (b:=rb) (i:=0) hF0 (by rw[eTm,gQ]) ?_);refine wC (wp_store h22 (b:=rb) (o:=0+0) (v:=.slice none 0 0) (by rw[eTm,gQ]) rfl rfl (there_part ((Fr.set w' rb (0+1) (.bool true)).there hthere) (by omega) (by omega)) ?_);rw[pNo,wNi];generalize ha5:((a4.put (some 18) (.pointer (some ⟨rb,0,none⟩))).put (some 19) (.pointer (some ⟨rb,0,none⟩))).put (some 20) (.pointer (some ⟨rb,0+0,none⟩))=a5;have k5:Kept 13 a4 a5:=by subst ha5;exact ((Kept.put0 (by omega) _).put (by omega) _).put (by omega) _
    have hz5:=k5.size;refine hK6 a5 _ ?_;refine wp_seq_k fun K7 hK7=>?_;refine r_const (m:=2) (by omega) (by omega) fun a6 k6 g6=>hK7 a6 _ ?_;exact wp_ret ⟨by rw[k6.defers,k5.defers,k4.defers,hd3],_,results_one hres,_,rfl,by rw[g6];exact ⟨0,rfl,rfl,by decide,by decide⟩,hgone.1,hgone.2⟩
  obtain ⟨n,rfl,hsome⟩:∃ n:Nat,z=n∧uv st.xs=some (x,n):=by
    rcases hxz with ⟨h,_⟩ | h
    · simp at hz;omega
    exact h
  obtain ⟨hx32,hn1,hnl⟩:=uv_spec hsome;have er:gUv st=(.n x,{ st with xs:=st.xs.drop n }):=by simp[gUv,rdUv,hsome]
  rw[er];have hne:st.xs ≠ []:=by intro e;rw[e] at hnl;simp at hnl;omega
  obtain ⟨o,cap,hc,_,_,_,hrb,hsb,hcap,hr,hnil⟩:=h.some hne;have hsv:sv = .slice (some ⟨sb,o,none⟩) st.xs.length cap:=by rw[hc] at hc0;exact (Option.some.inj hc0).symm
  refine wT fun K5 hK5=>?_;rw[wCo,wMw,eTm,g3,wCo,wMw,eTm,gR,g3,wCo];refine wNc (q:=⟨rb,0,none⟩) (by rw[eTm,gQ]) ?_;refine wC (wFa (b:=rb) (i:=0) hF0 (by rw[eTm,gQ]) ?_);refine wC (wp_load h22 (b:=rb) (o:=0) (v:=.slice (some ⟨sb,o,none⟩) st.xs.length cap) (by rw[eTm,gQ]) hc ?_);rw[wCo,wMw,eTm,gR,gR,gR,gR,gR,k3.get 4 (by omega),q4,wCo];refine wp_sliceLo (q:=some ⟨sb,o,none⟩) (len:=st.xs.length) (cap:=cap) (l:=n) (k1:=.i64) hs (by rw[eTm,gR,gQ]) (by rw[eTm,gQ]) hnl ?_;refine wC (wNc (q:=⟨rb,0,none⟩) (by rw[eTm,gR,gR,gR,gR,gR,gR,gQ]) ?_);refine wC (wFa (b:=rb) (i:=0) hF0 (by rw[eTm,gQ]) ?_);rw[wCo];generalize hvv:Value.slice (if cap=n then some ⟨sb,o,none⟩ else Option.map (fun y:Addr=>y.add (n * 1)) (some ⟨sb,o,none⟩)) (st.xs.length - n) (cap - n)=vv;have hvv':vv = .slice (if cap=n then some ⟨sb,o,none⟩ else some ⟨sb,o+n,none⟩) (st.xs.length - n) (cap - n):=by rw[← hvv];simp[add_addr]
  have hone:vv.oneCell'=true:=by rw[hvv'];rfl
  refine wp_store h22 (b:=rb) (o:=0+0) (v:=vv) (by rw[eTm,gQ]) (by rw[eTm,gR,gR,gQ]) hone (there_part hthere (by omega) (by omega)) ?_;rw[pNo,wNi];have hon:=h.on (w1:=w') (k:=n) hc hr hcap hnil hnl (Fr.refl _ _) hvv';generalize ha4:(((((((a3.put (some 21) (.pointer (some ⟨rb,0,none⟩))).put (some 22) (.pointer (some ⟨rb,0,none⟩))).put (some 23) (.pointer (some ⟨rb,0,none⟩))).put (some 24) (.pointer (some ⟨rb,0+0,none⟩))).put (some 25) (.slice (some ⟨sb,o,none⟩) st.xs.length cap)).put (some 26) (.int .i64 n)).put (some 27) vv).put (some 28) (.pointer (some ⟨rb,0,none⟩))=a4';generalize ha5:a4'.put (some 29) (.pointer (some ⟨rb,0+0,none⟩))=a5;have k5:Kept 13 a3 a5:=by subst ha5 ha4;exact ((((((((Kept.put0 (by omega) _).put (by omega) _).put (by omega) _).put (by omega) _).put (by omega) _).put (by omega) _).put (by omega) _).put (by omega) _).put (by omega) _
  clear ha4 ha5;have hz5:=k5.size;refine hK5 a5 _ (tUp ?_);refine wT fun K6 hK6=>?_;rw[wCo,wMw,eTm,k5.get 3 (by omega),k3.get 3 (by omega),q3,wCo,wAg,eTm,gQ,wNi];refine hK6 _ _ (wp_ret ?_);refine ⟨by simp only[dPu];rw[k5.defers,hd3],_,results_one hres,_,rfl,?_,hon.1,hon.2⟩;rw[gQ];exact ⟨x,rfl,rfl,by simp[IntKind.min,IntKind.signed],by simp[IntKind.max,IntKind.signed,IntKind.bits];omega⟩
def TagV (w:World) (A:Nat→Prop) (lo:Nat) (v:Value) (x:V):Prop:=(v = .map none∧x = .nil)∨∃ r kv,v = .map (some r)∧lo≤r∧TagM w A r kv∧x = .t kv
structure SetTagM (P:Program) (f:FuncId):Prop where
  enters:Enters P f
  call:∀ w A lo tb to v x (k:Nat) u y,w.cell? ⟨tb,to,none⟩=some v→w.there tb to 1→TagV w A lo v x→(∀ b,A b→b < lo)→lo≤w.heap.size→k < 4294967296→OctsV w A u y→¬ A tb →
    Calls P f #[.pointer (some ⟨tb,to,none⟩),.int .u32 (k:Int),u] w fun e w'=>(∃ z,e = .returned z)∧∃ r,w'.cell? ⟨tb,to,none⟩=some (.map (some r))∧lo≤r∧TagM w' A r (kvSet (tagKv x) k (.oct y))∧Fr [⟨tb,to,to+1⟩,⟨r,0,0⟩] w w'
theorem TagM.notCell {w:World} {A:Nat→Prop} {r:Nat} {kv:List (Nat × V)} {tb to:Nat} {v:Value} (h:TagM w A r kv) (hc:w.cell? ⟨tb,to,none⟩=some v):tb ≠ r:=by
  rintro rfl;obtain ⟨es,clock,h1,_⟩:=h;obtain ⟨cs,T,fz,h2,_⟩:=block_of_cell hc;rw[h1] at h2;cases h2
theorem settag_m {P:Program} {f:FuncId} {fn:Func} {kt et:TypeId} {T97 T99:TypeId} {i0 i1 i2:Nat}
    {t0 t1 t2 t3 t4 t5 t6 t7 t8 t9 t10 t11 t12 t13 t14 t15 t16:TypeId} {p0 p1 p2 p3 p4 p5 p6 p7 p8 p9 p10 p11 p12 p13 p14 p15 p16:String} {e0 e1 e2 e3 e4 e5 e6 e7 e8 e9 e10 e11 e12 e13 e14 e15 e16:Array Edge}
    (hf:P.funcs[f]?=some fn) (hname:(fn.name == "runtime.NumGoroutine")=false) (hres:fn.results = #[]) (hN:fn.ntmps=21)
    (hbody:fn.body=some (.seq (.seq (Code.region i0 ⟨[oM 6 0 t0 p0 e0,⟨some 7,.nilCheck (.tmp 6),t1,p1,e1,none⟩,
    oF 8 T99 7 0 t2 p2 e2,
    oL 9 T97 8 t3 p3 e3,⟨some 10,.binOp .eql T97 (.tmp 9) (.const (.map none)) T97,t4,p4,e4,none⟩]⟩ false) (.cond (.tmp 10) (Code.region i1 ⟨[oM 11 0 t5 p5 e5,⟨some 12,.makeMap T97 none,t6,p6,e6,none⟩,⟨some 13,.nilCheck (.tmp 11),t7,p7,e7,none⟩,
    oF 14 T99 13 0 t8 p8 e8,
    oS T97 14 12 t9 p9 e9]⟩ false) .skip))
  (Code.region i2 ⟨[oM 15 0 t10 p10 e10,⟨some 16,.nilCheck (.tmp 15),t11,p11,e11,none⟩,
    oF 17 T99 16 0 t12 p12 e12,
    oL 18 T97 17 t13 p13 e13,
    oM 19 1 t14 p14 e14,
    oM 20 2 t15 p15 e15,⟨none,.mapUpdate T97 (.tmp 18) (.tmp 19) (.tmp 20),t16,p16,e16,none⟩]⟩ false)))
    (hT:mapOf P T97 kt et=true) (h97:scal P T97=true) (hF:fieldOf P T99 0 0=true):SetTagM P f:=by
  refine ⟨enters_of hf hname hbody,?_⟩;intro w A lo tb to v x k u y hc hth hv hA hlo hk hu hAt;refine calls_of_wp hf hbody ?_;generalize ha0:({ tmps:=#[Value.pointer (some ⟨tb,to,none⟩),Value.int .u32 (k:Int),u]++Array.replicate (fn.ntmps - #[Value.pointer (some ⟨tb,to,none⟩),Value.int .u32 (k:Int),u].size) undef,defers:=[] }:Act)=a0;have hsz:a0.tmps.size=21:=by subst ha0;simp[hN]
  have hd0:a0.defers=[]:=by subst ha0;rfl
  have g0:get a0 0 = .pointer (some ⟨tb,to,none⟩):=by subst ha0;exact gAr rfl
  have g1:get a0 1 = .int .u32 (k:Int):=by subst ha0;exact gAr rfl
  have g2:get a0 2=u:=by subst ha0;exact gAr rfl
  obtain ⟨q,hvq⟩:∃ q,v = .map q:=by
    rcases hv with ⟨rfl,_⟩ | ⟨r,kv,rfl,_⟩
    · exact ⟨_,rfl⟩
    exact ⟨_,rfl⟩
  subst hvq;have main:∀ (a:Act) (w2:World) (r:Nat) (kv:List (Nat × V)),Kept 6 a0 a→w2.cell? ⟨tb,to,none⟩=some (.map (some r))→lo≤r→TagM w2 A r kv→kv=tagKv x→Fr [⟨tb,to,to+1⟩,⟨r,0,0⟩] w w2 →
      (Code.region i2 ⟨[oM 15 0 t10 p10 e10,⟨some 16,.nilCheck (.tmp 15),t11,p11,e11,none⟩,oF 17 T99 16 0 t12 p12 e12,oL 18 T97 17 t13 p13 e13,oM 19 1 t14 p14 e14,oM 20 2 t15 p15 e15,⟨none,.mapUpdate T97 (.tmp 18) (.tmp 19) (.tmp 20),t16,p16,e16,none⟩]⟩ false).wp P (bodyPost P fn fun e w'=>(∃ z,e = .returned z)∧∃ r,w'.cell? ⟨tb,to,none⟩=some (.map (some r))∧lo≤r∧TagM w' A r (kvSet (tagKv x) k (.oct y))∧Fr [⟨tb,to,to+1⟩,⟨r,0,0⟩] w w') a w2:=by
    intro a w2 r kv hk2 hc2 hlr hm hkv hfr;have hsz2:=hk2.size;refine wp_reg ?_;rw[wCo,wMw,eTm,hk2.get 0 (by omega),g0,wCo];refine wNc (q:=⟨tb,to,none⟩) (by rw[eTm,gQ]) ?_;refine wC (wFa (b:=tb) (i:=to) hF (by rw[eTm,gQ]) ?_);refine wC (wp_load h97 (b:=tb) (o:=to) (by rw[eTm,gQ];simp) hc2 ?_);rw[wCo,wMw,eTm,gR,gR,gR,gR,hk2.get 1 (by omega),g1,wCo,wMw,eTm,gR,gR,gR,gR,gR,hk2.get 2 (by omega),g2,wCo];refine wp_mapSet (r:=r) (k:=k) (v:=u) (A:=A) (kv:=kv) (x:=y) hT (by rw[eTm,gR,gR,gQ]) (by rw[eTm,gR,gQ]) (by rw[eTm,gQ]) hm hk
      (hu.kept hfr (by intro z hz;simp at hz;rcases hz with rfl | rfl;exact hAt;intro hb;have:=hA _ hb;simp only at this;omega) (fun _ h=>h)) (fun hb=>by have:=hA _ hb;omega) ?_
    intro w3 f3 hm3;rw[pNo,wNi];refine ⟨by simp only[dPu];rw[hk2.defers,hd0],.tuple #[],by simp[results,hres],⟨_,rfl⟩,r,f3.cell hc2 (.cons (.inl (fun e=>hm.notCell hc2 e.symm)) .nil),hlr,by rw[← hkv];exact hm3,?_⟩;refine hfr.trans f3 ?_;intro z hz;simp at hz;subst hz;exact .inr ⟨⟨r,0,0⟩,by simp,rfl,by simp,by simp⟩
  refine tId (wp_seq_k fun K1 hK1=>?_);refine wS fun K2 hK2=>?_;rw[wCo,wMw,eTm,g0,wCo];refine wNc (q:=⟨tb,to,none⟩) (by rw[eTm,gQ]) ?_;refine wC (wFa (b:=tb) (i:=to) hF (by rw[eTm,gQ]) ?_);refine wC (wp_load h97 (b:=tb) (o:=to) (by rw[eTm,gQ];simp) hc ?_);refine wC (wp_eqlMapNil (q:=q) hT (by rw[eTm,gQ]) ?_);rw[wNi];generalize ha1:((((a0.put (some 6) (.pointer (some ⟨tb,to,none⟩))).put (some 7) (.pointer (some ⟨tb,to,none⟩))).put (some 8) (.pointer (some ⟨tb,to+0,none⟩))).put (some 9) (.map q)).put (some 10) (.bool q.isNone)=a1;have k1:Kept 6 a0 a1:=by subst ha1;exact ((((Kept.put0 (by omega) _).put (by omega) _).put (by omega) _).put (by omega) _).put (by omega) _
  have g10:get a1 10 = .bool q.isNone:=by subst ha1;exact gQ
  have hz1:=k1.size;refine hK2 a1 w ?_;refine wp_cond_split (t:=q.isNone) (by rw[eTm,g10]) (fun hq=>?_) fun hq=>wp_skip (hK1 a1 w (tUp ?_))
  · obtain rfl : q = none := by simpa using hq
    obtain rfl:x = .nil:=by
      rcases hv with ⟨_,h⟩ | ⟨r,kv,h,_⟩
      · exact h
      cases h
    refine wp_reg ?_;rw[wCo,wMw,eTm,k1.get 0 (by omega),g0,wCo];refine wp_makeMap ?_;have f1:=Fr.alloc [] w (.map #[] 0);have hnew:=TagM.new w A;have sz1:=size_alloc w (.map #[] 0);generalize w.alloc (.map #[] 0)=w1 at f1 hnew sz1 ⊢;refine wC (wNc (q:=⟨tb,to,none⟩) (by rw[eTm,gR,gQ]) ?_);refine wC (wFa (b:=tb) (i:=to) hF (by rw[eTm,gQ]) ?_);rw[wCo];have th1:=f1.there hth;refine wp_store h97 (b:=tb) (o:=to+0) (v:=.map (some w.heap.size)) (by rw[eTm,gQ]) (by rw[eTm,gR,gR,gQ]) rfl th1 ?_;rw[pNo,wNi];have f2:=Fr.set w1 tb to (.map (some w.heap.size));have htl:=lt_of_cell hc;refine hK1 _ _ (tUp ?_);refine main _ _ w.heap.size [] ((((k1.put (by omega) _).put (by omega) _).put (by omega) _).put (by omega) _) (range_set th1) hlo ?_ rfl ?_
    · exact hnew.kept f2 (by intro z hz;simp at hz;subst hz;exact hAt) (by intro z hz;simp at hz;subst hz;simp only;omega) (fun _ h=>h)
    refine (f1.nil (l:=[⟨tb,to,to+1⟩,⟨w.heap.size,0,0⟩])).trans f2 ?_;intro z hz;simp at hz;subst hz;exact .inr ⟨⟨tb,to,to+1⟩,by simp,rfl,by simp,by simp⟩
  rcases hv with ⟨h,_⟩ | ⟨r,kv,h,hlr,hm,rfl⟩
  · simp at h;subst h;simp at hq
  simp at h;subst h
  exact main a1 w r kv k1 hc hlr hm rfl (Fr.refl _ _)
structure SpanM (P:Program) (f:FuncId):Prop where
  enters:Enters P f
  call:∀ w rb sb st l,RW w rb sb st→Calls P f #[.pointer (some ⟨rb,0,none⟩),.int .i64 l] w fun e w'=>∃ x,e = .returned x∧Octs w' (·=sb) x (rdSpan l st).1∧RW w' rb sb (rdSpan l st).2∧Fr [⟨rb,0,2⟩] w w'
def rdTagsGo:Nat→V→RSt→V × RSt
  | 0,x,st=>(x,st)
  | n+1,x,st=>rdTagsGo n (tagSet x (rdUv st).1 (.oct (rdSpan (rdUv (rdUv st).2).1 (rdUv (rdUv st).2).2).1)) (rdSpan (rdUv (rdUv st).2).1 (rdUv (rdUv st).2).2).2
def rdTags (st:RSt):V × RSt:=rdTagsGo (rdUv st).1 .nil (rdUv st).2
structure TagsM (P:Program) (f:FuncId):Prop where
  enters:Enters P f
  call:∀ w rb sb st,RW w rb sb st→sb < w.heap.size→Calls P f #[.pointer (some ⟨rb,0,none⟩)] w fun e w'=>∃ v,e = .returned (.agg #[v])∧Rep w' (Foot sb w.heap.size w'.heap.size) .tags [v] (rdTags st).1∧RW w' rb sb (rdTags st).2∧Fr [⟨rb,0,2⟩] w w'
theorem Rep.u32 {w:World} {A:Nat→Prop} {v:Value} {n:Nat} (h:Rep w A (.int .u32) [v] (.n n)):v = .int .u32 n:=by
  obtain ⟨i,h1,h2,_⟩:=h;simp at h1 h2
  rw[h1,h2]
set_option maxRecDepth 10000 in
theorem tags_m {P:Program} {f:FuncId} {fn:Func} {T3 T59 T99:TypeId} {f92 f94 f95:FuncId} {a0 a1 a2 a3 a4:Array TypeId} {i0 i1 i2 i3 i5 i6 i4 i7:Nat}
    {t0 t1 t2 t3 t4 t5 t6 t7 t8 t9 t10 t11 t12 t13 t14 t15 t16 t17 t18 t19 t20 t21 t22 t23:TypeId} {p0 p1 p2 p3 p4 p5 p6 p7 p8 p9 p10 p11 p12 p13 p14 p15 p16 p17 p18 p19 p20 p21 p22 p23:String} {e0 e1 e2 e3 e4 e5 e6 e7 e8 e9 e10 e11 e12 e13 e14 e15 e16 e17 e18 e19 e20 e21 e22 e23:Array Edge}
    (hf:P.funcs[f]?=some fn) (hname:(fn.name == "runtime.NumGoroutine")=false) (hres:fn.results = #[.cell 2 T99]) (hN:fn.ntmps=24)
    (hbody:fn.body=some (.seq (Code.region i0 ⟨[⟨some 2,.alloc T99,t0,p0,e0,none⟩]⟩ false) (.seq (Code.region i1 ⟨[⟨some 3,.alloc T99,t1,p1,e1,none⟩]⟩ false) (.seq (.seq (Code.region i2 ⟨[oM 7 0 t2 p2 e2,
    oC 8 f94 #[(.tmp 7)] a0 t3 p3 e3,
    oT 4 8 t4 p4 e4]⟩ false) (.block 0 (.loop (.seq (.seq (Code.region i3 ⟨[oM 9 4 t5 p5 e5,⟨some 10,.binOp .gtr T59 (.tmp 9) (.const (.int .u32 0)) T59,t6,p6,e6,none⟩]⟩ false) (.cond (.tmp 10) .skip
  (.exit 0))) (.seq (.block 1 (.seq (Code.region i5 ⟨[oM 13 0 t7 p7 e7,
    oC 14 f94 #[(.tmp 13)] a1 t8 p8 e8,
    oM 15 0 t9 p9 e9,
    oC 16 f94 #[(.tmp 15)] a2 t10 p10 e10,
    oT 5 14 t11 p11 e11,
    oT 6 16 t12 p12 e12]⟩ false)
  (Code.region i6 ⟨[oM 17 5 t13 p13 e13,
    oM 18 0 t14 p14 e14,
    oM 19 6 t15 p15 e15,⟨some 20,.convert T59 T3 (.tmp 19),t16,p16,e16,none⟩,
    oC 21 f92 #[(.tmp 18),(.tmp 20)] a3 t17 p17 e17,
    oC 22 f95 #[(.tmp 3),(.tmp 17),(.tmp 21)] a4 t18 p18 e18]⟩ false)))
  (Code.region i4 ⟨[oM 11 4 t19 p19 e19,⟨some 12,.binOp .sub T59 (.tmp 11) (.const (.int .u32 1)) T59,t20,p20,e20,none⟩,
    oT 4 12 t21 p21 e21]⟩ false)))))) (.seq (Code.region i7 ⟨[oL 23 T99 3 t22 p22 e22,
    oS T99 2 23 t23 p23 e23]⟩ false) .ret)))))
    (hT:Flat P T99 [.map none]) (h59:intOf P T59 .u32=true) (h3:intOf P T3 .i64=true) (hu:MethV P f94 (.int .u32) gUv) (hsp:SpanM P f92) (hset:SetTagM P f95):TagsM P f:=by
  refine ⟨enters_of hf hname hbody,?_⟩;intro w rb sb st h hsb;have hrb:rb < w.heap.size:=by obtain ⟨sv,h0,_⟩:=h.octe;exact lt_of_cell h0
  refine calls_of_wp hf hbody ?_;generalize ha0:({ tmps:=#[Value.pointer (some ⟨rb,0,none⟩)]++Array.replicate (fn.ntmps - #[Value.pointer (some ⟨rb,0,none⟩)].size) undef,defers:=[] }:Act)=a0;have hsz:a0.tmps.size=24:=by subst ha0;simp[hN]
  have hd0:a0.defers=[]:=by subst ha0;rfl
  have g0:get a0 0 = .pointer (some ⟨rb,0,none⟩):=by subst ha0;exact gAr rfl
  refine wT fun K1 hK1=>?_;refine wC (wp_alloc hT.zero ?_);rw[wNi];have f1:=Fr.alloc [] w (.cells (Value.agg #[.map none]).cells T99);have th1:(w.alloc (.cells (Value.agg #[.map none]).cells T99)).there w.heap.size 0 1:=there_new w #[.map none] T99;have sz1:=size_alloc w (.cells (Value.agg #[.map none]).cells T99);have hcast:(Value.agg [Value.map none].toArray)=(Value.agg #[.map none]):=rfl;rw[hcast];generalize w.alloc (.cells (Value.agg #[.map none]).cells T99)=w1 at f1 th1 sz1 ⊢;have k1:Kept 2 a0 (a0.put (some 2) (.pointer (some ⟨w.heap.size,0,none⟩))):=Kept.put0 (by omega) _;have q2:get (a0.put (some 2) (.pointer (some ⟨w.heap.size,0,none⟩))) 2 = .pointer (some ⟨w.heap.size,0,none⟩):=gQ;generalize a0.put (some 2) (.pointer (some ⟨w.heap.size,0,none⟩))=b1 at k1 q2 ⊢;have hz1:=k1.size;refine hK1 b1 w1 (tUp ?_);refine wT fun K2 hK2=>?_;refine wC (wp_alloc hT.zero ?_);rw[wNi];have f2:=Fr.alloc [] w1 (.cells (Value.agg #[.map none]).cells T99);have th2:(w1.alloc (.cells (Value.agg #[.map none]).cells T99)).there w1.heap.size 0 1:=there_new w1 #[.map none] T99;have c2:(w1.alloc (.cells (Value.agg #[.map none]).cells T99)).cell? ⟨w1.heap.size,0,none⟩=some (.map none):=(range_new w1 #[.map none] T99 (0,0)) 0 _ rfl;have sz2:=size_alloc w1 (.cells (Value.agg #[.map none]).cells T99);rw[hcast];generalize w1.alloc (.cells (Value.agg #[.map none]).cells T99)=w2 at f2 th2 c2 sz2 ⊢;have k2:Kept 3 b1 (b1.put (some 3) (.pointer (some ⟨w1.heap.size,0,none⟩))):=Kept.put0 (by omega) _;have q3:get (b1.put (some 3) (.pointer (some ⟨w1.heap.size,0,none⟩))) 3 = .pointer (some ⟨w1.heap.size,0,none⟩):=gQ;generalize b1.put (some 3) (.pointer (some ⟨w1.heap.size,0,none⟩))=b2 at k2 q3 ⊢;have hz2:=k2.size;have f02:Fr [] w w2:=f1.tr f2;refine hK2 b2 w2 (tUp ?_);refine tId (wp_seq_k fun K3 hK3=>?_);refine wS fun K4 hK4=>?_;rw[wCo,wMw,eTm,k2.get 0 (by omega),k1.get 0 (by omega),g0,wCo];refine wp_calls (R:=fun x w'=>x = .int .u32 (rdUv st).1∧RW w' rb sb (rdUv st).2∧Fr [⟨rb,0,2⟩] w2 w') hu.enters (vs:=#[.pointer (some ⟨rb,0,none⟩)]) (by simp[eTm,gPs (a:=b2) (d:=7) (v:=.pointer (some ⟨rb,0,none⟩)) (by omega)])
    ((hu.call w2 rb sb st (h.kept f02 (by simp))).mono (by rintro e' w' ⟨x,rfl,h1,h2,h3⟩;exact ⟨_,rfl,h1.u32,h2,h3⟩)) ?_
  rintro x w3 ⟨rfl,hr3,f3⟩;rw[wCo,wAg,eTm,gQ,wNi];generalize hb3:((b2.put (some 7) (.pointer (some ⟨rb,0,none⟩))).put (some 8) (.int .u32 (rdUv st).1)).put (some 4) (.int .u32 (rdUv st).1)=b3;have k3:Kept 4 b2 b3:=by subst hb3;exact ((Kept.put0 (by omega) _).put (by omega) _).put (by omega) _
  have q4:get b3 4 = .int .u32 (rdUv st).1:=by subst hb3;exact gQ
  clear hb3;have hz3:=k3.size;have hlt:=rdUv_lt st;have sz3:=f3.size;refine hK4 b3 w3 ?_;refine wp_block (wp_loop (fun a' w'=>∃ (n:Nat) (x:V) (s:RSt) (v:Value),n < 4294967296∧a'.tmps.size=24∧a'.defers=[]∧get a' 0 = .pointer (some ⟨rb,0,none⟩)∧get a' 2 = .pointer (some ⟨w.heap.size,0,none⟩)∧get a' 3 = .pointer (some ⟨w1.heap.size,0,none⟩)∧get a' 4 = .int .u32 n ∧
      RW w' rb sb s∧rdTagsGo n x s=rdTags st∧w'.cell? ⟨w1.heap.size,0,none⟩=some v∧TagV w' (·=sb) w.heap.size v x∧w'.there w1.heap.size 0 1∧w'.there w.heap.size 0 1∧Fr [⟨rb,0,2⟩] w w') (fun a' _=>idxOf (get a' 4)) ?_ ?_)
  · refine ⟨(rdUv st).1,.nil,(rdUv st).2,.map none,hlt,by omega,by rw[k3.defers,k2.defers,k1.defers,hd0],by rw[k3.get 0 (by omega),k2.get 0 (by omega),k1.get 0 (by omega),g0],by rw[k3.get 2 (by omega),k2.get 2 (by omega),q2],by rw[k3.get 3 (by omega),q3],q4,hr3,rfl,
      f3.cell c2 (.cons (.inl (by simp only;omega)) .nil),.inl ⟨rfl,rfl⟩,f3.there th2,f3.there (f2.there th1),(f02.nil (l:=_)).tr f3⟩
  rintro a4 w4 ⟨n,x,s,v,hn,hs4,hd4,p0,p2,p3',p4,hr4,hgo,hc4,hv4,ht4,htr4,f4⟩;refine wp_seq_k fun K5 hK5=>?_;refine wS fun K6 hK6=>?_;rw[wCo,wMw,eTm,p4,wCo];refine wp_gtr (k1:=.u32) (i:=n) (j:=0) (by rw[eTm,gQ]) rfl ?_;rw[wNi];generalize ha5:(a4.put (some 9) (.int .u32 n)).put (some 10) (.bool (decide ((n:Int) > 0)))=a5;have k5:Kept 9 a4 a5:=by subst ha5;exact (Kept.put0 (by omega) _).put (by omega) _
  have g10:get a5 10 = .bool (decide ((n:Int) > 0)):=by subst ha5;exact gQ
  have hz5:=k5.size;have sz4:=f4.size;refine hK6 a5 w4 ?_;refine wp_cond_split (t:=decide ((n:Int) > 0)) (by rw[eTm,g10]) ?_ ?_
  · intro hpos;obtain ⟨n,rfl⟩:∃ k,n=k+1:=⟨n - 1,by simp at hpos;omega⟩;refine wp_skip (hK5 a5 w4 ?_);refine wp_seq_k fun K7 hK7=>?_;refine wp_block (wp_mono (show Code.wp P _ (Exit.then K7 (Exit.inBlock 1 (Exit.then K7 _))) a5 w4 from ?_) (fun _ _ _=>inBlock_then));refine wS fun K8 hK8=>?_;rw[wCo,wMw,eTm,k5.get 0 (by omega),p0,wCo];refine wp_calls (R:=fun x w'=>x = .int .u32 (rdUv s).1∧RW w' rb sb (rdUv s).2∧Fr [⟨rb,0,2⟩] w4 w') hu.enters (vs:=#[.pointer (some ⟨rb,0,none⟩)]) (by simp[eTm,gPs (a:=a5) (d:=13) (v:=.pointer (some ⟨rb,0,none⟩)) (by omega)])
      ((hu.call w4 rb sb s hr4).mono (by rintro e' w' ⟨x,rfl,h1,h2,h3⟩;exact ⟨_,rfl,h1.u32,h2,h3⟩)) ?_
    rintro _ w5 ⟨rfl,hr5,f5⟩;rw[wCo,wMw,eTm,gR,gR,k5.get 0 (by omega),p0,wCo];refine wp_calls (R:=fun x w'=>x = .int .u32 (rdUv (rdUv s).2).1∧RW w' rb sb (rdUv (rdUv s).2).2∧Fr [⟨rb,0,2⟩] w5 w') hu.enters (vs:=#[.pointer (some ⟨rb,0,none⟩)])
      (by simp only[List.map_toArray,List.map_cons,List.map_nil,eTm];rw[gQ])
      ((hu.call w5 rb sb _ hr5).mono (by rintro e' w' ⟨x,rfl,h1,h2,h3⟩;exact ⟨_,rfl,h1.u32,h2,h3⟩)) ?_
    rintro _ w6 ⟨rfl,hr6,f6⟩;have hk32:=rdUv_lt s;have hs32:=rdUv_lt (rdUv s).2;generalize hkk:(rdUv s).1=kk at *;generalize hss:(rdUv (rdUv s).2).1=sz at *;rw[wCo,wAg,eTm,gR,gR,gQ,wCo,wAg,eTm,gR,gQ,wNi];generalize ha6:(((((a5.put (some 13) (.pointer (some ⟨rb,0,none⟩))).put (some 14) (.int .u32 kk)).put (some 15) (.pointer (some ⟨rb,0,none⟩))).put (some 16) (.int .u32 sz)).put (some 5) (.int .u32 kk)).put (some 6) (.int .u32 sz)=a6;have k6:Kept 5 a4 a6:=by subst ha6;exact (k5.mono (by omega)).trans ((((((Kept.put0 (by omega) _).put (by omega) _).put (by omega) _).put (by omega) _).put (by omega) _).put (by omega) _)
    have g5:get a6 5 = .int .u32 kk:=by subst ha6;rw[gR,gQ]
    have g6:get a6 6 = .int .u32 sz:=by subst ha6;exact gQ
    have hz6:=k6.size;refine hK8 a6 w6 ?_;refine wp_reg ?_;rw[wCo,wMw,eTm,g5,wCo,wMw,eTm,gR,k6.get 0 (by omega),p0,wCo,wMw,eTm,gR,gR,g6,wCo];refine wCv (k1:=.u32) (i:=(sz:Int)) h59 h3 (by rw[eTm,gQ]) ?_;rw[wrap64 (by omega),wCo];refine wp_calls hsp.enters (vs:=#[.pointer (some ⟨rb,0,none⟩),.int .i64 (sz:Int)])
      (by simp only[List.map_toArray,List.map_cons,List.map_nil,eTm];rw[gR,gR,gQ,gQ])
      (hsp.call w6 rb sb _ (sz:Int) hr6) ?_
    rintro sv w7 ⟨ho7,hr7,f7⟩;rw[wCo];have f47:Fr [⟨rb,0,2⟩] w4 w7:=(f5.tr f6).tr f7;have sz7:=f47.size;have hc7:=f47.cell hc4 (.cons (.inl (by simp only;omega)) .nil)
    have hv7:TagV w7 (·=sb) w.heap.size v x:=by
      rcases hv4 with h | ⟨r,kv,h1,h2,h3,h4⟩
      · exact .inl h
      exact .inr ⟨r,kv,h1,h2,h3.kept f47 (by intro z hz;simp at hz;subst hz;exact hr4.1) (by intro z hz;simp at hz;subst hz;simp only;omega) (fun _ h=>h),h4⟩
    refine wp_calls (R:=fun _ w'=>∃ r,w'.cell? ⟨w1.heap.size,0,none⟩=some (.map (some r))∧w.heap.size≤r∧TagM w' (·=sb) r (kvSet (tagKv x) kk (.oct (rdSpan (sz:Int) (rdUv (rdUv s).2).2).1))∧Fr [⟨w1.heap.size,0,0+1⟩,⟨r,0,0⟩] w7 w') hset.enters (vs:=#[.pointer (some ⟨w1.heap.size,0,none⟩),.int .u32 (kk:Int),sv])
      (by
        simp only[List.map_toArray,List.map_cons,List.map_nil,eTm];rw[gR,gR,gR,gR,gR,k6.get 3 (by omega),p3',gR,gR,gR,gR,gQ,gQ])
      ((hset.call w7 (·=sb) w.heap.size w1.heap.size 0 v x kk sv _ hc7 (f47.there ht4) hv7 (by rintro b rfl;exact hsb) (by omega) hk32 ho7.v (by show ¬ _=_;omega)).mono (by rintro e' w' ⟨⟨z,rfl⟩,h⟩;exact ⟨_,rfl,h⟩)) ?_
    rintro xx w8 ⟨r8,hc8,hr8,hm8,f8⟩;rw[wNi];generalize ha7:((((((a6.put (some 17) (.int .u32 kk)).put (some 18) (.pointer (some ⟨rb,0,none⟩))).put (some 19) (.int .u32 sz)).put (some 20) (.int .i64 (sz:Int))).put (some 21) sv).put (some 22) xx)=a7;have k7:Kept 5 a4 a7:=by subst ha7;exact k6.trans ((((((Kept.put0 (by omega) _).put (by omega) _).put (by omega) _).put (by omega) _).put (by omega) _).put (by omega) _)
    have hz7:=k7.size;have f48:Fr [⟨rb,0,2⟩] w w8:=by
      refine (f4.tr f47).trans f8 ?_;intro z hz;simp at hz
      rcases hz with rfl | rfl
      · exact .inl (by simp only;omega)
      exact .inl hr8
    refine hK7 a7 w8 ?_;refine wp_reg ?_;rw[wCo,wMw,eTm,k7.get 4 (by omega),p4,wCo];refine wp_sub (k1:=.u32) (i:=((n+1:Nat):Int)) (j:=1) (by rw[eTm,gQ]) rfl ?_;have hwr:IntKind.u32.wrap (((n+1:Nat):Int) - 1)=(n:Int):=by rw[IntKind.wrap_u32];omega
    rw[hwr,wCo,wAg,eTm,gQ,wNi];refine ⟨⟨n,tagSet x kk (.oct (rdSpan (sz:Int) (rdUv (rdUv s).2).2).1),(rdSpan (sz:Int) (rdUv (rdUv s).2).2).2,.map (some r8),by omega,by simp only[sPu];omega,by simp only[dPu];rw[k7.defers,hd4],?_,?_,?_,?_,?_,?_,hc8,.inr ⟨r8,_,rfl,hr8,hm8,rfl⟩,?_,?_,f48⟩,?_⟩
    · rw[gR,gR,gR,k7.get 0 (by omega),p0]
    · rw[gR,gR,gR,k7.get 2 (by omega),p2]
    · rw[gR,gR,gR,k7.get 3 (by omega),p3']
    · exact gQ
    · refine hr7.kept f8 ?_;intro z hz; simp at hz
      rcases hz with rfl | rfl
      · exact ⟨by simp only;omega,by simp only;omega⟩
      exact ⟨by simp only;omega,by simp only;omega⟩
    · rw[← hgo];simp only[rdTagsGo,hkk,hss]
    · exact f8.there (f47.there ht4)
    · exact f8.there (f47.there htr4)
    rw[gQ];simp only[idxOf];omega
  intro hge;have hn0:n=0:=by simp at hge;omega
  subst hn0;refine wp_exit ?_;show K3 a5 w4
  refine hK3 a5 w4 (tUp ?_);refine wT fun K11 hK11=>?_;refine wC (wp_loadFlat hT (cs:=[v]) (b:=w1.heap.size) (o:=0) rfl (by rw[eTm,k5.get 3 (by omega),p3']) (range_one.2 hc4) ?_);rw[wCo];have hone:v.oneCell'=true:=by rcases hv4 with ⟨rfl,_⟩ | ⟨_,_,rfl,_⟩ <;> rfl
  refine wp_storeFlat hT (cs:=[v]) (b:=w.heap.size) (o:=0) rfl (by rw[eTm,gR,k5.get 2 (by omega),p2]) (by rw[eTm,gQ]) (by intro z hz;simp at hz;subst hz;exact hone) htr4 ?_;rw[pNo,wNi];have f9:=Fr.sets w.heap.size [v] w4 0;have r9:=World.rangeAt_setCells_same (w:=w4) w.heap.size 0 [v] htr4;have sz9:=f9.size;refine hK11 _ _ (wp_ret ?_);have hfin:rdTags st=(x,s):=by rw[← hgo];rfl
  refine ⟨by simp only[dPu];rw[k5.defers,hd4],_,results_cell hres hT (cs:=[v]) rfl (by rw[gR,k5.get 2 (by omega),p2]) r9,v,rfl,?_,?_,?_⟩
  · rw [hfin]
    rcases hv4 with ⟨rfl,rfl⟩ | ⟨r,kv,rfl,h2,h3,rfl⟩
    · exact .inl ⟨rfl,rfl⟩
    have hne:w.heap.size ≠ r:=h3.notCell (there_cell htr4 (Nat.le_refl _) (by omega)).choose_spec;have h3':=h3.kept f9 (A':=Foot sb w.heap.size (w4.setCells w.heap.size 0 [.map (some r)]).heap.size) (by intro z hz;simp at hz;subst hz;simp only;omega) (by intro z hz;simp at hz;subst hz;exact hne) (fun b hb=>.inl hb);exact h3'.rep (.inr ⟨h2,h3'.lt⟩)
  · rw[hfin];exact hr4.kept f9 (by intro z hz;simp at hz;subst hz;exact ⟨by simp only;omega,by simp only;omega⟩)
  refine f4.trans f9 ?_;intro z hz;simp at hz;subst hz;exact .inl (Nat.le_refl _)
end Go.Kq

namespace Go.Kq
open Go Go.Proofs
def rdTagsF:Rd:=fun _ fl st=>if fl then some (rdTags st) else some (.nil,st)
theorem fld_tags {P:Program} {ge:Nat} {cx:Cx} {m id id2 n n1 o:Nat} {f:FuncId} {S T k tf:Nat} {ats:Array TypeId} {t1 t2 t3 t4 t5 t6:TypeId} {p1 p2 p3 p4 p5 p6:String} {e1 e2 e3 e4 e5 e6:Array Edge}
    (hf:TagsM P f) (hT:Flat P T [.map none]) (hF:fieldOf P S k o=true) (htf:cx.tf=some tf)
    (hb:(decide (n < cx.N) && decide (m≤n) && decide (m≤n1) && decide (n1+3 < cx.N) && cx.below m)=true) :
    Fld P ge cx m (Code.seq (Code.region id ⟨[oM n tf t1 p1 e1]⟩ false) (.cond (.tmp n) (Code.region id2 ⟨[⟨some n1,.move (.tmp cx.ts),t2,p2,e2,none⟩,
      oC (n1+1) f #[.tmp cx.tb] ats t3 p3 e3,⟨some (n1+2),.nilCheck (.tmp n1),t4,p4,e4,none⟩,
      oF (n1+3) S (n1+2) k t5 p5 e5,oS T (n1+3) (n1+1) t6 p6 e6]⟩ false) .skip)) o .tags .nil rdTagsF:=by
  intro e pb po K Q a w st hs hm ht hz hk hq;simp only[Bool.and_eq_true,decide_eq_true_eq] at hb;obtain ⟨⟨⟨⟨b1,b2⟩,b3⟩,b4⟩,b5⟩:=hb;have hsz:=hs.size;obtain ⟨c1,c2,c3,c4,c5,c6,c7⟩:=Cx.below_spec b5;refine wS fun K1 hK1=>?_;rw[wCo,wMw,eTm,hs.f tf htf,wNi];have k1:Kept m a (a.put (some n) (.bool e.flex)):=Kept.put0 b2 _;have q1:get (a.put (some n) (.bool e.flex)) n = .bool e.flex:=gQ;generalize a.put (some n) (.bool e.flex)=a1 at k1 q1 ⊢;have hs1:=hs.kept b5 k1;have hz1:=hs1.size;refine hK1 a1 w ?_;refine wp_cond_split (t:=e.flex) (by rw[eTm,q1]) (fun hfl=>?_) fun hfl=>?_
  · refine wp_reg ?_;rw[wCo,wMw,eTm,hs1.s,wCo];refine wp_calls (R:=fun x w'=>∃ v,x = .agg #[v]∧Rep w' (Foot e.sb w.heap.size w'.heap.size) .tags [v] (rdTags st).1∧RW w' e.rb e.sb (rdTags st).2∧Fr [⟨e.rb,0,2⟩] w w') hf.enters (vs:=#[.pointer (some ⟨e.rb,0,none⟩)])
      (by simp only[List.map_toArray,List.map_cons,List.map_nil,eTm];rw[gR,hs1.b])
      ((hf.call w e.rb e.sb st hm.rw hm.sl).mono (by rintro e' w' ⟨v,rfl,h⟩;exact ⟨_,rfl,v,rfl,h⟩)) ?_
    rintro x w1 ⟨v,rfl,hrep,hrw,f1⟩;refine wC (wNc (q:=⟨pb,po,none⟩) (by rw[eTm,gR,gQ]) ?_);refine wC (wFa (b:=pb) (i:=po) hF (by rw[eTm,gQ]) ?_);rw[wCo];have ht1:w1.there pb (po+o) [v].length:=f1.there ht;have hone:∀ u ∈ [v],u.oneCell'=true:=by
      intro u hu;simp at hu;subst hu
      rcases hrep with ⟨h,_⟩ | ⟨_,_,_,_,_,h,_⟩ <;> (simp at h;subst h;rfl)
    refine wp_storeFlat hT (cs:=[v]) (b:=pb) (o:=po+o) rfl (by rw[eTm,gQ]) (by rw[eTm,gR,gR,gQ]) hone ht1 ?_;rw[pNo,wNi];have f2:=Fr.sets pb [v] w1 (po+o);have r2:=World.rangeAt_setCells_same (w:=w1) pb (po+o) [v] ht1;have sz2:=f2.size;have hpw:pb < w.heap.size:=there_lt ht (by simp[Ty.size]);have hne:∀ r ∈ [(⟨pb,po+o,po+o+[v].length⟩:Rng)],¬ Foot e.sb w.heap.size w1.heap.size r.b:=by
      intro r hr;simp at hr;subst hr;rintro (h | h)
      · exact hm.ps h
      simp only at h;omega
    refine hk _ _ (rdTags st).1 (rdTags st).2 (by simp[rdTagsF,hfl]) (k1.trans ((((Kept.put0 b3 _).put (by omega) _).put (by omega) _).put (by omega) _)) (hrw.kept f2 (by intro r hr;simp at hr;subst hr;exact ⟨hm.pr,hm.ps⟩)) ?_ ⟨[v],r2,hrep.kept f2 hne (fun b h=>by rcases h with h | h;exact .inl h;exact .inr ⟨h.1,by omega⟩)⟩;refine (f1.mono (l':=[⟨e.rb,0,2⟩,⟨pb,po+o,po+o+Ty.tags.size⟩]) ?_).trans f2 ?_
    · intro r hr;simp at hr;subst hr;exact .inr ⟨_,by simp,rfl,by simp,by simp⟩
    intro r hr;simp at hr;subst hr;exact .inr ⟨⟨pb,po+o,po+o+Ty.tags.size⟩,by simp,rfl,by simp,by simp[Ty.size]⟩
  refine wp_skip ?_;obtain ⟨z,hz1',hz2⟩:=hz;exact hk a1 w .nil st (by simp[rdTagsF,hfl]) k1 hm.rw (Fr.refl _ _) ⟨z,hz1',hz2.kept (Fr.refl [] w) (by simp) (fun _ h=>h.elim)⟩
end Go.Kq

namespace Go.Kq
open Go
def rdCArrayLen (st:RSt):Int × RSt :=
  let (x,s):=rdUv st
  let z:=IntKind.i32.wrap (IntKind.i32.wrap (x:Int) - 1)
  if (s.xs.length:Int) < z then (0,.fail) else (z,s)
def rdCString (st:RSt):List UInt8 × RSt :=
  let (x,s):=rdUv st
  let (y,s):=rdSpan ((x:Int) - 1) s
  (y.getD [],s)
def rdCNString (st:RSt):V × RSt :=
  let (x,s):=rdUv st
  if (x:Int) - 1 < 0 then (.nil,s) else let (y,s):=rdSpan ((x:Int) - 1) s;(.s (y.getD []),s)
def rdNString (st:RSt):V × RSt :=
  let (x,s):=rdNum .i16 2 st
  if x < 0 then (.nil,s) else let (y,s):=rdSpan x s;(.s (y.getD []),s)
def gCALen (st:RSt):V × RSt:=(.n (rdCArrayLen st).1,(rdCArrayLen st).2)
def gCStr (st:RSt):V × RSt:=(.s (rdCString st).1,(rdCString st).2)
def gCNStr (st:RSt):V × RSt:=rdCNString st
def gNStr (st:RSt):V × RSt:=rdNString st
end Go.Kq

namespace Go.Kq
open Go Go.Proofs
structure UStrM (P:Program) (f:FuncId):Prop where
  enters:Enters P f
  call:∀ w A v x,Octs w A v x→Calls P f #[v] w fun e w'=>e = .returned (.string (strOf (x.getD [])))∧w'=w
theorem Rep.i16 {w:World} {A:Nat→Prop} {v:Value} {n:Int} (h:Rep w A (.int .i16) [v] (.n n)):v = .int .i16 n:=by
  obtain ⟨i,h1,h2,_⟩:=h;simp at h1 h2
  rw[h1,h2]
theorem alloc_str {P:Program} {T9:TypeId} {a:Act} {w W:World} {K:Act→World→Prop} {Q:Exit→Act→World→Prop} {t:TypeId} {p:String} {af:Array Edge} {gd:Option (Nat × Bool)} {s:ByteArray} {z:ByteArray} {x y:Nat} (hW:W=w.alloc (.cells (Value.string z).cells T9)) (h9:scal P T9=true)
    (hx:get a x = .pointer (some ⟨w.heap.size,0,none⟩)) (hy:get a y = .string s)
    (k:∀ w3,Fr [] w w3→w3.cell? ⟨w.heap.size,0,none⟩=some (.string s)→w.heap.size < w3.heap.size→K a w3) :
    OW P ⟨none,.store T9 (.tmp x) (.tmp y),t,p,af,gd⟩ a W K Q:=by
  have fa:=Fr.alloc [] w (.cells (Value.string z).cells T9);have sa:=size_alloc w (.cells (Value.string z).cells T9);have ta:(w.alloc (.cells (Value.string z).cells T9)).there w.heap.size 0 1:=there_new w #[.string z] T9;rw[← hW] at fa sa ta;clear hW;refine wp_store h9 (b:=w.heap.size) (o:=0) (v:=.string s) (by rw[eTm,hx]) (by rw[eTm,hy]) rfl ta ?_;rw[pNo];have f2:=Fr.set W w.heap.size 0 (.string s);have c2:=range_set (v:=.string s) ta;have s2:=f2.size;exact k _ (fa.trans f2 (by intro r hr;simp at hr;subst hr;exact .inl (Nat.le_refl _))) c2 (by omega)
theorem wrap_i32_range (n:Int) : -2147483648≤IntKind.i32.wrap n∧IntKind.i32.wrap n≤2147483647:=by
  simp[IntKind.wrap,IntKind.bits,IntKind.signed]
  split <;> omega
set_option maxRecDepth 10000 in
theorem cstr_m {P:Program} {f:FuncId} {fn:Func}
    {T3 T9 T22 T61:TypeId}
    {f279 f287:FuncId}
    {x0:Value}
    {a1:Array TypeId}
    {a2:Array TypeId}
    {i0 i1 i2:Nat}
    {t0 t1 t2 t3 t4 t5 t6 t7 t8 t9 t10:TypeId} {p0 p1 p2 p3 p4 p5 p6 p7 p8 p9 p10:String} {e0 e1 e2 e3 e4 e5 e6 e7 e8 e9 e10:Array Edge}
    (hf:P.funcs[f]?=some fn) (hname:(fn.name == "runtime.NumGoroutine")=false) (hres:fn.results = #[.tmp 2]) (hN:fn.ntmps=12)
    (hbody:fn.body=some (.seq (Code.region i0 ⟨[oA 2 (.const x0) t0 p0 e0]⟩ false) (.seq (Code.region i1 ⟨[oM 4 0 t1 p1 e1,
    oC 5 f287 #[(.tmp 4)] a1 t2 p2 e2,⟨some 6,.convert T61 T3 (.tmp 5),t3,p3,e3,none⟩,⟨some 7,.binOp .sub T3 (.tmp 6) (.const (.int .i64 1)) T3,t4,p4,e4,none⟩,
    oT 3 7 t5 p5 e5]⟩ false) (.seq (Code.region i2 ⟨[oM 8 0 t6 p6 e6,
    oM 9 3 t7 p7 e7,
    oC 10 f279 #[(.tmp 8),(.tmp 9)] a2 t8 p8 e8,⟨some 11,.convert T22 T9 (.tmp 10),t9,p9,e9,none⟩,
    oT 2 11 t10 p10 e10]⟩ false) .ret))))
    (h3:intOf P T3 .i64=true) (h61:intOf P T61 .u32=true) (hu:MethV P f287 (.int .u32) gUv) (hsp:SpanM P f279) (h22:byteSl P T22=true) (h9:strTy P T9=true):MethV P f .str gCStr:=by
  refine ⟨enters_of hf hname hbody,?_⟩;intro w rb sb st h;generalize hg:gCStr st=g;refine calls_of_wp hf hbody ?_;generalize ha0:({ tmps:=#[Value.pointer (some ⟨rb,0,none⟩)]++Array.replicate (fn.ntmps - #[Value.pointer (some ⟨rb,0,none⟩)].size) undef,defers:=[] }:Act)=a0;have hsz:a0.tmps.size=12:=by subst ha0;simp[hN]
  have hd0:a0.defers=[]:=by subst ha0;rfl
  have g0:get a0 0 = .pointer (some ⟨rb,0,none⟩):=by subst ha0;exact gAr rfl
  refine tId (wp_seq_k fun K1 hK1=>?_);refine r_const (m:=2) (by omega) (by omega) fun a1 k1 _=>hK1 a1 w (tUp ?_);have hz1:=k1.size;have g1:get a1 0 = .pointer (some ⟨rb,0,none⟩):=by rw[k1.get 0 (by omega),g0]
  refine wT fun K2 hK2=>?_;rw[wCo,wMw,eTm,g1,wCo];refine wp_calls (R:=fun x w'=>x = .int .u32 ((rdUv st).1:Int)∧RW w' rb sb (rdUv st).2∧Fr [⟨rb,0,2⟩] w w') hu.enters (vs:=#[.pointer (some ⟨rb,0,none⟩)]) (by simp only[List.map_toArray,List.map_cons,List.map_nil,eTm];rw[gQ])
    ((hu.call w rb sb st h).mono (by rintro e' w' ⟨x,rfl,h1,h2,h3⟩;exact ⟨_,rfl,h1.u32,h2,h3⟩)) ?_
  rintro _ w1 ⟨rfl,hr1,f1⟩;have hlt:=rdUv_lt st;have hg:g=(.s ((rdSpan (((rdUv st).1:Int) - 1) (rdUv st).2).1.getD []),(rdSpan (((rdUv st).1:Int) - 1) (rdUv st).2).2):=hg.symm.trans rfl;generalize (rdUv st).1=x at *;generalize (rdUv st).2=s at *;refine wC (wCv (k1:=.u32) (i:=(x:Int)) h61 h3 (by rw[eTm,gQ]) ?_);rw[wrap64 (by omega),wCo];refine wp_sub (k1:=.i64) (i:=(x:Int)) (j:=1) (by rw[eTm,gQ]) rfl ?_;rw[wrap64 (by omega),wCo,wAg,eTm,gQ,wNi];generalize hzz:(x:Int) - 1=z at *;have hb : -9223372036854775808≤z∧z≤9223372036854775807:=by omega
  generalize ha2:((((a1.put (some 4) (.pointer (some ⟨rb,0,none⟩))).put (some 5) (.int .u32 (x:Int))).put (some 6) (.int .i64 (x:Int))).put (some 7) (.int .i64 z)).put (some 3) (.int .i64 z)=a2;have k2:Kept 2 a1 a2:=by subst ha2;exact ((((Kept.put0 (by omega) _).put (by omega) _).put (by omega) _).put (by omega) _).put (by omega) _
  have q3:get a2 3 = .int .i64 z:=by subst ha2;exact gQ
  have hz2:=k2.size;have g2:get a2 0 = .pointer (some ⟨rb,0,none⟩):=by rw[k2.get 0 (by omega),g1]
  have hd2:a2.defers=[]:=by rw[k2.defers,k1.defers,hd0]
  refine hK2 a2 w1 (tUp ?_);refine wT fun K6 hK6=>?_;rw[wCo,wMw,eTm,g2,wCo,wMw,eTm,gR,q3,wCo];refine wp_calls hsp.enters (vs:=#[.pointer (some ⟨rb,0,none⟩),.int .i64 z]) (by simp only[List.map_toArray,List.map_cons,List.map_nil,eTm];rw[gR,gQ,gQ]) (hsp.call w1 rb sb s z hr1) ?_;rintro sv w2 ⟨ho,hr2,f2⟩;have hlen:((rdSpan z s).1.getD []).length≤4294967296:=Nat.le_trans (rdSpan_len z s) hr1.big;generalize (rdSpan z s).1=y at *;generalize (rdSpan z s).2=s2 at *;subst hg;refine wC (wp_toString h22 h9 (by rw[eTm,gQ]) ho ?_);rw[wCo,wAg,eTm,gQ,wNi];refine hK6 _ _ (wp_ret ?_);refine ⟨by simp only[dPu];exact hd2,_,results_one hres,_,rfl,?_,hr2,f1.tr f2⟩;rw[gQ];exact ⟨_,rfl,by rw[strOf_list],by rw[strOf_list];exact hlen⟩
set_option maxRecDepth 10000 in
theorem ucstr_m {P:Program} {f:FuncId} {fn:Func}
    {T3 T61:TypeId}
    {f278 f279 f287:FuncId}
    {x0:Value}
    {a1:Array TypeId}
    {a2:Array TypeId}
    {a3:Array TypeId}
    {i0 i1 i2:Nat}
    {t0 t1 t2 t3 t4 t5 t6 t7 t8 t9 t10:TypeId} {p0 p1 p2 p3 p4 p5 p6 p7 p8 p9 p10:String} {e0 e1 e2 e3 e4 e5 e6 e7 e8 e9 e10:Array Edge}
    (hf:P.funcs[f]?=some fn) (hname:(fn.name == "runtime.NumGoroutine")=false) (hres:fn.results = #[.tmp 2]) (hN:fn.ntmps=12)
    (hbody:fn.body=some (.seq (Code.region i0 ⟨[oA 2 (.const x0) t0 p0 e0]⟩ false) (.seq (Code.region i1 ⟨[oM 4 0 t1 p1 e1,
    oC 5 f287 #[(.tmp 4)] a1 t2 p2 e2,⟨some 6,.convert T61 T3 (.tmp 5),t3,p3,e3,none⟩,⟨some 7,.binOp .sub T3 (.tmp 6) (.const (.int .i64 1)) T3,t4,p4,e4,none⟩,
    oT 3 7 t5 p5 e5]⟩ false) (.seq (Code.region i2 ⟨[oM 8 0 t6 p6 e6,
    oM 9 3 t7 p7 e7,
    oC 10 f279 #[(.tmp 8),(.tmp 9)] a2 t8 p8 e8,
    oC 11 f278 #[(.tmp 10)] a3 t9 p9 e9,
    oT 2 11 t10 p10 e10]⟩ false) .ret))))
    (h3:intOf P T3 .i64=true) (h61:intOf P T61 .u32=true) (hu:MethV P f287 (.int .u32) gUv) (hsp:SpanM P f279) (hus:UStrM P f278):MethV P f .str gCStr:=by
  refine ⟨enters_of hf hname hbody,?_⟩;intro w rb sb st h;generalize hg:gCStr st=g;refine calls_of_wp hf hbody ?_;generalize ha0:({ tmps:=#[Value.pointer (some ⟨rb,0,none⟩)]++Array.replicate (fn.ntmps - #[Value.pointer (some ⟨rb,0,none⟩)].size) undef,defers:=[] }:Act)=a0;have hsz:a0.tmps.size=12:=by subst ha0;simp[hN]
  have hd0:a0.defers=[]:=by subst ha0;rfl
  have g0:get a0 0 = .pointer (some ⟨rb,0,none⟩):=by subst ha0;exact gAr rfl
  refine tId (wp_seq_k fun K1 hK1=>?_);refine r_const (m:=2) (by omega) (by omega) fun a1 k1 _=>hK1 a1 w (tUp ?_);have hz1:=k1.size;have g1:get a1 0 = .pointer (some ⟨rb,0,none⟩):=by rw[k1.get 0 (by omega),g0]
  refine wT fun K2 hK2=>?_;rw[wCo,wMw,eTm,g1,wCo];refine wp_calls (R:=fun x w'=>x = .int .u32 ((rdUv st).1:Int)∧RW w' rb sb (rdUv st).2∧Fr [⟨rb,0,2⟩] w w') hu.enters (vs:=#[.pointer (some ⟨rb,0,none⟩)]) (by simp only[List.map_toArray,List.map_cons,List.map_nil,eTm];rw[gQ])
    ((hu.call w rb sb st h).mono (by rintro e' w' ⟨x,rfl,h1,h2,h3⟩;exact ⟨_,rfl,h1.u32,h2,h3⟩)) ?_
  rintro _ w1 ⟨rfl,hr1,f1⟩;have hlt:=rdUv_lt st;have hg:g=(.s ((rdSpan (((rdUv st).1:Int) - 1) (rdUv st).2).1.getD []),(rdSpan (((rdUv st).1:Int) - 1) (rdUv st).2).2):=hg.symm.trans rfl;generalize (rdUv st).1=x at *;generalize (rdUv st).2=s at *;refine wC (wCv (k1:=.u32) (i:=(x:Int)) h61 h3 (by rw[eTm,gQ]) ?_);rw[wrap64 (by omega),wCo];refine wp_sub (k1:=.i64) (i:=(x:Int)) (j:=1) (by rw[eTm,gQ]) rfl ?_;rw[wrap64 (by omega),wCo,wAg,eTm,gQ,wNi];generalize hzz:(x:Int) - 1=z at *;have hb : -9223372036854775808≤z∧z≤9223372036854775807:=by omega
  generalize ha2:((((a1.put (some 4) (.pointer (some ⟨rb,0,none⟩))).put (some 5) (.int .u32 (x:Int))).put (some 6) (.int .i64 (x:Int))).put (some 7) (.int .i64 z)).put (some 3) (.int .i64 z)=a2;have k2:Kept 2 a1 a2:=by subst ha2;exact ((((Kept.put0 (by omega) _).put (by omega) _).put (by omega) _).put (by omega) _).put (by omega) _
  have q3:get a2 3 = .int .i64 z:=by subst ha2;exact gQ
  have hz2:=k2.size;have g2:get a2 0 = .pointer (some ⟨rb,0,none⟩):=by rw[k2.get 0 (by omega),g1]
  have hd2:a2.defers=[]:=by rw[k2.defers,k1.defers,hd0]
  refine hK2 a2 w1 (tUp ?_);refine wT fun K6 hK6=>?_;rw[wCo,wMw,eTm,g2,wCo,wMw,eTm,gR,q3,wCo];refine wp_calls hsp.enters (vs:=#[.pointer (some ⟨rb,0,none⟩),.int .i64 z]) (by simp only[List.map_toArray,List.map_cons,List.map_nil,eTm];rw[gR,gQ,gQ]) (hsp.call w1 rb sb s z hr1) ?_;rintro sv w2 ⟨ho,hr2,f2⟩;have hlen:((rdSpan z s).1.getD []).length≤4294967296:=Nat.le_trans (rdSpan_len z s) hr1.big;generalize (rdSpan z s).1=y at *;generalize (rdSpan z s).2=s2 at *;subst hg;refine wC (wp_calls (R:=fun v w'=>v = .string (strOf (y.getD []))∧w'=w2) hus.enters (vs:=#[sv]) (by simp only[List.map_toArray,List.map_cons,List.map_nil,eTm];rw[gQ]) ((hus.call w2 _ sv y ho).mono (by rintro e' w' ⟨rfl,rfl⟩;exact ⟨_,rfl,rfl,rfl⟩)) ?_);rintro _ _ ⟨rfl,rfl⟩;rw[wCo,wAg,eTm,gQ,wNi];refine hK6 _ _ (wp_ret ?_);refine ⟨by simp only[dPu];exact hd2,_,results_one hres,_,rfl,?_,hr2,f1.tr f2⟩;rw[gQ];exact ⟨_,rfl,by rw[strOf_list],by rw[strOf_list];exact hlen⟩
set_option maxRecDepth 10000 in
theorem cnstr_m {P:Program} {f:FuncId} {fn:Func}
    {T3 T9 T22 T61:TypeId}
    {f279 f287:FuncId}
    {a0:Array TypeId}
    {a1:Array TypeId}
    {i0 i1 i2 i3 i4 i5:Nat}
    {t0 t1 t2 t3 t4 t5 t6 t7 t8 t9 t10 t11 t12 t13 t14 t15:TypeId} {p0 p1 p2 p3 p4 p5 p6 p7 p8 p9 p10 p11 p12 p13 p14 p15:String} {e0 e1 e2 e3 e4 e5 e6 e7 e8 e9 e10 e11 e12 e13 e14 e15:Array Edge}
    (hf:P.funcs[f]?=some fn) (hname:(fn.name == "runtime.NumGoroutine")=false) (hres:fn.results = #[.tmp 2]) (hN:fn.ntmps=15)
    (hbody:fn.body=some (.seq (Code.region i0 ⟨[oA 2 (.const (.pointer none)) t0 p0 e0]⟩ false) (.seq (Code.region i1 ⟨[oM 5 0 t1 p1 e1,
    oC 6 f287 #[(.tmp 5)] a0 t2 p2 e2,⟨some 7,.convert T61 T3 (.tmp 6),t3,p3,e3,none⟩,⟨some 8,.binOp .sub T3 (.tmp 7) (.const (.int .i64 1)) T3,t4,p4,e4,none⟩,
    oT 3 8 t5 p5 e5]⟩ false) (.seq (.seq (Code.region i2 ⟨[oM 9 3 t6 p6 e6,⟨some 10,.binOp .lss T3 (.tmp 9) (.const (.int .i64 0)) T3,t7,p7,e7,none⟩]⟩ false) (.cond (.tmp 10) (.seq (Code.region i3 ⟨[oA 2 (.const (.pointer none)) t8 p8 e8]⟩ false) .ret) .skip)) (.seq (Code.region i4 ⟨[oM 11 0 t9 p9 e9,
    oM 12 3 t10 p10 e10,
    oC 13 f279 #[(.tmp 11),(.tmp 12)] a1 t11 p11 e11,⟨some 14,.convert T22 T9 (.tmp 13),t12,p12,e12,none⟩,⟨some 4,.alloc T9,t13,p13,e13,none⟩,
    oS T9 4 14 t14 p14 e14]⟩ false) (.seq (Code.region i5 ⟨[oT 2 4 t15 p15 e15]⟩ false) .ret))))))
    (h3:intOf P T3 .i64=true) (h61:intOf P T61 .u32=true) (hu:MethV P f287 (.int .u32) gUv) (hsp:SpanM P f279) (h22:byteSl P T22=true) (h9:strTy P T9=true) (h9s:scal P T9=true) (hz9:zeroOf P T9 (.string ⟨#[]⟩)):MethV P f .pstr gCNStr:=by
  refine ⟨enters_of hf hname hbody,?_⟩;intro w rb sb st h;generalize hg:gCNStr st=g;refine calls_of_wp hf hbody ?_;generalize ha0:({ tmps:=#[Value.pointer (some ⟨rb,0,none⟩)]++Array.replicate (fn.ntmps - #[Value.pointer (some ⟨rb,0,none⟩)].size) undef,defers:=[] }:Act)=a0;have hsz:a0.tmps.size=15:=by subst ha0;simp[hN]
  have hd0:a0.defers=[]:=by subst ha0;rfl
  have g0:get a0 0 = .pointer (some ⟨rb,0,none⟩):=by subst ha0;exact gAr rfl
  refine tId (wp_seq_k fun K1 hK1=>?_);refine r_const (m:=2) (by omega) (by omega) fun a1 k1 _=>hK1 a1 w (tUp ?_);have hz1:=k1.size;have g1:get a1 0 = .pointer (some ⟨rb,0,none⟩):=by rw[k1.get 0 (by omega),g0]
  refine wT fun K2 hK2=>?_;rw[wCo,wMw,eTm,g1,wCo];refine wp_calls (R:=fun x w'=>x = .int .u32 ((rdUv st).1:Int)∧RW w' rb sb (rdUv st).2∧Fr [⟨rb,0,2⟩] w w') hu.enters (vs:=#[.pointer (some ⟨rb,0,none⟩)]) (by simp only[List.map_toArray,List.map_cons,List.map_nil,eTm];rw[gQ])
    ((hu.call w rb sb st h).mono (by rintro e' w' ⟨x,rfl,h1,h2,h3⟩;exact ⟨_,rfl,h1.u32,h2,h3⟩)) ?_
  rintro _ w1 ⟨rfl,hr1,f1⟩;have hlt:=rdUv_lt st;have hg:g=(if ((rdUv st).1:Int) - 1 < 0 then (.nil,(rdUv st).2) else (.s ((rdSpan (((rdUv st).1:Int) - 1) (rdUv st).2).1.getD []),(rdSpan (((rdUv st).1:Int) - 1) (rdUv st).2).2)):=hg.symm.trans rfl;generalize (rdUv st).1=x at *;generalize (rdUv st).2=s at *;refine wC (wCv (k1:=.u32) (i:=(x:Int)) h61 h3 (by rw[eTm,gQ]) ?_);rw[wrap64 (by omega),wCo];refine wp_sub (k1:=.i64) (i:=(x:Int)) (j:=1) (by rw[eTm,gQ]) rfl ?_;rw[wrap64 (by omega),wCo,wAg,eTm,gQ,wNi];generalize hzz:(x:Int) - 1=z at *;have hb : -9223372036854775808≤z∧z≤9223372036854775807:=by omega
  generalize ha2:((((a1.put (some 5) (.pointer (some ⟨rb,0,none⟩))).put (some 6) (.int .u32 (x:Int))).put (some 7) (.int .i64 (x:Int))).put (some 8) (.int .i64 z)).put (some 3) (.int .i64 z)=a2;have k2:Kept 2 a1 a2:=by subst ha2;exact ((((Kept.put0 (by omega) _).put (by omega) _).put (by omega) _).put (by omega) _).put (by omega) _
  have q3:get a2 3 = .int .i64 z:=by subst ha2;exact gQ
  have hz2:=k2.size;have g2:get a2 0 = .pointer (some ⟨rb,0,none⟩):=by rw[k2.get 0 (by omega),g1]
  have hd2:a2.defers=[]:=by rw[k2.defers,k1.defers,hd0]
  refine hK2 a2 w1 (tUp ?_);refine tId (wp_seq_k fun K3 hK3=>?_);refine wS fun K4 hK4=>?_;rw[wCo,wMw,eTm,q3,wCo];refine wp_lss (k1:=.i64) (i:=z) (j:=0) (by rw[eTm,gQ]) rfl ?_;rw[wNi];have k3:Kept 4 a2 ((a2.put (some 9) (.int .i64 z)).put (some 10) (.bool (decide (z < 0)))):=(Kept.put0 (by omega) _).put (by omega) _;have qc:get ((a2.put (some 9) (.int .i64 z)).put (some 10) (.bool (decide (z < 0)))) 10 = .bool (decide (z < 0)):=gQ;generalize (a2.put (some 9) (.int .i64 z)).put (some 10) (.bool (decide (z < 0)))=a3 at k3 qc ⊢;have hz3:=k3.size;have g3:get a3 0 = .pointer (some ⟨rb,0,none⟩):=by rw[k3.get 0 (by omega),g2]
  have r3:get a3 3 = .int .i64 z:=by rw[k3.get 3 (by omega),q3]
  have hd3:a3.defers=[]:=by rw[k3.defers,hd2]
  refine hK4 a3 w1 ?_;refine wp_cond_split (t:=decide (z < 0)) (by rw[eTm,qc]) (fun hz=>?_) fun hz=>wp_skip (hK3 a3 w1 (tUp ?_))
  · have hz : z < 0 := by simpa using hz
    rw[if_pos hz] at hg;subst hg;refine wp_seq_k fun K5 hK5=>?_;refine r_const (m:=2) (by omega) (by omega) fun a4 k4 q4=>hK5 a4 w1 ?_;exact wp_ret ⟨by rw[k4.defers,hd3],_,results_one hres,_,rfl,by rw[q4];exact .inl ⟨rfl,rfl⟩,hr1,f1⟩
  have hz:¬ z < 0:=by simpa using hz
  rw[if_neg hz] at hg;refine wT fun K6 hK6=>?_;rw[wCo,wMw,eTm,g3,wCo,wMw,eTm,gR,r3,wCo];refine wp_calls hsp.enters (vs:=#[.pointer (some ⟨rb,0,none⟩),.int .i64 z]) (by simp only[List.map_toArray,List.map_cons,List.map_nil,eTm];rw[gR,gQ,gQ]) (hsp.call w1 rb sb s z hr1) ?_;rintro sv w2 ⟨ho,hr2,f2⟩;have hlen:((rdSpan z s).1.getD []).length≤4294967296:=Nat.le_trans (rdSpan_len z s) hr1.big;generalize (rdSpan z s).1=y at *;generalize (rdSpan z s).2=s2 at *;subst hg;refine wC (wp_toString h22 h9 (by rw[eTm,gQ]) ho ?_);refine wC (wp_alloc hz9 ?_);rw[wCo];refine alloc_str (s:=strOf (y.getD [])) rfl h9s (gQ) (by rw[gR,gQ]) ?_;intro w3 f3 hc3 hw3;rw[wNi];refine hK6 _ _ (tUp ?_);refine wT fun K7 hK7=>?_;rw[wCo,wAg,eTm,gQ,wNi];refine hK7 _ _ (wp_ret ?_);have sz2:=(f1.tr f2).size;refine ⟨by simp only[dPu];exact hd3,_,results_one hres,_,rfl,?_,hr2.kept f3 (by simp),(f1.tr f2).tr f3.nil⟩;rw[gQ];exact .inr ⟨_,0,strOf (y.getD []),.inr ⟨by omega,hw3⟩,rfl,hc3,by rw[strOf_list],by rw[strOf_list];exact hlen⟩
set_option maxRecDepth 10000 in
theorem ucnstr_m {P:Program} {f:FuncId} {fn:Func}
    {T3 T9 T61:TypeId}
    {f278 f279 f287:FuncId}
    {a0:Array TypeId}
    {a1:Array TypeId}
    {a2:Array TypeId}
    {i0 i1 i2 i3 i4 i5:Nat}
    {t0 t1 t2 t3 t4 t5 t6 t7 t8 t9 t10 t11 t12 t13 t14 t15:TypeId} {p0 p1 p2 p3 p4 p5 p6 p7 p8 p9 p10 p11 p12 p13 p14 p15:String} {e0 e1 e2 e3 e4 e5 e6 e7 e8 e9 e10 e11 e12 e13 e14 e15:Array Edge}
    (hf:P.funcs[f]?=some fn) (hname:(fn.name == "runtime.NumGoroutine")=false) (hres:fn.results = #[.tmp 2]) (hN:fn.ntmps=15)
    (hbody:fn.body=some (.seq (Code.region i0 ⟨[oA 2 (.const (.pointer none)) t0 p0 e0]⟩ false) (.seq (Code.region i1 ⟨[oM 5 0 t1 p1 e1,
    oC 6 f287 #[(.tmp 5)] a0 t2 p2 e2,⟨some 7,.convert T61 T3 (.tmp 6),t3,p3,e3,none⟩,⟨some 8,.binOp .sub T3 (.tmp 7) (.const (.int .i64 1)) T3,t4,p4,e4,none⟩,
    oT 3 8 t5 p5 e5]⟩ false) (.seq (.seq (Code.region i2 ⟨[oM 9 3 t6 p6 e6,⟨some 10,.binOp .lss T3 (.tmp 9) (.const (.int .i64 0)) T3,t7,p7,e7,none⟩]⟩ false) (.cond (.tmp 10) (.seq (Code.region i3 ⟨[oA 2 (.const (.pointer none)) t8 p8 e8]⟩ false) .ret) .skip)) (.seq (Code.region i4 ⟨[oM 11 0 t9 p9 e9,
    oM 12 3 t10 p10 e10,
    oC 13 f279 #[(.tmp 11),(.tmp 12)] a1 t11 p11 e11,
    oC 14 f278 #[(.tmp 13)] a2 t12 p12 e12,⟨some 4,.alloc T9,t13,p13,e13,none⟩,
    oS T9 4 14 t14 p14 e14]⟩ false) (.seq (Code.region i5 ⟨[oT 2 4 t15 p15 e15]⟩ false) .ret))))))
    (h3:intOf P T3 .i64=true) (h61:intOf P T61 .u32=true) (hu:MethV P f287 (.int .u32) gUv) (hsp:SpanM P f279) (hus:UStrM P f278) (h9s:scal P T9=true) (hz9:zeroOf P T9 (.string ⟨#[]⟩)):MethV P f .pstr gCNStr:=by
  refine ⟨enters_of hf hname hbody,?_⟩;intro w rb sb st h;generalize hg:gCNStr st=g;refine calls_of_wp hf hbody ?_;generalize ha0:({ tmps:=#[Value.pointer (some ⟨rb,0,none⟩)]++Array.replicate (fn.ntmps - #[Value.pointer (some ⟨rb,0,none⟩)].size) undef,defers:=[] }:Act)=a0;have hsz:a0.tmps.size=15:=by subst ha0;simp[hN]
  have hd0:a0.defers=[]:=by subst ha0;rfl
  have g0:get a0 0 = .pointer (some ⟨rb,0,none⟩):=by subst ha0;exact gAr rfl
  refine tId (wp_seq_k fun K1 hK1=>?_);refine r_const (m:=2) (by omega) (by omega) fun a1 k1 _=>hK1 a1 w (tUp ?_);have hz1:=k1.size;have g1:get a1 0 = .pointer (some ⟨rb,0,none⟩):=by rw[k1.get 0 (by omega),g0]
  refine wT fun K2 hK2=>?_;rw[wCo,wMw,eTm,g1,wCo];refine wp_calls (R:=fun x w'=>x = .int .u32 ((rdUv st).1:Int)∧RW w' rb sb (rdUv st).2∧Fr [⟨rb,0,2⟩] w w') hu.enters (vs:=#[.pointer (some ⟨rb,0,none⟩)]) (by simp only[List.map_toArray,List.map_cons,List.map_nil,eTm];rw[gQ])
    ((hu.call w rb sb st h).mono (by rintro e' w' ⟨x,rfl,h1,h2,h3⟩;exact ⟨_,rfl,h1.u32,h2,h3⟩)) ?_
  rintro _ w1 ⟨rfl,hr1,f1⟩;have hlt:=rdUv_lt st;have hg:g=(if ((rdUv st).1:Int) - 1 < 0 then (.nil,(rdUv st).2) else (.s ((rdSpan (((rdUv st).1:Int) - 1) (rdUv st).2).1.getD []),(rdSpan (((rdUv st).1:Int) - 1) (rdUv st).2).2)):=hg.symm.trans rfl;generalize (rdUv st).1=x at *;generalize (rdUv st).2=s at *;refine wC (wCv (k1:=.u32) (i:=(x:Int)) h61 h3 (by rw[eTm,gQ]) ?_);rw[wrap64 (by omega),wCo];refine wp_sub (k1:=.i64) (i:=(x:Int)) (j:=1) (by rw[eTm,gQ]) rfl ?_;rw[wrap64 (by omega),wCo,wAg,eTm,gQ,wNi];generalize hzz:(x:Int) - 1=z at *;have hb : -9223372036854775808≤z∧z≤9223372036854775807:=by omega
  generalize ha2:((((a1.put (some 5) (.pointer (some ⟨rb,0,none⟩))).put (some 6) (.int .u32 (x:Int))).put (some 7) (.int .i64 (x:Int))).put (some 8) (.int .i64 z)).put (some 3) (.int .i64 z)=a2;have k2:Kept 2 a1 a2:=by subst ha2;exact ((((Kept.put0 (by omega) _).put (by omega) _).put (by omega) _).put (by omega) _).put (by omega) _
  have q3:get a2 3 = .int .i64 z:=by subst ha2;exact gQ
  have hz2:=k2.size;have g2:get a2 0 = .pointer (some ⟨rb,0,none⟩):=by rw[k2.get 0 (by omega),g1]
  have hd2:a2.defers=[]:=by rw[k2.defers,k1.defers,hd0]
  refine hK2 a2 w1 (tUp ?_);refine tId (wp_seq_k fun K3 hK3=>?_);refine wS fun K4 hK4=>?_;rw[wCo,wMw,eTm,q3,wCo];refine wp_lss (k1:=.i64) (i:=z) (j:=0) (by rw[eTm,gQ]) rfl ?_;rw[wNi];have k3:Kept 4 a2 ((a2.put (some 9) (.int .i64 z)).put (some 10) (.bool (decide (z < 0)))):=(Kept.put0 (by omega) _).put (by omega) _;have qc:get ((a2.put (some 9) (.int .i64 z)).put (some 10) (.bool (decide (z < 0)))) 10 = .bool (decide (z < 0)):=gQ;generalize (a2.put (some 9) (.int .i64 z)).put (some 10) (.bool (decide (z < 0)))=a3 at k3 qc ⊢;have hz3:=k3.size;have g3:get a3 0 = .pointer (some ⟨rb,0,none⟩):=by rw[k3.get 0 (by omega),g2]
  have r3:get a3 3 = .int .i64 z:=by rw[k3.get 3 (by omega),q3]
  have hd3:a3.defers=[]:=by rw[k3.defers,hd2]
  refine hK4 a3 w1 ?_;refine wp_cond_split (t:=decide (z < 0)) (by rw[eTm,qc]) (fun hz=>?_) fun hz=>wp_skip (hK3 a3 w1 (tUp ?_))
  · have hz : z < 0 := by simpa using hz
    rw[if_pos hz] at hg;subst hg;refine wp_seq_k fun K5 hK5=>?_;refine r_const (m:=2) (by omega) (by omega) fun a4 k4 q4=>hK5 a4 w1 ?_;exact wp_ret ⟨by rw[k4.defers,hd3],_,results_one hres,_,rfl,by rw[q4];exact .inl ⟨rfl,rfl⟩,hr1,f1⟩
  have hz:¬ z < 0:=by simpa using hz
  rw[if_neg hz] at hg;refine wT fun K6 hK6=>?_;rw[wCo,wMw,eTm,g3,wCo,wMw,eTm,gR,r3,wCo];refine wp_calls hsp.enters (vs:=#[.pointer (some ⟨rb,0,none⟩),.int .i64 z]) (by simp only[List.map_toArray,List.map_cons,List.map_nil,eTm];rw[gR,gQ,gQ]) (hsp.call w1 rb sb s z hr1) ?_;rintro sv w2 ⟨ho,hr2,f2⟩;have hlen:((rdSpan z s).1.getD []).length≤4294967296:=Nat.le_trans (rdSpan_len z s) hr1.big;generalize (rdSpan z s).1=y at *;generalize (rdSpan z s).2=s2 at *;subst hg;refine wC (wp_calls (R:=fun v w'=>v = .string (strOf (y.getD []))∧w'=w2) hus.enters (vs:=#[sv]) (by simp only[List.map_toArray,List.map_cons,List.map_nil,eTm];rw[gQ]) ((hus.call w2 _ sv y ho).mono (by rintro e' w' ⟨rfl,rfl⟩;exact ⟨_,rfl,rfl,rfl⟩)) ?_);rintro _ _ ⟨rfl,rfl⟩;refine wC (wp_alloc hz9 ?_);rw[wCo];refine alloc_str (s:=strOf (y.getD [])) rfl h9s (gQ) (by rw[gR,gQ]) ?_;intro w3 f3 hc3 hw3;rw[wNi];refine hK6 _ _ (tUp ?_);refine wT fun K7 hK7=>?_;rw[wCo,wAg,eTm,gQ,wNi];refine hK7 _ _ (wp_ret ?_);have sz2:=(f1.tr f2).size;refine ⟨by simp only[dPu];exact hd3,_,results_one hres,_,rfl,?_,hr2.kept f3 (by simp),(f1.tr f2).tr f3.nil⟩;rw[gQ];exact .inr ⟨_,0,strOf (y.getD []),.inr ⟨by omega,hw3⟩,rfl,hc3,by rw[strOf_list],by rw[strOf_list];exact hlen⟩
set_option maxRecDepth 10000 in
theorem nstr_m {P:Program} {f:FuncId} {fn:Func}
    {T3 T9 T22 T45:TypeId}
    {f209 f279:FuncId}
    {a0:Array TypeId}
    {a1:Array TypeId}
    {i0 i1 i2 i3 i4 i5:Nat}
    {t0 t1 t2 t3 t4 t5 t6 t7 t8 t9 t10 t11 t12 t13 t14:TypeId} {p0 p1 p2 p3 p4 p5 p6 p7 p8 p9 p10 p11 p12 p13 p14:String} {e0 e1 e2 e3 e4 e5 e6 e7 e8 e9 e10 e11 e12 e13 e14:Array Edge}
    (hf:P.funcs[f]?=some fn) (hname:(fn.name == "runtime.NumGoroutine")=false) (hres:fn.results = #[.tmp 2]) (hN:fn.ntmps=14)
    (hbody:fn.body=some (.seq (Code.region i0 ⟨[oA 2 (.const (.pointer none)) t0 p0 e0]⟩ false) (.seq (Code.region i1 ⟨[oM 5 0 t1 p1 e1,
    oC 6 f209 #[(.tmp 5)] a0 t2 p2 e2,
    oT 3 6 t3 p3 e3]⟩ false) (.seq (.seq (Code.region i2 ⟨[oM 7 3 t4 p4 e4,⟨some 8,.binOp .lss T45 (.tmp 7) (.const (.int .i16 0)) T45,t5,p5,e5,none⟩]⟩ false) (.cond (.tmp 8) (.seq (Code.region i3 ⟨[oA 2 (.const (.pointer none)) t6 p6 e6]⟩ false) .ret) .skip)) (.seq (Code.region i4 ⟨[oM 9 0 t7 p7 e7,
    oM 10 3 t8 p8 e8,⟨some 11,.convert T45 T3 (.tmp 10),t9,p9,e9,none⟩,
    oC 12 f279 #[(.tmp 9),(.tmp 11)] a1 t10 p10 e10,⟨some 13,.convert T22 T9 (.tmp 12),t11,p11,e11,none⟩,⟨some 4,.alloc T9,t12,p12,e12,none⟩,
    oS T9 4 13 t13 p13 e13]⟩ false) (.seq (Code.region i5 ⟨[oT 2 4 t14 p14 e14]⟩ false) .ret))))))
    (h3:intOf P T3 .i64=true) (h45:intOf P T45 .i16=true) (hu:MethV P f209 (.int .i16) (gNum .i16 2)) (hsp:SpanM P f279) (h22:byteSl P T22=true) (h9:strTy P T9=true) (h9s:scal P T9=true) (hz9:zeroOf P T9 (.string ⟨#[]⟩)):MethV P f .pstr gNStr:=by
  refine ⟨enters_of hf hname hbody,?_⟩;intro w rb sb st h;generalize hg:gNStr st=g;refine calls_of_wp hf hbody ?_;generalize ha0:({ tmps:=#[Value.pointer (some ⟨rb,0,none⟩)]++Array.replicate (fn.ntmps - #[Value.pointer (some ⟨rb,0,none⟩)].size) undef,defers:=[] }:Act)=a0;have hsz:a0.tmps.size=14:=by subst ha0;simp[hN]
  have hd0:a0.defers=[]:=by subst ha0;rfl
  have g0:get a0 0 = .pointer (some ⟨rb,0,none⟩):=by subst ha0;exact gAr rfl
  refine tId (wp_seq_k fun K1 hK1=>?_);refine r_const (m:=2) (by omega) (by omega) fun a1 k1 _=>hK1 a1 w (tUp ?_);have hz1:=k1.size;have g1:get a1 0 = .pointer (some ⟨rb,0,none⟩):=by rw[k1.get 0 (by omega),g0]
  refine wT fun K2 hK2=>?_;rw[wCo,wMw,eTm,g1,wCo];refine wp_calls (R:=fun x w'=>x = .int .i16 (rdNum .i16 2 st).1∧RW w' rb sb (rdNum .i16 2 st).2∧Fr [⟨rb,0,2⟩] w w') hu.enters (vs:=#[.pointer (some ⟨rb,0,none⟩)]) (by simp only[List.map_toArray,List.map_cons,List.map_nil,eTm];rw[gQ])
    ((hu.call w rb sb st h).mono (by rintro e' w' ⟨x,rfl,h1,h2,h3⟩;exact ⟨_,rfl,h1.i16,h2,h3⟩)) ?_
  rintro _ w1 ⟨rfl,hr1,f1⟩;have hb:=rdNum_i16 st;have hg:g=(if (rdNum .i16 2 st).1 < 0 then (.nil,(rdNum .i16 2 st).2) else (.s ((rdSpan (rdNum .i16 2 st).1 (rdNum .i16 2 st).2).1.getD []),(rdSpan (rdNum .i16 2 st).1 (rdNum .i16 2 st).2).2)):=hg.symm.trans rfl;generalize (rdNum .i16 2 st).1=z at *;generalize (rdNum .i16 2 st).2=s at *;rw[wCo,wAg,eTm,gQ,wNi];generalize ha2:((a1.put (some 5) (.pointer (some ⟨rb,0,none⟩))).put (some 6) (.int .i16 z)).put (some 3) (.int .i16 z)=a2;have k2:Kept 2 a1 a2:=by subst ha2;exact ((Kept.put0 (by omega) _).put (by omega) _).put (by omega) _
  have q3:get a2 3 = .int .i16 z:=by subst ha2;exact gQ
  have hz2:=k2.size;have g2:get a2 0 = .pointer (some ⟨rb,0,none⟩):=by rw[k2.get 0 (by omega),g1]
  have hd2:a2.defers=[]:=by rw[k2.defers,k1.defers,hd0]
  refine hK2 a2 w1 (tUp ?_);refine tId (wp_seq_k fun K3 hK3=>?_);refine wS fun K4 hK4=>?_;rw[wCo,wMw,eTm,q3,wCo];refine wp_lss (k1:=.i16) (i:=z) (j:=0) (by rw[eTm,gQ]) rfl ?_;rw[wNi];have k3:Kept 4 a2 ((a2.put (some 7) (.int .i16 z)).put (some 8) (.bool (decide (z < 0)))):=(Kept.put0 (by omega) _).put (by omega) _;have qc:get ((a2.put (some 7) (.int .i16 z)).put (some 8) (.bool (decide (z < 0)))) 8 = .bool (decide (z < 0)):=gQ;generalize (a2.put (some 7) (.int .i16 z)).put (some 8) (.bool (decide (z < 0)))=a3 at k3 qc ⊢;have hz3:=k3.size;have g3:get a3 0 = .pointer (some ⟨rb,0,none⟩):=by rw[k3.get 0 (by omega),g2]
  have r3:get a3 3 = .int .i16 z:=by rw[k3.get 3 (by omega),q3]
  have hd3:a3.defers=[]:=by rw[k3.defers,hd2]
  refine hK4 a3 w1 ?_;refine wp_cond_split (t:=decide (z < 0)) (by rw[eTm,qc]) (fun hz=>?_) fun hz=>wp_skip (hK3 a3 w1 (tUp ?_))
  · have hz : z < 0 := by simpa using hz
    rw[if_pos hz] at hg;subst hg;refine wp_seq_k fun K5 hK5=>?_;refine r_const (m:=2) (by omega) (by omega) fun a4 k4 q4=>hK5 a4 w1 ?_;exact wp_ret ⟨by rw[k4.defers,hd3],_,results_one hres,_,rfl,by rw[q4];exact .inl ⟨rfl,rfl⟩,hr1,f1⟩
  have hz:¬ z < 0:=by simpa using hz
  rw[if_neg hz] at hg;refine wT fun K6 hK6=>?_;rw[wCo,wMw,eTm,g3,wCo,wMw,eTm,gR,r3,wCo];refine wCv (k1:=.i16) (i:=z) h45 h3 (by rw[eTm,gQ]) ?_;rw[wrap64 (by omega),wCo];refine wp_calls hsp.enters (vs:=#[.pointer (some ⟨rb,0,none⟩),.int .i64 z]) (by simp only[List.map_toArray,List.map_cons,List.map_nil,eTm];rw[gR,gR,gQ,gQ]) (hsp.call w1 rb sb s z hr1) ?_;rintro sv w2 ⟨ho,hr2,f2⟩;have hlen:((rdSpan z s).1.getD []).length≤4294967296:=Nat.le_trans (rdSpan_len z s) hr1.big;generalize (rdSpan z s).1=y at *;generalize (rdSpan z s).2=s2 at *;subst hg;refine wC (wp_toString h22 h9 (by rw[eTm,gQ]) ho ?_);refine wC (wp_alloc hz9 ?_);rw[wCo];refine alloc_str (s:=strOf (y.getD [])) rfl h9s (gQ) (by rw[gR,gQ]) ?_;intro w3 f3 hc3 hw3;rw[wNi];refine hK6 _ _ (tUp ?_);refine wT fun K7 hK7=>?_;rw[wCo,wAg,eTm,gQ,wNi];refine hK7 _ _ (wp_ret ?_);have sz2:=(f1.tr f2).size;refine ⟨by simp only[dPu];exact hd3,_,results_one hres,_,rfl,?_,hr2.kept f3 (by simp),(f1.tr f2).tr f3.nil⟩;rw[gQ];exact .inr ⟨_,0,strOf (y.getD []),.inr ⟨by omega,hw3⟩,rfl,hc3,by rw[strOf_list],by rw[strOf_list];exact hlen⟩
set_option maxRecDepth 10000 in
theorem unstr_m {P:Program} {f:FuncId} {fn:Func}
    {T3 T9 T45:TypeId}
    {f209 f278 f279:FuncId}
    {a0:Array TypeId}
    {a1:Array TypeId}
    {a2:Array TypeId}
    {i0 i1 i2 i3 i4 i5:Nat}
    {t0 t1 t2 t3 t4 t5 t6 t7 t8 t9 t10 t11 t12 t13 t14:TypeId} {p0 p1 p2 p3 p4 p5 p6 p7 p8 p9 p10 p11 p12 p13 p14:String} {e0 e1 e2 e3 e4 e5 e6 e7 e8 e9 e10 e11 e12 e13 e14:Array Edge}
    (hf:P.funcs[f]?=some fn) (hname:(fn.name == "runtime.NumGoroutine")=false) (hres:fn.results = #[.tmp 2]) (hN:fn.ntmps=14)
    (hbody:fn.body=some (.seq (Code.region i0 ⟨[oA 2 (.const (.pointer none)) t0 p0 e0]⟩ false) (.seq (Code.region i1 ⟨[oM 5 0 t1 p1 e1,
    oC 6 f209 #[(.tmp 5)] a0 t2 p2 e2,
    oT 3 6 t3 p3 e3]⟩ false) (.seq (.seq (Code.region i2 ⟨[oM 7 3 t4 p4 e4,⟨some 8,.binOp .lss T45 (.tmp 7) (.const (.int .i16 0)) T45,t5,p5,e5,none⟩]⟩ false) (.cond (.tmp 8) (.seq (Code.region i3 ⟨[oA 2 (.const (.pointer none)) t6 p6 e6]⟩ false) .ret) .skip)) (.seq (Code.region i4 ⟨[oM 9 0 t7 p7 e7,
    oM 10 3 t8 p8 e8,⟨some 11,.convert T45 T3 (.tmp 10),t9,p9,e9,none⟩,
    oC 12 f279 #[(.tmp 9),(.tmp 11)] a1 t10 p10 e10,
    oC 13 f278 #[(.tmp 12)] a2 t11 p11 e11,⟨some 4,.alloc T9,t12,p12,e12,none⟩,
    oS T9 4 13 t13 p13 e13]⟩ false) (.seq (Code.region i5 ⟨[oT 2 4 t14 p14 e14]⟩ false) .ret))))))
    (h3:intOf P T3 .i64=true) (h45:intOf P T45 .i16=true) (hu:MethV P f209 (.int .i16) (gNum .i16 2)) (hsp:SpanM P f279) (hus:UStrM P f278) (h9s:scal P T9=true) (hz9:zeroOf P T9 (.string ⟨#[]⟩)):MethV P f .pstr gNStr:=by
  refine ⟨enters_of hf hname hbody,?_⟩;intro w rb sb st h;generalize hg:gNStr st=g;refine calls_of_wp hf hbody ?_;generalize ha0:({ tmps:=#[Value.pointer (some ⟨rb,0,none⟩)]++Array.replicate (fn.ntmps - #[Value.pointer (some ⟨rb,0,none⟩)].size) undef,defers:=[] }:Act)=a0;have hsz:a0.tmps.size=14:=by subst ha0;simp[hN]
  have hd0:a0.defers=[]:=by subst ha0;rfl
  have g0:get a0 0 = .pointer (some ⟨rb,0,none⟩):=by subst ha0;exact gAr rfl
  refine tId (wp_seq_k fun K1 hK1=>?_);refine r_const (m:=2) (by omega) (by omega) fun a1 k1 _=>hK1 a1 w (tUp ?_);have hz1:=k1.size;have g1:get a1 0 = .pointer (some ⟨rb,0,none⟩):=by rw[k1.get 0 (by omega),g0]
  refine wT fun K2 hK2=>?_;rw[wCo,wMw,eTm,g1,wCo];refine wp_calls (R:=fun x w'=>x = .int .i16 (rdNum .i16 2 st).1∧RW w' rb sb (rdNum .i16 2 st).2∧Fr [⟨rb,0,2⟩] w w') hu.enters (vs:=#[.pointer (some ⟨rb,0,none⟩)]) (by simp only[List.map_toArray,List.map_cons,List.map_nil,eTm];rw[gQ])
    ((hu.call w rb sb st h).mono (by rintro e' w' ⟨x,rfl,h1,h2,h3⟩;exact ⟨_,rfl,h1.i16,h2,h3⟩)) ?_
  rintro _ w1 ⟨rfl,hr1,f1⟩;have hb:=rdNum_i16 st;have hg:g=(if (rdNum .i16 2 st).1 < 0 then (.nil,(rdNum .i16 2 st).2) else (.s ((rdSpan (rdNum .i16 2 st).1 (rdNum .i16 2 st).2).1.getD []),(rdSpan (rdNum .i16 2 st).1 (rdNum .i16 2 st).2).2)):=hg.symm.trans rfl;generalize (rdNum .i16 2 st).1=z at *;generalize (rdNum .i16 2 st).2=s at *;rw[wCo,wAg,eTm,gQ,wNi];generalize ha2:((a1.put (some 5) (.pointer (some ⟨rb,0,none⟩))).put (some 6) (.int .i16 z)).put (some 3) (.int .i16 z)=a2;have k2:Kept 2 a1 a2:=by subst ha2;exact ((Kept.put0 (by omega) _).put (by omega) _).put (by omega) _
  have q3:get a2 3 = .int .i16 z:=by subst ha2;exact gQ
  have hz2:=k2.size;have g2:get a2 0 = .pointer (some ⟨rb,0,none⟩):=by rw[k2.get 0 (by omega),g1]
  have hd2:a2.defers=[]:=by rw[k2.defers,k1.defers,hd0]
  refine hK2 a2 w1 (tUp ?_);refine tId (wp_seq_k fun K3 hK3=>?_);refine wS fun K4 hK4=>?_;rw[wCo,wMw,eTm,q3,wCo];refine wp_lss (k1:=.i16) (i:=z) (j:=0) (by rw[eTm,gQ]) rfl ?_;rw[wNi];have k3:Kept 4 a2 ((a2.put (some 7) (.int .i16 z)).put (some 8) (.bool (decide (z < 0)))):=(Kept.put0 (by omega) _).put (by omega) _;have qc:get ((a2.put (some 7) (.int .i16 z)).put (some 8) (.bool (decide (z < 0)))) 8 = .bool (decide (z < 0)):=gQ;generalize (a2.put (some 7) (.int .i16 z)).put (some 8) (.bool (decide (z < 0)))=a3 at k3 qc ⊢;have hz3:=k3.size;have g3:get a3 0 = .pointer (some ⟨rb,0,none⟩):=by rw[k3.get 0 (by omega),g2]
  have r3:get a3 3 = .int .i16 z:=by rw[k3.get 3 (by omega),q3]
  have hd3:a3.defers=[]:=by rw[k3.defers,hd2]
  refine hK4 a3 w1 ?_;refine wp_cond_split (t:=decide (z < 0)) (by rw[eTm,qc]) (fun hz=>?_) fun hz=>wp_skip (hK3 a3 w1 (tUp ?_))
  · have hz : z < 0 := by simpa using hz
    rw[if_pos hz] at hg;subst hg;refine wp_seq_k fun K5 hK5=>?_;refine r_const (m:=2) (by omega) (by omega) fun a4 k4 q4=>hK5 a4 w1 ?_;exact wp_ret ⟨by rw[k4.defers,hd3],_,results_one hres,_,rfl,by rw[q4];exact .inl ⟨rfl,rfl⟩,hr1,f1⟩
  have hz:¬ z < 0:=by simpa using hz
  rw[if_neg hz] at hg;refine wT fun K6 hK6=>?_;rw[wCo,wMw,eTm,g3,wCo,wMw,eTm,gR,r3,wCo];refine wCv (k1:=.i16) (i:=z) h45 h3 (by rw[eTm,gQ]) ?_;rw[wrap64 (by omega),wCo];refine wp_calls hsp.enters (vs:=#[.pointer (some ⟨rb,0,none⟩),.int .i64 z]) (by simp only[List.map_toArray,List.map_cons,List.map_nil,eTm];rw[gR,gR,gQ,gQ]) (hsp.call w1 rb sb s z hr1) ?_;rintro sv w2 ⟨ho,hr2,f2⟩;have hlen:((rdSpan z s).1.getD []).length≤4294967296:=Nat.le_trans (rdSpan_len z s) hr1.big;generalize (rdSpan z s).1=y at *;generalize (rdSpan z s).2=s2 at *;subst hg;refine wC (wp_calls (R:=fun v w'=>v = .string (strOf (y.getD []))∧w'=w2) hus.enters (vs:=#[sv]) (by simp only[List.map_toArray,List.map_cons,List.map_nil,eTm];rw[gQ]) ((hus.call w2 _ sv y ho).mono (by rintro e' w' ⟨rfl,rfl⟩;exact ⟨_,rfl,rfl,rfl⟩)) ?_);rintro _ _ ⟨rfl,rfl⟩;refine wC (wp_alloc hz9 ?_);rw[wCo];refine alloc_str (s:=strOf (y.getD [])) rfl h9s (gQ) (by rw[gR,gQ]) ?_;intro w3 f3 hc3 hw3;rw[wNi];refine hK6 _ _ (tUp ?_);refine wT fun K7 hK7=>?_;rw[wCo,wAg,eTm,gQ,wNi];refine hK7 _ _ (wp_ret ?_);have sz2:=(f1.tr f2).size;refine ⟨by simp only[dPu];exact hd3,_,results_one hres,_,rfl,?_,hr2.kept f3 (by simp),(f1.tr f2).tr f3.nil⟩;rw[gQ];exact .inr ⟨_,0,strOf (y.getD []),.inr ⟨by omega,hw3⟩,rfl,hc3,by rw[strOf_list],by rw[strOf_list];exact hlen⟩
theorem calen_m {P:Program} {f:FuncId} {fn:Func} {et:TypeId}
    {T3 T4 T21 T22 T61 T216:TypeId}
    {f287:FuncId}
    {a0:Array TypeId}
    {i0 i1 i2 i3 i4 i5 i6:Nat}
    {t0 t1 t2 t3 t4 t5 t6 t7 t8 t9 t10 t11 t12 t13 t14 t15 t16 t17 t18 t19 t20 t21 t22 t23 t24:TypeId} {p0 p1 p2 p3 p4 p5 p6 p7 p8 p9 p10 p11 p12 p13 p14 p15 p16 p17 p18 p19 p20 p21 p22 p23 p24:String} {e0 e1 e2 e3 e4 e5 e6 e7 e8 e9 e10 e11 e12 e13 e14 e15 e16 e17 e18 e19 e20 e21 e22 e23 e24:Array Edge}
    (hf:P.funcs[f]?=some fn) (hname:(fn.name == "runtime.NumGoroutine")=false) (hres:fn.results = #[.tmp 2]) (hN:fn.ntmps=23)
    (hbody:fn.body=some (.seq (Code.region i0 ⟨[oA 2 (.const (.int .i32 0)) t0 p0 e0]⟩ false) (.seq (Code.region i1 ⟨[oM 4 0 t1 p1 e1,
    oC 5 f287 #[(.tmp 4)] a0 t2 p2 e2,⟨some 6,.convert T61 T21 (.tmp 5),t3,p3,e3,none⟩,⟨some 7,.binOp .sub T21 (.tmp 6) (.const (.int .i32 1)) T21,t4,p4,e4,none⟩,
    oT 3 7 t5 p5 e5]⟩ false) (.seq (.seq (Code.region i2 ⟨[oM 8 0 t6 p6 e6,⟨some 9,.nilCheck (.tmp 8),t7,p7,e7,none⟩,
    oF 10 T216 9 0 t8 p8 e8,
    oL 11 T22 10 t9 p9 e9,⟨some 12,.call ⟨.builtin .len,#[(.tmp 11)],#[T22]⟩,t10,p10,e10,none⟩,
    oM 13 3 t11 p11 e11,⟨some 14,.convert T21 T3 (.tmp 13),t12,p12,e12,none⟩,⟨some 15,.binOp .lss T3 (.tmp 12) (.tmp 14) T3,t13,p13,e13,none⟩]⟩ false) (.cond (.tmp 15) (.seq (Code.region i3 ⟨[oM 16 0 t14 p14 e14,⟨some 17,.nilCheck (.tmp 16),t15,p15,e15,none⟩,
    oF 18 T216 17 1 t16 p16 e16,⟨none,.store T4 (.tmp 18) (.const (.bool true)),t17,p17,e17,none⟩]⟩ false) (.seq (Code.region i4 ⟨[oM 19 0 t18 p18 e18,⟨some 20,.nilCheck (.tmp 19),t19,p19,e19,none⟩,
    oF 21 T216 20 0 t20 p20 e20,⟨none,.store T22 (.tmp 21) (.const (.slice none 0 0)),t21,p21,e21,none⟩]⟩ false) (.seq (Code.region i5 ⟨[oA 2 (.const (.int .i32 0)) t22 p22 e22]⟩ false) .ret))) .skip)) (.seq (Code.region i6 ⟨[oM 22 3 t23 p23 e23,
    oT 2 22 t24 p24 e24]⟩ false) .ret)))))
    (hs:sliceOf P T22 et 1 1=true) (h22:scal P T22=true) (h4:scal P T4=true) (hF0:fieldOf P T216 0 0=true) (hF1:fieldOf P T216 1 1=true) (h3:intOf P T3 .i64=true) (h21:intOf P T21 .i32=true) (h61:intOf P T61 .u32=true) (hu:MethV P f287 (.int .u32) gUv):MethV P f (.int .i32) gCALen:=by
  refine ⟨enters_of hf hname hbody,?_⟩;intro w rb sb st h;generalize hg:gCALen st=g;refine calls_of_wp hf hbody ?_;generalize ha0:({ tmps:=#[Value.pointer (some ⟨rb,0,none⟩)]++Array.replicate (fn.ntmps - #[Value.pointer (some ⟨rb,0,none⟩)].size) undef,defers:=[] }:Act)=a0;have hsz:a0.tmps.size=23:=by subst ha0;simp[hN]
  have hd0:a0.defers=[]:=by subst ha0;rfl
  have g0:get a0 0 = .pointer (some ⟨rb,0,none⟩):=by subst ha0;exact gAr rfl
  refine tId (wp_seq_k fun K1 hK1=>?_);refine r_const (m:=2) (by omega) (by omega) fun a1 k1 _=>hK1 a1 w (tUp ?_);have hz1:=k1.size;have g1:get a1 0 = .pointer (some ⟨rb,0,none⟩):=by rw[k1.get 0 (by omega),g0]
  refine wT fun K2 hK2=>?_;rw[wCo,wMw,eTm,g1,wCo];refine wp_calls (R:=fun x w'=>x = .int .u32 ((rdUv st).1:Int)∧RW w' rb sb (rdUv st).2∧Fr [⟨rb,0,2⟩] w w') hu.enters (vs:=#[.pointer (some ⟨rb,0,none⟩)]) (by simp only[List.map_toArray,List.map_cons,List.map_nil,eTm];rw[gQ])
    ((hu.call w rb sb st h).mono (by rintro e' w' ⟨x,rfl,h1,h2,h3⟩;exact ⟨_,rfl,h1.u32,h2,h3⟩)) ?_
  rintro _ w1 ⟨rfl,hr1,f1⟩;have hg:g=(if (((rdUv st).2.xs.length:Nat):Int) < IntKind.i32.wrap (IntKind.i32.wrap ((rdUv st).1:Int) - 1) then (V.n 0,RSt.fail) else (V.n (IntKind.i32.wrap (IntKind.i32.wrap ((rdUv st).1:Int) - 1)),(rdUv st).2)):=by
    rw[← hg];unfold gCALen rdCArrayLen;simp only[]
    split <;> rfl
  generalize (rdUv st).1=x at *;generalize (rdUv st).2=s at *;have hzr:=wrap_i32_range (IntKind.i32.wrap (x:Int) - 1);refine wC (wCv (k1:=.u32) (i:=(x:Int)) h61 h21 (by rw[eTm,gQ]) ?_);refine wC (wp_sub (k1:=.i32) (i:=IntKind.i32.wrap (x:Int)) (j:=1) (by rw[eTm,gQ]) rfl ?_);generalize IntKind.i32.wrap (IntKind.i32.wrap (x:Int) - 1)=z at *;rw[wCo,wAg,eTm,gQ,wNi];generalize ha2:((((a1.put (some 4) (.pointer (some ⟨rb,0,none⟩))).put (some 5) (.int .u32 (x:Int))).put (some 6) (.int .i32 (IntKind.i32.wrap (x:Int)))).put (some 7) (.int .i32 z)).put (some 3) (.int .i32 z)=a2;have k2:Kept 2 a1 a2:=by subst ha2;exact ((((Kept.put0 (by omega) _).put (by omega) _).put (by omega) _).put (by omega) _).put (by omega) _
  have q3:get a2 3 = .int .i32 z:=by subst ha2;exact gQ
  have hz2:=k2.size;have g2:get a2 0 = .pointer (some ⟨rb,0,none⟩):=by rw[k2.get 0 (by omega),g1]
  have hd2:a2.defers=[]:=by rw[k2.defers,k1.defers,hd0]
  refine hK2 a2 w1 (tUp ?_);obtain ⟨q,cap,c0,c1,fz0,fz1,hrb⟩:=hr1.slice;have hgone:=hr1.gone;have hthere:w1.there rb 0 2:=hr1.2.1;refine tId (wp_seq_k fun K3 hK3=>?_);refine wS fun K4 hK4=>?_;rw[wCo,wMw,eTm,g2,wCo];refine wNc (q:=⟨rb,0,none⟩) (by rw[eTm,gQ]) ?_;refine wC (wFa (b:=rb) (i:=0) hF0 (by rw[eTm,gQ]) ?_);refine wC (wp_load h22 (b:=rb) (o:=0) (v:=.slice q s.xs.length cap) (by rw[eTm,gQ]) c0 ?_);refine wC (wp_len hs (by rw[eTm,gQ]) ?_);rw[wCo,wMw,eTm,gR,gR,gR,gR,gR,q3,wCo];refine wCv (k1:=.i32) (i:=z) h21 h3 (by rw[eTm,gQ]) ?_;rw[wrap64 (by omega),wCo];refine wp_lss (k1:=.i64) (i:=s.xs.length) (j:=z) (by rw[eTm,gR,gR,gQ]) (by rw[eTm,gQ]) ?_;rw[wNi];generalize ha3:(((((((a2.put (some 8) (.pointer (some ⟨rb,0,none⟩))).put (some 9) (.pointer (some ⟨rb,0,none⟩))).put (some 10) (.pointer (some ⟨rb,0+0,none⟩))).put (some 11) (.slice q s.xs.length cap)).put (some 12) (.int .i64 s.xs.length)).put (some 13) (.int .i32 z)).put (some 14) (.int .i64 z)).put (some 15) (.bool (decide ((s.xs.length:Int) < z)))=a3;have k3:Kept 8 a2 a3:=by subst ha3;exact (((((((Kept.put0 (by omega) _).put (by omega) _).put (by omega) _).put (by omega) _).put (by omega) _).put (by omega) _).put (by omega) _).put (by omega) _
  have q15:get a3 15 = .bool (decide ((s.xs.length:Int) < z)):=by subst ha3;exact gQ
  have hz3:=k3.size;have g3:get a3 0 = .pointer (some ⟨rb,0,none⟩):=by rw[k3.get 0 (by omega),g2]
  have r3:get a3 3 = .int .i32 z:=by rw[k3.get 3 (by omega),q3]
  have hd3:a3.defers=[]:=by rw[k3.defers,hd2]
  refine hK4 a3 w1 ?_;refine wp_cond_split (t:=decide ((s.xs.length:Int) < z)) (by rw[eTm,q15]) (fun hz=>?_) fun hz=>wp_skip (hK3 a3 w1 (tUp ?_))
  · have hz : (s.xs.length : Int) < z := by simpa using hz
    rw[if_pos hz] at hg;subst hg;refine wS fun K5 hK5=>?_;rw[wCo,wMw,eTm,g3,wCo];refine wNc (q:=⟨rb,0,none⟩) (by rw[eTm,gQ]) ?_;refine wC (wFa (b:=rb) (i:=0) hF1 (by rw[eTm,gQ]) ?_);refine wC (wp_store h4 (b:=rb) (o:=0+1) (v:=.bool true) (by rw[eTm,gQ]) rfl rfl (there_part hthere (by omega) (by omega)) ?_);rw[pNo,wNi];generalize ha4:((a3.put (some 16) (.pointer (some ⟨rb,0,none⟩))).put (some 17) (.pointer (some ⟨rb,0,none⟩))).put (some 18) (.pointer (some ⟨rb,0+1,none⟩))=a4;have k4:Kept 8 a3 a4:=by subst ha4;exact ((Kept.put0 (by omega) _).put (by omega) _).put (by omega) _
    have hz4:=k4.size;refine hK5 a4 _ ?_;refine wS fun K6 hK6=>?_;rw[wCo,wMw,eTm,k4.get 0 (by omega),g3,wCo];refine wNc (q:=⟨rb,0,none⟩) (by rw[eTm,gQ]) ?_;refine wC (wFa (b:=rb) (i:=0) hF0 (by rw[eTm,gQ]) ?_);refine wC (wp_store h22 (b:=rb) (o:=0+0) (v:=.slice none 0 0) (by rw[eTm,gQ]) rfl rfl (there_part ((Fr.set w1 rb (0+1) (.bool true)).there hthere) (by omega) (by omega)) ?_);rw[pNo,wNi];generalize ha5:((a4.put (some 19) (.pointer (some ⟨rb,0,none⟩))).put (some 20) (.pointer (some ⟨rb,0,none⟩))).put (some 21) (.pointer (some ⟨rb,0+0,none⟩))=a5;have k5:Kept 8 a4 a5:=by subst ha5;exact ((Kept.put0 (by omega) _).put (by omega) _).put (by omega) _
    have hz5:=k5.size;refine hK6 a5 _ ?_;refine wp_seq_k fun K7 hK7=>?_;refine r_const (m:=2) (by omega) (by omega) fun a6 k6 g6=>hK7 a6 _ ?_;exact wp_ret ⟨by rw[k6.defers,k5.defers,k4.defers,hd3],_,results_one hres,_,rfl,by rw[g6];exact ⟨0,rfl,rfl,by decide,by decide⟩,hgone.1,f1.tr hgone.2⟩
  have hz:¬ (s.xs.length:Int) < z:=by simpa using hz
  rw[if_neg hz] at hg;subst hg;refine wT fun K6 hK6=>?_;rw[wCo,wMw,eTm,r3,wCo,wAg,eTm,gQ,wNi];refine hK6 _ _ (wp_ret ?_);refine ⟨by simp only[dPu];exact hd3,_,results_one hres,_,rfl,?_,hr1,f1⟩;rw[gQ];exact ⟨z,rfl,rfl,by show -2147483648≤z;omega,by show z≤2147483647;omega⟩
end Go.Kq

namespace Go.Kq
open Go Go.Proofs
variable {P:Program} {a:Act} {w:World} {K:Act→World→Prop} {Q:Exit→Act→World→Prop} {d:Option Tmp} {t:TypeId} {p:String} {af:Array Edge} {g:Option (Nat × Bool)}
theorem wp_rangeMap {T kt et:TypeId} {r:Nat} {x:Operand} {es:Array MapEntry} {clock:Nat} (hT:mapOf P T kt et=true) (hx:a.eval x = .map (some r)) (hb:w.heap[r]?=some (.map es clock))
    (k:K (a.put d (.pointer (some ⟨w.heap.size,0,none⟩))) (w.alloc (.mapIter (some r) clock #[] clock))):OW P ⟨d,.range T x,t,p,af,g⟩ a w K Q:=by
  obtain ⟨hu,_⟩:=under_map hT;refine wp_val (v:=.pointer (some ⟨w.heap.size,0,none⟩)) (w':=w.alloc (.mapIter (some r) clock #[] clock)) ?_ k;simp[execOp,hx,Instr.range,run_underlying hu,run_getObj hb,newObj,Sem.run]
theorem setBlock_iter (w:World) (it:Nat) (o:Obj) {m:Option Nat} {s c:Nat} {seen:Array Nat} (h:w.heap[it]?=some (.mapIter m s seen c)):Fr [⟨it,0,0⟩] w (ChangeMaps.setBlock w it o) :=
  setBlock_fr w it o (fun cs T fz e=>by rw[h] at e;cases e)
theorem wp_nextMap {x:Operand} {it r since c0 clock:Nat} {seen:Array Nat} {es:Array MapEntry} (hx:a.eval x = .pointer (some ⟨it,0,none⟩)) (hr:w.heap[it]?=some (.mapIter (some r) since seen c0)) (hb:w.heap[r]?=some (.map es clock))
    (hold:∀ e ∈ es.toList,e.born < since) (hsc:since≤c0)
    (h0:(∀ e ∈ es.toList,e.born ∈ seen.toList)→K (a.put d (.tuple #[.bool false])) w)
    (h1:∀ e ∈ es.toList,e.born ∉ seen.toList→∀ w',Fr [⟨it,0,0⟩] w w'→w'.heap[it]?=some (.mapIter (some r) since (seen.push e.born) clock)→K (a.put d (.tuple #[.bool true,e.key,e.val])) w'):OW P ⟨d,.next x false,t,p,af,g⟩ a w K Q:=by
  rcases run_next_at (P:=P) w t it r since c0 seen es clock hr hb hold hsc with ⟨hz,hrun⟩ | ⟨e,he,w1,hw1,hrun⟩
  · refine wp_val (v := .tuple #[.bool false]) (w' := w) ?_ (h0 ?_)
    · simp[execOp,hx,hrun]
    intro e he;have hl:leftOf es seen = #[]:=Array.eq_empty_of_size_eq_zero hz;unfold leftOf at hl;rw[Array.filter_eq_empty_iff] at hl;have:=hl e (by simpa using he)
    simpa using this
  have hm:e ∈ es.toList∧e.born ∉ seen.toList:=by
    unfold leftOf at he;simp at he
    simpa using he
  refine wp_val (v:=.tuple #[.bool true,e.key,e.val]) (w':=ChangeMaps.setBlock w1 it (.mapIter (some r) since (seen.push e.born) clock)) ?_ (h1 e hm.1 hm.2 _ ?_ ?_)
  · simp only[execOp,hx,hrun,Sem.run_bind,Result.andThen_ok,Sem.run_pure]
  · rcases hw1 with rfl | rfl
    · exact setBlock_iter w1 it _ hr
    exact (Fr.drew _ w).tr (setBlock_iter w.drew it _ hr)
  refine setBlock_at w1 it _ ?_
  rcases hw1 with rfl | rfl <;> exact lt_of_block hr
theorem wp_entryMap {x:Operand} {it r since clock:Nat} {seen:Array Nat} {es:Array MapEntry} {e:MapEntry} (hx:a.eval x = .pointer (some ⟨it,0,none⟩)) (hr:w.heap[it]?=some (.mapIter (some r) since (seen.push e.born) clock)) (hb:w.heap[r]?=some (.map es clock))
    (he:e ∈ es.toList) (hn:(es.toList.map (·.born)).Nodup) (k:K (a.put d (.tuple #[e.key,e.val])) w):OW P ⟨d,.entry x,t,p,af,g⟩ a w K Q :=
  wp_val (v:=.tuple #[e.key,e.val]) (w':=w) (by simp[execOp,hx,run_entry_at (P:=P) w it r since seen es clock e hr hb he hn]) k
theorem wp_make0 {T e sz bs:Nat} {z:List Value} {n:Nat} {y:Operand} (hT:sliceOf P T e sz bs=true) (hz:zeroIs P e z) (hb:bs * n≤281474976710656) (h63:n≤9223372036854775807) (hy:a.eval y = .int .i64 n)
    (k:K (a.put d (.slice (some ⟨w.heap.size,0,none⟩) 0 n)) (w.alloc (.cells (madeCells z.toArray (n * sz)) e))):OW P ⟨d,.makeSlice T (.const (.int .i64 0)) y,t,p,af,g⟩ a w K Q:=by
  obtain ⟨hu,i,z0,hi,hs,hby,hzz,hsz0⟩:=under_slice hT;obtain ⟨i',v0,hi',hz',rfl⟩:=hz;rw[hi] at hi';obtain rfl:=Option.some.inj hi';rw[hzz] at hz';obtain rfl:=Option.some.inj hz';subst hs;subst hby;have h2:(i.bytes:Int) * (n:Int)≤281474976710656:=by rw[← Int.natCast_mul];omega
  have hr:=run_make (P:=P) w T e i z0 hu hi hzz .i64 .i64 (0:Int) (n:Int) (by omega) (by omega) h2 (by omega);refine wp_val (v:=.slice (some ⟨w.heap.size,0,none⟩) 0 n) (w':=w.alloc (.cells (madeCells z0.cells.toList.toArray (n * i.size)) e)) ?_ k;simp only[execOp,eCo,hy,Sem.run_bind,hr,Result.andThen_ok,Sem.run_pure,Array.toArray_toList,Int.toNat_natCast]
  rfl
theorem wp_makeIface {T:TypeId} {x:Operand} {v:Value} (hx:a.eval x=v) {e n b:Nat} (hT:sliceOf P T e n b=true) (k:K (a.put d (.iface T v)) w):OW P ⟨d,.makeInterface T x,t,p,af,g⟩ a w K Q :=
  wp_val (v:=.iface T v) (w':=w) (by simp[execOp,hx,Instr.makeInterface,run_underlying (under_slice hT).1]) k
theorem wp_makeFunc1 {f:FuncId} {x:Operand} {v:Value} (hx:a.eval x=v) (k:K (a.put d (.func (.func f) #[] #[v])) w):OW P ⟨d,.makeFunc (.func f) #[] #[x],t,p,af,g⟩ a w K Q :=
  wp_val (v:=.func (.func f) #[] #[v]) (w':=w) (by simp[execOp,hx,Instr.makeFunc]) k
theorem wp_callF {f:FuncId} {caps:Array Value} {y:Operand} {xs:Array Operand} {ts:Array TypeId} {vs:Array Value} {R:Value→World→Prop} (he:Enters P f) (hy:a.eval y = .func (.func f) #[] caps) (hx:xs.map a.eval=vs)
    (hc:Calls P f (vs++caps) w fun e w'=>∃ v,e = .returned v∧R v w') (k:∀ v w',R v w'→K (a.put d v) w') (hyt:∃ n,y = .tmp n):OW P ⟨d,.call ⟨.value y,xs,ts⟩,t,p,af,g⟩ a w K Q:=by
  obtain ⟨n,rfl⟩:=hyt
  constructor
  unfold Oper.wp;have:(execOp a.eval ⟨d,.call ⟨.value (.tmp n),xs,ts⟩,t,p,af,g⟩).run P w = .ok (.enter f (vs++caps)) w:=by
    have:=he (vs++caps) w;simp[execOp,resolve,hy,Deferred.ofValue,invoke,hx,this]
  rw[this];exact hc.mono (by rintro e w' ⟨v,rfl,h⟩;exact k v w' h)
def u32s (ks:List Nat):List Value:=ks.map fun k:Nat=>.int .u32 k
structure SortM (P:Program) (T:TypeId) (fs fl:FuncId):Prop where
  enters:Enters P fs
  call:∀ w ob b o c (ks:List Nat),w.cell? ⟨ob,0,none⟩=some (.slice (some ⟨b,o,none⟩) ks.length c)→w.rangeAt b o (u32s ks)→w.there b o ks.length→ob ≠ b→(∀ k ∈ ks,k < 4294967296)→ks.length≤4294967296→ks ≠ [] →
    Calls P fs #[.iface T (.slice (some ⟨b,o,none⟩) ks.length c),.func (.func fl) #[] #[.pointer (some ⟨ob,0,none⟩)]] w fun e w'=>(∃ z,e = .returned z)∧∃ ks':List Nat,ks'.Perm ks∧ks'.Pairwise (· ≤ ·)∧w'.rangeAt b o (u32s ks')∧Fr [⟨b,o,o+ks.length⟩] w w'
structure EachM (P:Program) (f:FuncId):Prop where
  enters:Enters P f
  call:∀ (w:World) (A:Nat→Prop) (tb to:Nat) (v:Value) (x:V) (g:FuncId) (caps:Array Value) (I:List (Nat × V)→List Rng→World→Prop) (own:List Rng),
    w.cell? ⟨tb,to,none⟩=some v→Rep w A .tags [v] x→(∀ b,A b→b < w.heap.size)→Enters P g→I [] own w→(∀ z ∈ own,¬ A z.b∧z.b ≠ tb∧z.b < w.heap.size) →
    (∀ done own w w',I done own w→Fr [] w w'→I done own w') →
    (∀ done own w1 (k:Nat) y u,I done own w1→(k,V.oct y) ∈ tagKv x→OctsV w1 A u y→(done++[(k,V.oct y)]) <+: sortKv (tagKv x)→w.heap.size≤w1.heap.size→Calls P g (#[.int .u32 (k:Int),u]++caps) w1 fun e w'=>(∃ z,e = .returned z)∧∃ own',I (done++[(k,.oct y)]) own' w'∧Fr own w1 w'∧∀ z ∈ own',z.In own w1) →
    Calls P f #[.pointer (some ⟨tb,to,none⟩),.func (.func g) #[] caps] w fun e w'=>(∃ z,e = .returned z)∧∃ own',I (sortKv (tagKv x)) own' w'∧Fr own w w'∧∀ z ∈ own',z.In own w
end Go.Kq

namespace Go.Kq
open Go Go.Proofs
def keyN:Value→Nat
  | .int _ n=>n.toNat
  | _=>0
theorem Entries.keys {w:World} {A:Nat→Prop}:∀ {es:List MapEntry} {kv:List (Nat × V)},Entries w A es kv→kv.map (·.1)=es.map (fun e=>keyN e.key)∧∀ e ∈ es,e.key = .int .u32 (keyN e.key:Int)∧keyN e.key < 4294967296
  | [],kv,h=>by have:kv=[]:=h;subst this;simp
  | e0 :: es, kv, h => by
    obtain ⟨k,x,r,rfl,h2,h3,h4,h5⟩:=h;obtain ⟨i1,i2⟩:=h5.keys;refine ⟨by simp[i1,h3,keyN],fun e he=>?_⟩
    rcases List.mem_cons.1 he with rfl | he
    · rw[h3];exact ⟨by simp[keyN],by simpa [keyN] using h2⟩
    exact i2 e he
set_option maxRecDepth 10000 in
theorem each_m {P:Program} {f:FuncId} {fn:Func} {kt et e59 bs:TypeId} {T3 T59 T97 T99 T146:TypeId} {f97 f98:FuncId} {a0 a1:Array TypeId} {i0 i1 i2 i3 i4 i5 i6 i7 i8 i9 i10 i11:Nat}
    {t0 t1 t2 t3 t4 t5 t6 t7 t8 t9 t10 t11 t12 t13 t14 t15 t16 t17 t18 t19 t20 t21 t22 t23 t24 t25 t26 t27 t28 t29 t30 t31 t32 t33 t34 t35 t36 t37 t38 t39 t40 t41 t42 t43 t44 t45 t46 t47 t48 t49 t50:TypeId} {p0 p1 p2 p3 p4 p5 p6 p7 p8 p9 p10 p11 p12 p13 p14 p15 p16 p17 p18 p19 p20 p21 p22 p23 p24 p25 p26 p27 p28 p29 p30 p31 p32 p33 p34 p35 p36 p37 p38 p39 p40 p41 p42 p43 p44 p45 p46 p47 p48 p49 p50:String} {e0 e1 e2 e3 e4 e5 e6 e7 e8 e9 e10 e11 e12 e13 e14 e15 e16 e17 e18 e19 e20 e21 e22 e23 e24 e25 e26 e27 e28 e29 e30 e31 e32 e33 e34 e35 e36 e37 e38 e39 e40 e41 e42 e43 e44 e45 e46 e47 e48 e49 e50:Array Edge}
    (hf:P.funcs[f]?=some fn) (hname:(fn.name == "runtime.NumGoroutine")=false) (hres:fn.results = #[]) (hN:fn.ntmps=53)
    (hbody:fn.body=some (.seq (.seq (Code.region i0 ⟨[oM 8 0 t0 p0 e0,⟨some 9,.nilCheck (.tmp 8),t1,p1,e1,none⟩,
    oF 10 T99 9 0 t2 p2 e2,
    oL 11 T97 10 t3 p3 e3,⟨some 12,.call ⟨.builtin .len,#[(.tmp 11)],#[T97]⟩,t4,p4,e4,none⟩,⟨some 13,.binOp .eql T3 (.tmp 12) (.const (.int .i64 0)) T3,t5,p5,e5,none⟩]⟩ false) (.cond (.tmp 13) .ret .skip)) (.seq (Code.region i1 ⟨[oM 14 0 t6 p6 e6,⟨some 15,.nilCheck (.tmp 14),t7,p7,e7,none⟩,
    oF 16 T99 15 0 t8 p8 e8,
    oL 17 T97 16 t9 p9 e9,⟨some 18,.call ⟨.builtin .len,#[(.tmp 17)],#[T97]⟩,t10,p10,e10,none⟩,⟨some 19,.makeSlice T146 (.const (.int .i64 0)) (.tmp 18),t11,p11,e11,none⟩,⟨some 4,.alloc T146,t12,p12,e12,none⟩,
    oS T146 4 19 t13 p13 e13]⟩ false) (.seq (.seq (Code.region i2 ⟨[oM 20 0 t14 p14 e14,⟨some 21,.nilCheck (.tmp 20),t15,p15,e15,none⟩,
    oF 22 T99 21 0 t16 p16 e16,
    oL 23 T97 22 t17 p17 e17,⟨some 24,.range T97 (.tmp 23),t18,p18,e18,none⟩]⟩ false) (.block 0 (.loop (.seq (Code.region i3 ⟨[⟨some 25,.next (.tmp 24) false,t19,p19,e19,none⟩,⟨some 26,.extract (.tmp 25) 0,t20,p20,e20,none⟩]⟩ false) (.seq (.cond (.tmp 26) .skip
  (.exit 0)) (.block 1 (.seq (Code.region i4 ⟨[⟨some 27,.entry (.tmp 24),t21,p21,e21,none⟩,⟨some 28,.extract (.tmp 27) 0,t22,p22,e22,none⟩,
    oT 5 28 t23 p23 e23]⟩ false)
  (Code.region i5 ⟨[oL 29 T146 4 t24 p24 e24,
    oM 30 5 t25 p25 e25,⟨some 31,.buildSlice T146 1 #[(0,.tmp 30)],t26,p26,e26,none⟩,⟨some 32,.call ⟨.builtin .append,#[(.tmp 29),(.tmp 31)],#[T146,T146]⟩,t27,p27,e27,none⟩,
    oS T146 4 32 t28 p28 e28]⟩ false)))))))) (.seq (Code.region i6 ⟨[oL 33 T146 4 t29 p29 e29,⟨some 34,.makeInterface T146 (.tmp 33),t30,p30,e30,none⟩,⟨some 35,.makeFunc (.func f98) #[] #[(.tmp 4)],t31,p31,e31,none⟩,
    oC 36 f97 #[(.tmp 34),(.tmp 35)] a0 t32 p32 e32]⟩ false) (.seq (Code.region i7 ⟨[oL 37 T146 4 t33 p33 e33,⟨some 38,.call ⟨.builtin .len,#[(.tmp 37)],#[T146]⟩,t34,p34,e34,none⟩,⟨some 39,.move (.const (.int .i64 0)),t35,p35,e35,none⟩]⟩ false) (.block 2 (.loop (.seq (Code.region i8 ⟨[⟨some 40,.binOp .lss T3 (.tmp 39) (.tmp 38) T3,t36,p36,e36,none⟩]⟩ false) (.seq (.cond (.tmp 40) .skip
  (.exit 2)) (.seq (.block 3 (.seq (Code.region i9 ⟨[⟨some 41,.indexAddr T146 (.tmp 37) (.tmp 39),t37,p37,e37,none⟩,
    oL 42 T59 41 t38 p38 e38,
    oT 7 42 t39 p39 e39]⟩ false)
  (Code.region i10 ⟨[oM 43 1 t40 p40 e40,
    oM 44 7 t41 p41 e41,
    oM 45 0 t42 p42 e42,⟨some 46,.nilCheck (.tmp 45),t43,p43,e43,none⟩,
    oF 47 T99 46 0 t44 p44 e44,
    oL 48 T97 47 t45 p45 e45,
    oM 49 7 t46 p46 e46,⟨some 50,.lookup T97 (.tmp 48) (.tmp 49) false,t47,p47,e47,none⟩,⟨some 51,.call ⟨.value (.tmp 43),#[(.tmp 44),(.tmp 50)],a1⟩,t48,p48,e48,none⟩]⟩ false)))
  (Code.region i11 ⟨[⟨some 52,.binOp .add T3 (.tmp 39) (.const (.int .i64 1)) T3,t49,p49,e49,none⟩,
    oM 39 52 t50 p50 e50]⟩ false))))))))))))
    (hT:mapOf P T97 kt et=true) (h97:scal P T97=true) (hF:fieldOf P T99 0 0=true) (hs:sliceOf P T146 e59 1 bs=true) (hbs:bs≤16) (hz:zeroIs P e59 [.int .u32 0]) (h146:scal P T146=true) (hz146:zeroOf P T146 (.slice none 0 0)) (h59:scal P T59=true) (hsort:SortM P T146 f97 f98):EachM P f:=by
  refine ⟨enters_of hf hname hbody,?_⟩;intro w A tb to v x g caps I own hc hrep hA hg hI0 hown hstab hcall;have htb:=lt_of_cell hc;refine calls_of_wp hf hbody ?_;generalize ha0:({ tmps:=#[Value.pointer (some ⟨tb,to,none⟩),Value.func (.func g) #[] caps]++Array.replicate (fn.ntmps - #[Value.pointer (some ⟨tb,to,none⟩),Value.func (.func g) #[] caps].size) undef,defers:=[] }:Act)=a0;have hsz:a0.tmps.size=53:=by subst ha0;simp[hN]
  have hd0:a0.defers=[]:=by subst ha0;rfl
  have g0:get a0 0 = .pointer (some ⟨tb,to,none⟩):=by subst ha0;exact gAr rfl
  have g1:get a0 1 = .func (.func g) #[] caps:=by subst ha0;exact gAr rfl
  obtain ⟨q,hvq,hmap⟩:∃ q,v = .map q∧((q=none∧tagKv x=[])∨∃ r,q=some r∧TagM w A r (tagKv x)∧A r):=by
    rcases hrep with ⟨h,rfl⟩ | ⟨r,es,clock,kv,hr,h,h2,h3,rfl,h4⟩
    · simp at h;exact ⟨none,h,.inl ⟨rfl,rfl⟩⟩
    simp at h;exact ⟨some r,h,.inr ⟨r,rfl,⟨es,clock,h2,h3,h4⟩,hr⟩⟩
  subst hvq;generalize hkv:tagKv x=kv at *;clear hrep hkv;refine tId (wp_seq_k fun K1 hK1=>?_);refine wS fun K2 hK2=>?_;rw[wCo,wMw,eTm,g0,wCo];refine wNc (q:=⟨tb,to,none⟩) (by rw[eTm,gQ]) ?_;refine wC (wFa (b:=tb) (i:=to) hF (by rw[eTm,gQ]) ?_);refine wC (wp_load h97 (b:=tb) (o:=to) (by rw[eTm,gQ];simp) hc ?_);refine wC (wp_lenMap (q:=q) (A:=A) (kv:=kv) hT (by rw[eTm,gQ]) (by rcases hmap with h | ⟨r,h1,h2,_⟩;exact .inl h;exact .inr ⟨r,h1,h2⟩) ?_);refine wC (wp_eql (k1:=.i64) (i:=kv.length) (j:=0) (by rw[eTm,gQ]) rfl ?_);rw[wNi];generalize hb1:(((((a0.put (some 8) (.pointer (some ⟨tb,to,none⟩))).put (some 9) (.pointer (some ⟨tb,to,none⟩))).put (some 10) (.pointer (some ⟨tb,to+0,none⟩))).put (some 11) (.map q)).put (some 12) (.int .i64 kv.length)).put (some 13) (.bool ((kv.length:Int)==0))=b1;have k1:Kept 8 a0 b1:=by subst hb1;exact (((((Kept.put0 (by omega) _).put (by omega) _).put (by omega) _).put (by omega) _).put (by omega) _).put (by omega) _
  have q13:get b1 13 = .bool ((kv.length:Int)==0):=by subst hb1;exact gQ
  clear hb1;have hz1:=k1.size;refine hK2 b1 w ?_;refine wp_cond_split (t:=((kv.length:Int)==0)) (by rw[eTm,q13]) (fun h=>?_) fun h=>wp_skip (hK1 b1 w (tUp ?_))
  · have hkv0 : kv = [] := by simp at h; exact h
    subst hkv0;exact wp_ret ⟨by rw[k1.defers,hd0],.tuple #[],by simp[results,hres],⟨_,rfl⟩,own,hI0,Fr.refl _ _,fun z hz=>Rng.in_self hz⟩
  have hpos:0 < kv.length:=by simp at h;exact List.length_pos_iff.2 h
  obtain ⟨r,rfl,hm,hAr⟩:∃ r,q=some r∧TagM w A r kv∧A r:=by
    rcases hmap with ⟨_,h⟩ | h
    · rw[h] at hpos;simp at hpos
    exact h
  clear hmap;have hm0:=hm;obtain ⟨es,clock,hb,hent,hnb,hcl,hnk⟩:=hm;have hrl:=lt_of_block hb;have hlen:=hent.len;have hsmall:=hent.small;obtain ⟨hkeys,hkey⟩:=hent.keys;have hkl:kv.length≤4294967296:=by
    have:=nodup_lt_len (n:=4294967296) hnk (fun k hk=>by obtain ⟨p,hp,rfl⟩:=List.mem_map.1 hk;exact hsmall p hp)
    simpa using this
  -- the slice of keys
  refine wT fun K3 hK3=>?_;rw[wCo,wMw,eTm,k1.get 0 (by omega),g0,wCo];refine wNc (q:=⟨tb,to,none⟩) (by rw[eTm,gQ]) ?_;refine wC (wFa (b:=tb) (i:=to) hF (by rw[eTm,gQ]) ?_);refine wC (wp_load h97 (b:=tb) (o:=to) (by rw[eTm,gQ];simp) hc ?_);refine wC (wp_lenMap (q:=some r) (A:=A) (kv:=kv) hT (by rw[eTm,gQ]) (.inr ⟨r,rfl,hm0⟩) ?_);refine wC (wp_make0 (n:=kv.length) hs hz (by have:=Nat.mul_le_mul hbs hkl;omega) (by omega) (by rw[eTm,gQ]) ?_);have f1:=Fr.alloc [] w (.cells (madeCells [Value.int .u32 0].toArray (kv.length * 1)) e59);have th1:=there_new w (madeCells [Value.int .u32 0].toArray (kv.length * 1)) e59;have sz1:=size_alloc w (.cells (madeCells [Value.int .u32 0].toArray (kv.length * 1)) e59);have hmc:(madeCells [Value.int .u32 0].toArray (kv.length * 1)).size=kv.length * 1:=by simp[madeCells]
  rw[hmc] at th1;generalize w.alloc (.cells (madeCells [Value.int .u32 0].toArray (kv.length * 1)) e59)=w1 at f1 th1 sz1 ⊢;refine wC (wp_alloc hz146 ?_);have f2:=Fr.alloc [] w1 (.cells (Value.slice none 0 0).cells T146);have th2:(w1.alloc (.cells (Value.slice none 0 0).cells T146)).there w1.heap.size 0 1:=there_new w1 #[.slice none 0 0] T146;have sz2:=size_alloc w1 (.cells (Value.slice none 0 0).cells T146);generalize w1.alloc (.cells (Value.slice none 0 0).cells T146)=w2 at f2 th2 sz2 ⊢;refine wC (wp_store h146 (b:=w1.heap.size) (o:=0) (v:=.slice (some ⟨w.heap.size,0,none⟩) 0 kv.length) (by rw[eTm,gQ]) (by rw[eTm,gR,gQ]) rfl th2 ?_);rw[pNo,wNi];have f3:=Fr.set w2 w1.heap.size 0 (.slice (some ⟨w.heap.size,0,none⟩) 0 kv.length);have c3:(w2.setCell ⟨w1.heap.size,0,none⟩ (.slice (some ⟨w.heap.size,0,none⟩) 0 kv.length)).cell? ⟨w1.heap.size,0,none⟩=some (.slice (some ⟨w.heap.size,0,none⟩) 0 kv.length):=range_set th2;generalize w2.setCell ⟨w1.heap.size,0,none⟩ (.slice (some ⟨w.heap.size,0,none⟩) 0 kv.length)=w3 at f3 c3 ⊢;have th3:=f3.there th2;have tl3:=f3.there (f2.there th1);have sz3:=f3.size;have f03:Fr [] w w3:=(f1.tr f2).trans f3 (by intro z hz;simp at hz;subst hz;exact .inl (by simp only;omega));generalize hb2:((((((b1.put (some 14) (.pointer (some ⟨tb,to,none⟩))).put (some 15) (.pointer (some ⟨tb,to,none⟩))).put (some 16) (.pointer (some ⟨tb,to+0,none⟩))).put (some 17) (.map (some r))).put (some 18) (.int .i64 kv.length)).put (some 19) (.slice (some ⟨w.heap.size,0,none⟩) 0 kv.length)).put (some 4) (.pointer (some ⟨w1.heap.size,0,none⟩))=b2;have k2:Kept 4 b1 b2:=by subst hb2;exact ((((((Kept.put0 (by omega) _).put (by omega) _).put (by omega) _).put (by omega) _).put (by omega) _).put (by omega) _).put (by omega) _
  have q4:get b2 4 = .pointer (some ⟨w1.heap.size,0,none⟩):=by subst hb2;exact gQ
  clear hb2;have hz2:=k2.size;generalize hob:w1.heap.size=ob at *;refine hK3 b2 w3 (tUp ?_)
  -- the keys collected
  refine tId (wp_seq_k fun K4 hK4=>?_);refine wS fun K5 hK5=>?_;rw[wCo,wMw,eTm,k2.get 0 (by omega),k1.get 0 (by omega),g0,wCo];refine wNc (q:=⟨tb,to,none⟩) (by rw[eTm,gQ]) ?_;refine wC (wFa (b:=tb) (i:=to) hF (by rw[eTm,gQ]) ?_);refine wC (wp_load h97 (b:=tb) (o:=to) (by rw[eTm,gQ];simp) (f03.cell hc .nil) ?_);rw[wCo];have hb3:w3.heap[r]?=some (.map es clock):=by rw[f03.block r hrl (by simp)];exact hb
  refine wp_rangeMap hT (by rw[eTm,gQ]) hb3 ?_;rw[wNi];have f4:=Fr.alloc [] w3 (.mapIter (some r) clock #[] clock);have hi4:(w3.alloc (.mapIter (some r) clock #[] clock)).heap[w3.heap.size]?=some (.mapIter (some r) clock #[] clock):=by show (w3.heap.push _)[w3.heap.size]?=_;simp
  have sz4:=size_alloc w3 (.mapIter (some r) clock #[] clock);generalize w3.alloc (.mapIter (some r) clock #[] clock)=w4 at f4 hi4 sz4 ⊢;generalize hit:w3.heap.size=it at *;generalize hb3':((((b2.put (some 20) (.pointer (some ⟨tb,to,none⟩))).put (some 21) (.pointer (some ⟨tb,to,none⟩))).put (some 22) (.pointer (some ⟨tb,to+0,none⟩))).put (some 23) (.map (some r))).put (some 24) (.pointer (some ⟨it,0,none⟩))=b3;have k3:Kept 8 b2 b3:=by subst hb3';exact ((((Kept.put0 (by omega) _).put (by omega) _).put (by omega) _).put (by omega) _).put (by omega) _
  have q24:get b3 24 = .pointer (some ⟨it,0,none⟩):=by subst hb3';exact gQ
  clear hb3';have hz3:=k3.size;have f04:Fr [] w w4:=f03.tr f4;refine hK5 b3 w4 ?_;refine wp_block (wp_loop (fun a' w'=>∃ (L:List MapEntry) (seen:Array Nat) (c0:Nat) (u:Value),a'.tmps.size=53∧a'.defers=[]∧get a' 0 = .pointer (some ⟨tb,to,none⟩)∧get a' 1 = .func (.func g) #[] caps∧get a' 4 = .pointer (some ⟨ob,0,none⟩)∧get a' 24 = .pointer (some ⟨it,0,none⟩) ∧
      (L.map (·.born)).Nodup∧(∀ e ∈ L,e ∈ es.toList)∧seen.toList=L.map (·.born)∧w'.heap[it]?=some (.mapIter (some r) clock seen c0)∧clock≤c0∧w'.cell? ⟨ob,0,none⟩=some u∧w'.there ob 0 1∧Own w' (fun b=>w.heap.size≤b∧b < w'.heap.size∧b ≠ ob∧b ≠ it) 1 u L.length (L.map (·.key)) ∧
      (∃ b o c,u = .slice (some ⟨b,o,none⟩) L.length c)∧Fr [] w w') (fun _ w'=>es.size - (match w'.heap[it]? with | some (.mapIter _ _ seen _)=>seen.size | _=>0)) ?_ ?_)
  · refine ⟨[],#[],clock,.slice (some ⟨w.heap.size,0,none⟩) 0 kv.length,by omega,by rw[k3.defers,k2.defers,k1.defers,hd0],by rw[k3.get 0 (by omega),k2.get 0 (by omega),k1.get 0 (by omega),g0],by rw[k3.get 1 (by omega),k2.get 1 (by omega),k1.get 1 (by omega),g1],by rw[k3.get 4 (by omega),q4],q24,
      List.nodup_nil,by simp,rfl,hi4,Nat.le_refl _,f4.cell c3 .nil,f4.there th3,⟨rfl,.inr ⟨w.heap.size,0,kv.length,⟨Nat.le_refl _,by omega,by omega,by omega⟩,rfl,by simp,by simp only[maxLen];omega,range_nil,f4.there tl3⟩⟩,⟨_,_,_,rfl⟩,f04⟩
  rintro a5 w5 ⟨L,seen,c0,u,hs5,hd5,p0,p1,p4,p24,hLn,hLs,hseen,hi5,hcc,hcu,hthu,hou,⟨ub,uo,uc,hus⟩,f5⟩;have hb5:w5.heap[r]?=some (.map es clock):=by rw[f5.block r hrl (by simp)];exact hb
  have hszS:seen.size=L.length:=by rw[← Array.length_toList,hseen,List.length_map]
  have hLlen:L.length≤es.size:=by
    have:=nodup_sub_len (m:=es.toList.map (·.born)) hLn (fun b hb=>by obtain ⟨e,he,rfl⟩:=List.mem_map.1 hb;exact List.mem_map.2 ⟨e,hLs e he,rfl⟩)
    simpa using this
  refine wS fun K6 hK6=>?_;rw[wCo];refine wp_nextMap (x:=.tmp 24) (by rw[eTm,p24]) hi5 hb5 (fun e he=>hcl e he) hcc (fun hall=>?_) (fun e he hns w6 f6 hi6=>?_)
  · rw [wCo];refine wp_extract (vs := #[.bool false]) (v := .bool false) (by rw [eTm, gQ]) rfl ?_;rw [wNi];generalize hb6 : (a5.put (some 25) (.tuple #[.bool false])).put (some 26) (.bool false) = a6;have k6 : Kept 25 a5 a6 := by subst hb6; exact (Kept.put0 (by omega) _).put (by omega) _
    have q26:get a6 26 = .bool false:=by subst hb6;exact gQ
    clear hb6;have hz6:=k6.size;refine hK6 a6 w5 ?_;refine wp_seq_k fun K7 hK7=>?_;refine wp_cond_split (t:=false) (by rw[eTm,q26]) (fun h=>by cases h) fun _=>?_;refine wp_exit ?_;show K4 a6 w5
    refine hK4 a6 w5 (tUp ?_)
    -- the keys in order
    have hperm:(L.map (fun e=>keyN e.key)).Perm (kv.map (·.1)):=by
      rw[hkeys];have hpb:(L.map (·.born)).Perm (es.toList.map (·.born)):=perm_of_same hLn hnb (fun b=>by
        constructor
        · intro hb;obtain ⟨e,he,rfl⟩:=List.mem_map.1 hb;exact List.mem_map.2 ⟨e,hLs e he,rfl⟩
        · intro hb;obtain ⟨e,he,rfl⟩:=List.mem_map.1 hb;rw[← hseen];exact hall e he)
      have hkk:∀ e ∈ es.toList,keyN e.key=keyN ((es.toList.find? (fun y=>y.born==e.born)).getD e).key:=by
        intro e he
        cases hfd:es.toList.find? (fun y=>y.born==e.born) with
        | none=>rfl
        | some y =>
          have hy:=List.find?_some hfd;have hym:=List.mem_of_find?_eq_some hfd;simp at hy
          have:y=e:=by
            obtain ⟨i1,hi1⟩:=List.getElem?_of_mem hym;obtain ⟨i2,hi2⟩:=List.getElem?_of_mem he;have e1:(es.toList.map (·.born))[i1]?=some y.born:=by rw[List.getElem?_map,hi1];rfl
            have e2:(es.toList.map (·.born))[i2]?=some y.born:=by rw[List.getElem?_map,hi2,hy];rfl
            have:i1=i2:=(List.getElem?_inj (List.getElem?_eq_some_iff.1 e1).1 hnb).1 (e1.trans e2.symm);subst this;rw[hi1] at hi2;exact Option.some.inj hi2
          rw[this];rfl
      have hF:∀ l:List MapEntry,(∀ e ∈ l,e ∈ es.toList)→l.map (fun e=>keyN e.key)=(l.map (·.born)).map (fun b=>((es.toList.find? (fun y=>y.born==b)).map (fun y=>keyN y.key)).getD 0):=by
        intro l hl;rw[List.map_map];refine List.map_congr_left (fun e he=>?_);have:=hkk e (hl e he);simp only[Function.comp_apply]
        cases hfd:es.toList.find? (fun y=>y.born==e.born) with
        | none =>
          have:=List.find?_eq_none.1 hfd e (hl e he);simp at this
        | some y=>rw[hfd] at this;simpa using this
      rw[hF L hLs,hF es.toList (fun e he=>he)];exact hpb.map _
    have hLlen2:L.length=kv.length:=by have:=hperm.length_eq;simpa using this
    have hkeyL:L.map (·.key)=u32s (L.map (fun e=>keyN e.key)):=by
      unfold u32s;rw[List.map_map];exact List.map_congr_left (fun e he=>(hkey e (hLs e he)).1)
    have hLpos:0 < L.length:=by omega
    subst hus;obtain ⟨hr5,hl5,hub⟩:w5.rangeAt ub uo (L.map (·.key))∧w5.there ub uo L.length∧(w.heap.size≤ub∧ub < w5.heap.size∧ub ≠ ob∧ub ≠ it):=by
      obtain ⟨_,h | ⟨g',o',c',hg',hv',hc1,hc2,hr',ht'⟩⟩:=hou
      · omega
      simp at hv'
      obtain ⟨⟨rfl,rfl⟩,rfl⟩:=hv';exact ⟨hr',there_part ht' (Nat.le_refl _) (by omega),hg'⟩
    rw[hkeyL] at hr5;generalize hks:L.map (fun e=>keyN e.key)=ks at hperm hr5;have hksl:ks.length=L.length:=by rw[← hks,List.length_map]
    have hkb:∀ k ∈ ks,k < 4294967296:=fun k hk=>by
      have:=hperm.mem_iff.1 hk;obtain ⟨p,hp,rfl⟩:=List.mem_map.1 this;exact hsmall p hp
    clear hkeyL hks;rw[← hksl] at hl5 hcu hLpos hLlen2;generalize hLL:L.length=nL at *;subst hksl;refine wT fun K8 hK8=>?_;refine wC (wp_load h146 (b:=ob) (o:=0) (by rw[eTm,k6.get 4 (by omega),p4]) hcu ?_);refine wC (wp_makeIface (v:=.slice (some ⟨ub,uo,none⟩) ks.length uc) (by rw[eTm,gQ]) hs ?_);refine wC (wp_makeFunc1 (v:=.pointer (some ⟨ob,0,none⟩)) (by rw[eTm,gR,gR,k6.get 4 (by omega),p4]) ?_);rw[wCo];refine wp_calls hsort.enters (vs:=#[.iface T146 (.slice (some ⟨ub,uo,none⟩) ks.length uc),.func (.func f98) #[] #[.pointer (some ⟨ob,0,none⟩)]])
      (by simp only[List.map_toArray,List.map_cons,List.map_nil,eTm];rw[gR,gQ,gQ])
      ((hsort.call w5 ob ub uo uc ks hcu hr5 hl5 (fun e=>hub.2.2.1 e.symm) hkb (by omega) (by intro e;rw[e] at hLpos;simp at hLpos)).mono (by rintro e' w' ⟨⟨z,rfl⟩,h⟩;exact ⟨z,rfl,h⟩)) ?_
    rintro zz w6 ⟨ks',hp',hso',hr6,f6⟩;rw[wNi];generalize hb7:(((a6.put (some 33) (.slice (some ⟨ub,uo,none⟩) ks.length uc)).put (some 34) (.iface T146 (.slice (some ⟨ub,uo,none⟩) ks.length uc))).put (some 35) (.func (.func f98) #[] #[.pointer (some ⟨ob,0,none⟩)])).put (some 36) zz=a7;have k7:Kept 25 a6 a7:=by subst hb7;exact (((Kept.put0 (by omega) _).put (by omega) _).put (by omega) _).put (by omega) _
    clear hb7;have hz7:=k7.size;have hskeys:(sortKv kv).map (·.1)=ks':=sortKv_keys (hp'.trans hperm) hso';have hskl:(sortKv kv).length=ks'.length:=by rw[← hskeys,List.length_map]
    have hksl':ks'.length=ks.length:=hp'.length_eq;have f06:Fr [] w w6:=f5.trans f6 (by intro z hz;simp at hz;subst hz;exact .inl hub.1);have c6:=f6.cell hcu (.cons (.inl (by simp only;exact hub.2.2.1)) .nil);have sz5:=f5.size;have sz6:=f06.size;have hub6:ub < w6.heap.size:=Nat.lt_of_lt_of_le hub.2.1 f6.size;refine hK8 a7 w6 (tUp ?_);refine wT fun K9 hK9=>?_;refine wC (wp_load h146 (b:=ob) (o:=0) (by rw[eTm,k7.get 4 (by omega),k6.get 4 (by omega),p4]) c6 ?_);refine wC (wp_len hs (by rw[eTm,gQ]) ?_);rw[wCo,wMw,eCo,wNi];generalize hb8:((a7.put (some 37) (.slice (some ⟨ub,uo,none⟩) ks.length uc)).put (some 38) (.int .i64 ks.length)).put (some 39) (.int .i64 0)=a8;have k8:Kept 25 a7 a8:=by subst hb8;exact ((Kept.put0 (by omega) _).put (by omega) _).put (by omega) _
    have q37:get a8 37 = .slice (some ⟨ub,uo,none⟩) ks.length uc:=by subst hb8;rw[gR,gR,gQ]
    have q38:get a8 38 = .int .i64 ks.length:=by subst hb8;rw[gR,gQ]
    have q39:get a8 39 = .int .i64 0:=by subst hb8;exact gQ
    clear hb8;have hz8:=k8.size;refine hK9 a8 w6 (tUp ?_);refine wp_block (wp_loop (fun a' w'=>∃ (j:Nat) (own':List Rng),j≤ks.length∧a'.tmps.size=53∧a'.defers=[]∧get a' 0 = .pointer (some ⟨tb,to,none⟩)∧get a' 1 = .func (.func g) #[] caps∧get a' 37 = .slice (some ⟨ub,uo,none⟩) ks.length uc∧get a' 38 = .int .i64 ks.length∧get a' 39 = .int .i64 j ∧
        I ((sortKv kv).take j) own' w'∧Fr own w6 w'∧(∀ z ∈ own',z.In own w6)) (fun a' _=>ks.length - idxOf (get a' 39)) ?_ ?_)
    · exact ⟨0,own,Nat.zero_le _,by omega,by rw[k8.defers,k7.defers,k6.defers,hd5],by rw[k8.get 0 (by omega),k7.get 0 (by omega),k6.get 0 (by omega),p0],by rw[k8.get 1 (by omega),k7.get 1 (by omega),k6.get 1 (by omega),p1],q37,q38,q39,hstab _ _ _ _ hI0 f06,Fr.refl _ _,fun z hz=>Rng.in_self hz⟩
    rintro a9 w9 ⟨j,own',hj,hs9,hd9,r0,r1,r37,r38,r39,hI9,f9,hin9⟩;refine wS fun K10 hK10=>?_;refine wC (wp_lss (k1:=.i64) (i:=j) (j:=ks.length) (by rw[eTm,r39]) (by rw[eTm,r38]) ?_);rw[wNi];generalize hb10:a9.put (some 40) (.bool (decide ((j:Int) < ks.length)))=a10;have k10:Kept 40 a9 a10:=by subst hb10;exact Kept.put0 (Nat.le_refl _) _
    have q40:get a10 40 = .bool (decide ((j:Int) < ks.length)):=by subst hb10;exact gQ
    clear hb10;have hz10:=k10.size;have f09:Fr own w w9:=(f06.nil (l:=own)).tr f9;refine hK10 a10 w9 ?_;refine wp_seq_k fun K11 hK11=>?_;refine wp_cond_split (t:=decide ((j:Int) < ks.length)) (by rw[eTm,q40]) (fun hlt=>wp_skip (hK11 a10 w9 ?_)) (fun hge=>?_)
    · have hjl : j < ks.length := by simpa using hlt
      have hjs:j < (sortKv kv).length:=by omega
      have hjk:j < ks'.length:=by omega
      have hmem:(sortKv kv)[j] ∈ kv:=(sortKv_perm kv).mem_iff.1 (List.getElem_mem hjs);have hkj:ks'[j]=((sortKv kv)[j]).1:=by simp[← hskeys]
      have hks32:ks'[j] < 4294967296:=hkb _ (hp'.mem_iff.1 (List.getElem_mem hjk));have hm9:TagM w9 A r kv:=hm0.kept f09 (fun z hz=>(hown z hz).1) (fun z hz e=>(hown z hz).1 (e ▸ hAr)) (fun _ h=>h);have hc9:w9.cell? ⟨tb,to,none⟩=some (.map (some r)):=f09.cell hc (fun z hz=>.inl (hown z hz).2.1);have hr9:w9.rangeAt ub uo (u32s ks'):=f9.range hr6 (fun z hz=>.inl (by have:=(hown z hz).2.2;omega));have hcell9:w9.cell? ⟨ub,uo+j,none⟩=some (.int .u32 (ks'[j]:Nat)):=hr9 j _ (by simp[u32s,hjk]);refine wp_seq_k fun K12 hK12=>?_;refine wp_block (wp_mono (show Code.wp P _ (Exit.then K12 (Exit.inBlock 3 (Exit.then K12 _))) a10 w9 from ?_) (fun _ _ _=>inBlock_then));refine wS fun K13 hK13=>?_;refine wC (wp_indexAddr hs (b:=ub) (o:=uo) (len:=ks.length) (cap:=uc) (k1:=.i64) (i:=j) (by rw[eTm,k10.get 37 (by omega),r37]) (by rw[eTm,k10.get 39 (by omega),r39]) (by omega) (by omega) ?_);refine wC (wp_load h59 (b:=ub) (o:=uo+j) (v:=.int .u32 (ks'[j]:Nat)) (by rw[eTm,gQ];simp) hcell9 ?_);rw[wCo,wAg,eTm,gQ,wNi];generalize hb11:((a10.put (some 41) (.pointer (some ⟨ub,uo+(j:Int).toNat * 1,none⟩))).put (some 42) (.int .u32 (ks'[j]:Nat))).put (some 7) (.int .u32 (ks'[j]:Nat))=a11;have k11:Kept 7 a9 a11:=by subst hb11;exact (k10.mono (by omega)).trans (((Kept.put0 (by omega) _).put (by omega) _).put (by omega) _)
      have q7:get a11 7 = .int .u32 (ks'[j]:Nat):=by subst hb11;exact gQ
      have q37':get a11 37 = .slice (some ⟨ub,uo,none⟩) ks.length uc:=by subst hb11;rw[gR,gR,gR,k10.get 37 (by omega),r37]
      have q38':get a11 38 = .int .i64 ks.length:=by subst hb11;rw[gR,gR,gR,k10.get 38 (by omega),r38]
      have q39':get a11 39 = .int .i64 j:=by subst hb11;rw[gR,gR,gR,k10.get 39 (by omega),r39]
      clear hb11;have hz11:=k11.size;refine hK13 a11 w9 ?_;refine wp_reg ?_;rw[wCo,wMw,eTm,k11.get 1 (by omega),r1,wCo,wMw,eTm,gR,q7,wCo,wMw,eTm,gR,gR,k11.get 0 (by omega),r0,wCo];refine wNc (q:=⟨tb,to,none⟩) (by rw[eTm,gQ]) ?_;refine wC (wFa (b:=tb) (i:=to) hF (by rw[eTm,gQ]) ?_);refine wC (wp_load h97 (b:=tb) (o:=to) (by rw[eTm,gQ];simp) hc9 ?_);rw[wCo,wMw,eTm,gR,gR,gR,gR,gR,gR,q7,wCo];refine wp_mapGet (r:=r) (k:=ks'[j]) (A:=A) (kv:=kv) (x:=((sortKv kv)[j]).2) hT (by rw[eTm,gR,gQ]) (by rw[eTm,gQ]) hm9 (by rw[hkj];exact hmem) ?_;intro uv yv hxy hov;rw[wCo];refine wp_callF (f:=g) (caps:=caps) (vs:=#[.int .u32 (ks'[j]:Nat),uv]) (R:=fun _ w'=>∃ own'',I ((sortKv kv).take j++[(ks'[j],.oct yv)]) own'' w'∧Fr own' w9 w'∧∀ z ∈ own'',z.In own' w9) hg
        (by rw[eTm,gR,gR,gR,gR,gR,gR,gR,gQ])
        (by simp only[List.map_toArray,List.map_cons,List.map_nil,eTm];rw[gR,gR,gR,gR,gR,gR,gQ,gQ])
        ((hcall ((sortKv kv).take j) own' w9 (ks'[j]) yv uv hI9 (by rw[hkj,← hxy];exact hmem) hov (by rw[show (ks'[j],V.oct yv)=(sortKv kv)[j] from by rw[hkj,← hxy],← List.take_succ_eq_append_getElem hjs];exact List.take_prefix _ _) f09.size).mono (by rintro e' w' ⟨⟨z,rfl⟩,h⟩;exact ⟨z,rfl,h⟩)) ?_ ⟨_,rfl⟩
      rintro zz2 w12 ⟨own'',hI12,f12,hin12⟩;rw[wNi];refine hK12 _ w12 ?_;refine wp_reg ?_;refine wC (wp_add (k1:=.i64) (i:=j) (j:=1) (by rw[eTm,gR,gR,gR,gR,gR,gR,gR,gR,gR,q39']) rfl ?_);have hwr:IntKind.i64.wrap ((j:Int)+1)=((j+1:Nat):Int):=by
        simp[IntKind.wrap,IntKind.bits,IntKind.signed];omega
      rw[hwr,wCo,wMw,eTm,gQ,wNi];have hK':∀ (t:Nat),t < 39→t ≠ 7→get (((((((((((a11.put (some 43) (.func (.func g) #[] caps)).put (some 44) (.int .u32 (ks'[j]:Nat))).put (some 45) (.pointer (some ⟨tb,to,none⟩))).put (some 46) (.pointer (some ⟨tb,to,none⟩))).put (some 47) (.pointer (some ⟨tb,to+0,none⟩))).put (some 48) (.map (some r))).put (some 49) (.int .u32 (ks'[j]:Nat))).put (some 50) uv).put (some 51) zz2).put (some 52) (.int .i64 (j+1:Nat))).put (some 39) (.int .i64 (j+1:Nat))) t=get a11 t:=by
        intro t ht _;rw[gR,gR,gR,gR,gR,gR,gR,gR,gR,gR,gR]
      refine ⟨⟨j+1,own'',hjl,by simp only[sPu];omega,by simp only[dPu];rw[k11.defers,hd9],?_,?_,?_,?_,?_,?_,?_,?_⟩,?_⟩
      · rw[hK' 0 (by omega) (by omega),k11.get 0 (by omega),r0]
      · rw[hK' 1 (by omega) (by omega),k11.get 1 (by omega),r1]
      · rw[hK' 37 (by omega) (by omega),q37']
      · rw[hK' 38 (by omega) (by omega),q38']
      · exact gQ
      · have e : (ks'[j], V.oct yv) = (sortKv kv)[j] := by rw [hkj, ← hxy]
        rw[e] at hI12;rw[List.take_succ_eq_append_getElem hjs];exact hI12
      · exact f9.trans f12 hin9
      · intro z hz
        rcases hin12 z hz with h | ⟨y,hy,h1,h2,h3⟩
        · have:=f9.size;exact .inl (by omega)
        rcases hin9 y hy with h | ⟨x',hx',h4,h5,h6⟩
        · exact .inl (by omega)
        exact .inr ⟨x',hx',by omega,by omega,by omega⟩
      rw[gQ,r39];simp[idxOf];omega
    refine wp_exit ?_;have hje:j=ks.length:=by simp at hge;omega
    subst hje;have htk:(sortKv kv).take ks.length=sortKv kv:=List.take_of_length_le (by omega);rw[htk] at hI9;refine ⟨by rw[k10.defers,hd9],.tuple #[],by simp[results,hres],⟨_,rfl⟩,own',hI9,f09,fun z hz=>?_⟩
    rcases hin9 z hz with h | h
    · exact .inl (by omega)
    exact .inr h
  rw[wCo];have sz6:=f6.size;refine wp_extract (vs:=#[.bool true,e.key,e.val]) (v:=.bool true) (by rw[eTm,gQ]) rfl ?_;rw[wNi];generalize hb6:(a5.put (some 25) (.tuple #[.bool true,e.key,e.val])).put (some 26) (.bool true)=a6;have k6:Kept 25 a5 a6:=by subst hb6;exact (Kept.put0 (by omega) _).put (by omega) _
  have q26:get a6 26 = .bool true:=by subst hb6;exact gQ
  clear hb6;have hz6:=k6.size;refine hK6 a6 w6 ?_;refine wp_seq_k fun K7 hK7=>?_;refine wp_cond_split (t:=true) (by rw[eTm,q26]) (fun _=>wp_skip (hK7 a6 w6 ?_)) (fun h=>by cases h);refine wp_block ?_;refine wT fun K8 hK8=>?_;rw[wCo];have hitne:it ≠ r:=by intro e';rw[e',hb5] at hi5;cases hi5
  have hb6':w6.heap[r]?=some (.map es clock):=by rw[f6.block r (lt_of_block hb5) (by intro z hz;simp at hz;subst hz;exact hitne)];exact hb5
  refine wp_entryMap (e:=e) (by rw[eTm,k6.get 24 (by omega),p24]) hi6 hb6' he hnb ?_;refine wC (wp_extract (vs:=#[e.key,e.val]) (v:=e.key) (by rw[eTm,gQ]) rfl ?_);rw[wCo,wAg,eTm,gQ,wNi];generalize hb7:((a6.put (some 27) (.tuple #[e.key,e.val])).put (some 28) e.key).put (some 5) e.key=a7;have k7:Kept 5 a6 a7:=by subst hb7;exact ((Kept.put0 (by omega) _).put (by omega) _).put (by omega) _
  have q5:get a7 5=e.key:=by subst hb7;exact gQ
  have q24':get a7 24 = .pointer (some ⟨it,0,none⟩):=by subst hb7;rw[gR,gR,gR,k6.get 24 (by omega),p24]
  clear hb7;have hz7:=k7.size;have f06:Fr [] w w6:=f5.trans f6 (by intro z hz;simp at hz;subst hz;exact .inl (by simp only;omega));have hobit:ob ≠ it:=by omega
  have hcu6:=f6.cell hcu (.cons (.inl (by simp only;omega)) .nil);have hthu6:=f6.there hthu;have hou6:Own w6 (fun b=>w.heap.size≤b∧b < w6.heap.size∧b ≠ ob∧b ≠ it) 1 u L.length (L.map (·.key)) :=
    hou.kept f6 (by intro z hz hA';simp at hz;subst hz;exact absurd rfl hA'.2.2.2) (fun b h=>⟨h.1,by omega,h.2.2.1,h.2.2.2⟩)
  refine hK8 a7 w6 (tUp ?_);refine wp_reg ?_;refine wC (wp_load h146 (b:=ob) (o:=0) (by rw[eTm,k7.get 4 (by omega),k6.get 4 (by omega),p4]) hcu6 ?_);rw[wCo,wMw,eTm,gR,q5,wCo];have hkc:e.key.cells = #[e.key]:=by rw[(hkey e he).1];rfl
  refine wp_slice1 (cs:=[e.key]) hs hz rfl (by omega) (by rw[eTm,gQ,hkc]) rfl ?_;intro _;have f7:=Fr.alloc [] w6 (.cells [e.key].toArray e59);have r7:=range_new w6 [e.key].toArray e59 (0,0);have sz7:=size_alloc w6 (.cells [e.key].toArray e59);generalize w6.alloc (.cells [e.key].toArray e59)=w7 at f7 r7 sz7 ⊢;have hou7:Own w7 (fun b=>w.heap.size≤b∧b < w7.heap.size∧b ≠ ob∧b ≠ it) 1 u L.length (L.map (·.key)) :=
    hou6.kept f7 (by simp) (fun b h=>⟨h.1,by omega,h.2.2.1,h.2.2.2⟩)
  have hLlt:L.length < es.size:=by
    have:=nodup_sub_len (l:=e.born::L.map (·.born)) (m:=es.toList.map (·.born)) (by rw[List.nodup_cons];exact ⟨by rw[← hseen];exact hns,hLn⟩) (fun b hb=>by
      rcases List.mem_cons.1 hb with rfl | hb
      · exact List.mem_map.2 ⟨e,he,rfl⟩
      · obtain ⟨e',he',rfl⟩:=List.mem_map.1 hb;exact List.mem_map.2 ⟨e',hLs e' he',rfl⟩)
    simp at this;omega
  have hess:es.size≤4294967296:=by rw[← Array.length_toList,hlen];exact hkl
  rw[wCo];refine wp_append (z:=[.int .u32 0]) (v:=u) (n:=L.length) (m:=1) (c:=1) (xs:=L.map (·.key)) (news:=[e.key]) (b:=w6.heap.size) (o:=0) hs hz rfl
    (by rw[eTm,gR,gR,gQ]) (by rw[eTm,gQ]) hou7 (by omega) rfl r7 (by intro z hz';simp at hz';subst hz';rw[(hkey e he).1];rfl)
    (by have:(L.length+1) * bs≤4294967296 * 16:=Nat.mul_le_mul (by omega) hbs;omega) (by simp only[maxLen];omega) ?_
  intro v' w8 f8 ho8 hbk;rw[wCo];have hspin:∀ z ∈ spare u 1,w.heap.size≤z.b∧z.b < w7.heap.size∧z.b ≠ ob∧z.b ≠ it:=hou7.spare_in;have sz8:=f8.size;have th8:w8.there ob 0 1:=f8.there (f7.there hthu6);refine wp_store h146 (b:=ob) (o:=0) (v:=v') (by rw[eTm,gR,gR,gR,gR,k7.get 4 (by omega),k6.get 4 (by omega),p4]) (by rw[eTm,gQ]) ho8.one th8 ?_;rw[pNo,wNi];have f9:=Fr.set w8 ob 0 v';have c9:=range_set (v:=v') th8;generalize w8.setCell ⟨ob,0,none⟩ v'=w9 at f9 c9 ⊢;have sz9:=f9.size;have hi9:w9.heap[it]?=some (.mapIter (some r) clock (seen.push e.born) clock):=by
    have hitl:=lt_of_block hi6;rw[f9.block it (by omega) (by intro z hz';simp at hz';subst hz';exact hobit),f8.block it (by omega) (fun z hz'=>(hspin z hz').2.2.2),f7.block it hitl (by simp)];exact hi6
  have hseen':(seen.push e.born).toList=(L++[e]).map (·.born):=by rw[Array.toList_push,hseen];simp
  refine ⟨⟨L++[e],seen.push e.born,clock,v',by simp only[sPu];omega,by simp only[dPu];rw[k7.defers,k6.defers,hd5],?_,?_,?_,?_,?_,?_,hseen',hi9,Nat.le_refl _,c9,f9.there th8,?_,?_,?_⟩,?_⟩
  · rw[gR,gR,gR,gR,k7.get 0 (by omega),k6.get 0 (by omega),p0]
  · rw[gR,gR,gR,gR,k7.get 1 (by omega),k6.get 1 (by omega),p1]
  · rw[gR,gR,gR,gR,k7.get 4 (by omega),k6.get 4 (by omega),p4]
  · rw[gR,gR,gR,gR,q24']
  · rw [List.map_append, List.nodup_append];refine ⟨hLn, by simp, ?_⟩;intro b hb' c hc' e';simp at hc'
    subst hc' e';exact hns (by rw[hseen];exact hb')
  · intro e' he'
    rcases List.mem_append.1 he' with h | h
    · exact hLs e' h
    simp at h;subst h;exact he
  · have hobl:=lt_of_cell hcu6;have hitl:=lt_of_block hi6;have s06:=f06.size;have s7:=f7.size;have:=ho8.kept (A':=fun b=>w.heap.size≤b∧b < w9.heap.size∧b ≠ ob∧b ≠ it) f9 (by
      intro z hz' hA' g' o' c' _ e';simp at hz';subst hz'
      rcases hA' with h | h
      · exact absurd rfl h.2.2.1
      · simp only at h;omega) (fun b h=>by
      rcases h with h | h
      · exact ⟨h.1,by omega,h.2.2.1,h.2.2.2⟩
      · exact ⟨by omega,by omega,by omega,by omega⟩)
    simpa using this
  · obtain ⟨_, h | ⟨g', o', c', _, hv', _⟩⟩ := ho8
    · omega
    exact ⟨g',o',c',by simpa using hv'⟩
  · refine ((f06.tr f7).trans f8 (fun z hz'=>.inl (hspin z hz').1)).trans f9 ?_;intro z hz';simp at hz';subst hz';exact .inl (by simp only;omega)
  rw[hi9,hi5];simp;omega
end Go.Kq

namespace Go.Kq
open Go Go.Proofs
structure FnT (P:Program) (f:FuncId) (ty:Ty) (g:V→T):Prop where
  enters:Enters P f
  call:∀ w B v x,Rep w B ty [v] x→Calls P f #[v] w fun e w'=>∃ cs:List Value,e = .returned (.agg cs.toArray)∧Fr [] w w'∧RepT w' (From w.heap.size w') cs (g x)
variable {P:Program} {TT TL S Tf:TypeId} {N sv st m n k o kf id:Nat}
theorem tl_fn (hT:TreeTys P TT TL) {f:FuncId} {ty:Ty} {g:V→T} {ats:Array TypeId} (hf:FnT P f ty g)
    {t0 t1 t2 t3 t4 t5 t6 t8 t9:TypeId} {p0 p1 p2 p3 p4 p5 p6 p8 p9:String} {e0 e1 e2 e3 e4 e5 e6 e8 e9:Array Edge}
    (he:edgeOk 0 [e0,e1,e2,e3,e4,e5,e6,e8,e9] [[],[0],[],[2],[3],[4],[5],[1],[0,1,2,3,4,5,6,7]]=true)
    (hS:fieldOf P S kf o=true) (hs:scal P Tf=true) (h1:ty.size=1)
    (hb:(decide (sv < n) && decide (st < n) && decide (m≤n) && decide (n+2+6≤N))=true) :
    Tl P N sv st m (Code.region id ⟨[oF n TT st 3 t0 p0 e0,oL (n+1) TL n t1 p1 e1,oM (n+2) sv t2 p2 e2,⟨some (n+3),.nilCheck (.tmp (n+2)),t3,p3,e3,none⟩,
      oF (n+4) S (n+3) kf t4 p4 e4,oL (n+5) Tf (n+4) t5 p5 e5,oC (n+6) f #[.tmp (n+5)] ats t6 p6 e6,⟨some (n+7),.indexAddr TL (.tmp (n+1)) (.const (.int .i64 k)),t8,p8,e8,none⟩,oS TT (n+7) (n+6) t9 p9 e9]⟩ true) k o ty g:=by
  refine tl_draw (mid:=[oL (n+5) Tf (n+4) t5 p5 e5,oC (n+6) f #[.tmp (n+5)] ats t6 p6 e6]) hT [[4],[5]] he rfl rfl rfl rfl (by simp) (by simp[shape]) rfl hS hb ?_;intro e Q a w x hN hx hs0;obtain ⟨c,hc,hrep⟩:=hx.one h1;refine ⟨[spC [4] c,spR [5] (fun v w=>∃ cs:List Value,v = .agg cs.toArray∧RepT w (e.A w) cs (g x))],rfl,rfl,⟨lCc _ _ _,lasts_r fun v w w' hf h=>?_,trivial⟩,fun tl=>?_,_,rfl,fun v w' hv _=>hv⟩
  · obtain ⟨cs,h3,h4⟩:=h;exact ⟨cs,h3,h4.kept hf (by simp) (TEnv.A_mono hf.size)⟩
  refine ⟨op_c fun a' w' hk' hf' hd' K' hK'=>?_,op_r fun a' w' hk' hf' hd' K' hK'=>?_,trivial⟩
  · exact wp_load hs (by rw[eTm];exact hd'.c 4 (by simp) rfl) (hf'.cell hc .nil) hK'
  have hcc:get a' (n+5)=c:=hd'.c 5 (by simp) rfl;refine wp_calls (R:=fun v w2=>Fr [] w' w2∧∃ cs:List Value,v = .agg cs.toArray∧RepT w2 (e.A w2) cs (g x)) hf.enters (vs:=#[c]) (by simp[eTm,hcc])
    ((hf.call w' e.B c x (hrep.kept hf' (by simp) (fun _ h=>h))).mono (by
      rintro e' w2 ⟨cs,rfl,h2,h3⟩;refine ⟨_,rfl,h2,cs,rfl,h3.kept (Fr.refl [] w2) (by simp) (fun b hb=>⟨Nat.le_trans (Nat.le_trans hs0 hf'.size) hb.1,hb.2⟩)⟩)) (fun x' w2 h=>hK' x' w2 h.2 h.1)
def tText:V→T
  | .s l=>.mk 0 l false [] []
  | _=>.mk 0 [] true [] []
def tBool:V→T
  | .n i=>.mk i [] false [] []
  | _=>.zero
end Go.Kq

namespace Go.Kq
open Go Go.Proofs
def tagL (done:List (Nat × V)):List (Nat × List UInt8):=done.map fun p=>(p.1,p.2.octs)
theorem oct_octs (y:Option (List UInt8)):(V.oct y).octs=y.getD []:=by cases y <;> rfl
def CbI (tb s1:Nat) (done:List (Nat × V)) (own:List Rng) (w:World):Prop :=
  ∃ uv,w.cell? ⟨tb,4,none⟩=some uv∧w.there tb 4 1∧TOwn w (From s1 w) uv (tagL done)∧own=⟨tb,4,5⟩::spare uv 2∧done.length≤4294967296∧tb < s1
theorem CbI.stable {tb s1:Nat} {done:List (Nat × V)} {own:List Rng} {w w':World} (h:CbI tb s1 done own w) (hf:Fr [] w w'):CbI tb s1 done own w':=by
  obtain ⟨uv,h1,h2,h3,h4,h5,h6⟩:=h;exact ⟨uv,hf.cell h1 .nil,hf.there h2,h3.kept hf (by simp) (From.mono hf.size),h4,h5,h6⟩
structure CbM (P:Program) (f:FuncId):Prop where
  enters:Enters P f
  call:∀ (w:World) (A:Nat→Prop) (tb s1:Nat) (done:List (Nat × V)) (own:List Rng) (k:Nat) (y:Option (List UInt8)) (u:Value),CbI tb s1 done own w→k < 4294967296→OctsV w A u y→done.length < 4294967296→s1≤w.heap.size →
    Calls P f #[.int .u32 (k:Int),u,.pointer (some ⟨tb,0,none⟩)] w fun e w'=>(∃ z,e = .returned z)∧∃ own',CbI tb s1 (done++[(k,.oct y)]) own' w'∧Fr own w w'∧∀ z ∈ own',z.In own w
set_option maxRecDepth 10000 in
theorem cb_m {P:Program} {f:FuncId} {fn:Func} {et T22 T24 T26 T64 TL:TypeId} {bs:Nat} {i0:Nat}
    {t0 t1 t2 t3 t4 t5 t6 t7 t8 t9:TypeId} {p0 p1 p2 p3 p4 p5 p6 p7 p8 p9:String} {e0 e1 e2 e3 e4 e5 e6 e7 e8 e9:Array Edge}
    (hf:P.funcs[f]?=some fn) (hname:(fn.name == "runtime.NumGoroutine")=false) (hres:fn.results = #[]) (hN:fn.ntmps=14)
    (hbody:fn.body=some (Code.region i0 ⟨[oF 5 T26 2 4 t0 p0 e0,
    oL 6 T24 5 t1 p1 e1,
    oM 7 0 t2 p2 e2,
    oM 8 1 t3 p3 e3,⟨some 9,.call ⟨.builtin .append,#[(.const (.slice none 0 0)),(.tmp 8)],#[T22,T22]⟩,t4,p4,e4,none⟩,⟨some 10,.build T64 #[(0,.tmp 7),(1,.tmp 9)],t5,p5,e5,none⟩,⟨some 11,.buildSlice T24 1 #[(0,.tmp 10)],t6,p6,e6,none⟩,⟨some 12,.call ⟨.builtin .append,#[(.tmp 6),(.tmp 11)],#[T24,T24]⟩,t7,p7,e7,none⟩,
    oF 13 T26 2 4 t8 p8 e8,
    oS T24 13 12 t9 p9 e9]⟩ true))
    (he:edgeOk 0 [e0,e1,e2,e3,e4,e5,e6,e7,e8,e9] [[],[0],[],[],[3],[2,4],[5],[0,1,2,3,4,5,6],[0,1,2,3,4,5,6,7],[0,1,2,3,4,5,6,7,8]]=true)
    (hT:TreeTys P T26 TL) (h24:scal P T24=true) (h24s:sliceOf P T24 T64 2 bs=true) (hbs:bs≤1024) (h64:Flat P T64 zG) (hz64:zeroIs P T64 zG) (h22:sliceOf P T22 et 1 1=true) (hz22:zeroIs P et [.int .u8 0]):CbM P f:=by
  refine ⟨enters_of hf hname hbody,?_⟩;intro w A tb s1 done own k y u hI hk hu hdl hs1;obtain ⟨uv,hcu,htu,hown,rfl,hdl',htb⟩:=hI;refine calls_of_wp hf hbody ?_;generalize ha0:({ tmps:=#[Value.int .u32 (k:Int),u,Value.pointer (some ⟨tb,0,none⟩)]++Array.replicate (fn.ntmps - #[Value.int .u32 (k:Int),u,Value.pointer (some ⟨tb,0,none⟩)].size) undef,defers:=[] }:Act)=a0;have hsz:a0.tmps.size=14:=by subst ha0;simp[hN]
  have hd0:a0.defers=[]:=by subst ha0;rfl
  have g0:get a0 0 = .int .u32 (k:Int):=by subst ha0;exact gAr rfl
  have g1:get a0 1=u:=by subst ha0;exact gAr rfl
  have g2:get a0 2 = .pointer (some ⟨tb,0,none⟩):=by subst ha0;exact gAr rfl
  have hx:OctE w A u (y.getD []):=hu.octE;have hxl:=hx.big;have hbk0:∀ b,blk uv=some b→s1≤b∧b < w.heap.size:=fun b hb=>hown.blk_in hb;have hll:(tagL done).length=done.length:=by simp[tagL]
  generalize hxs:y.getD []=xs at hx hxl;have hsp0:∀ r ∈ spare uv 2,s1≤r.b∧r.b < w.heap.size:=by obtain ⟨flat,ho,_⟩:=hown;exact ho.spare_in
  refine wp_drawR (os:=[oF 5 T26 2 4 t0 p0 e0,oL 6 T24 5 t1 p1 e1,oM 7 0 t2 p2 e2,oM 8 1 t3 p3 e3,⟨some 9,.call ⟨.builtin .append,#[(.const (.slice none 0 0)),(.tmp 8)],#[T22,T22]⟩,t4,p4,e4,none⟩,⟨some 10,.build T64 #[(0,.tmp 7),(1,.tmp 9)],t5,p5,e5,none⟩,⟨some 11,.buildSlice T24 1 #[(0,.tmp 10)],t6,p6,e6,none⟩])
    (rest:=[⟨some 12,.call ⟨.builtin .append,#[(.tmp 6),(.tmp 11)],#[T24,T24]⟩,t7,p7,e7,none⟩,oF 13 T26 2 4 t8 p8 e8,oS T24 13 12 t9 p9 e9])
    [spC [] (.pointer (some ⟨tb,0+4,none⟩)),spC [0] uv,spC [] (.int .u32 (k:Int)),spC [] u,spR [3] (fun v w'=>OctE w' (From w.heap.size w') v xs),
      spR [2,4] (fun v w'=>∃ xv,v = .agg #[.int .u32 (k:Int),xv]∧OctE w' (From w.heap.size w') xv xs),
      spR [5] (fun v w'=>∃ b xv,v = .slice (some ⟨b,0,none⟩) 1 1∧w'.rangeAt b 0 [.int .u32 (k:Int),xv]∧OctE w' (From w.heap.size w') xv xs)] 5 [] hT.mixed he (by simp[shape]) rfl (by simp[spC,spR]) (by simp;omega)
    ⟨lCc _ _ _,lCc _ _ _,lCc _ _ _,lCc _ _ _,?_,?_,?_,trivial⟩ ?_ ?_
  · intro v w1 w2 hf12 h1;have hf12:Fr [] w1 w2:=hf12;have h1:OctE w1 (From w.heap.size w1) v xs:=h1;exact h1.kept hf12 (by simp) (From.mono hf12.size)
  · rintro v w1 w2 hf12 ⟨xv,h1,h2⟩;have hf12:Fr [] w1 w2:=hf12;exact ⟨xv,h1,h2.kept hf12 (by simp) (From.mono hf12.size)⟩
  · rintro v w1 w2 hf12 ⟨b,xv,h1,h2,h3⟩;have hf12:Fr [] w1 w2:=hf12;exact ⟨b,xv,h1,hf12.range h2 .nil,h3.kept hf12 (by simp) (From.mono hf12.size)⟩
  · refine ⟨op_c fun a' w' hk' hf' hd' K' hK' => ?_, op_c fun a' w' hk' hf' hd' K' hK' => ?_, op_c fun a' w' hk' hf' hd' K' hK' => ?_, op_c fun a' w' hk' hf' hd' K' hK' => ?_, op_r fun a' w' hk' hf' hd' K' hK' => ?_, op_r fun a' w' hk' hf' hd' K' hK' => ?_, op_r fun a' w' hk' hf' hd' K' hK' => ?_, trivial⟩
    · exact wFa (hT.flat.field (by decide)) (by rw[eTm,hk'.get 2 (by omega),g2]) hK'
    · exact wp_load h24 (by rw[eTm];exact hd'.c 0 (by simp) rfl) (hf'.cell hcu .nil) hK'
    · rw[wMw,eTm,hk'.get 0 (by omega),g0];exact hK'
    · rw[wMw,eTm,hk'.get 1 (by omega),g1];exact hK'
    · refine wp_copySrc h22 hz22 (v := u) (xs := xs) (A := A) (by rw [eTm]; exact hd'.c 3 (by simp) rfl) (hx.kept hf' (by simp) (fun _ h => h)) hxl fun v' w2 sb hf2 hsb hlt hsrc => hK' v' w2 ?_ hf2
      rcases hsrc with ⟨h1,h2,rfl⟩ | ⟨h1,o,cap,rfl,hc,hr⟩
      · show OctE w2 _ _ _
        rw[h2];exact OctE.nil
      have hne:xs ≠ []:=by simpa using h1
      exact .inl ⟨some xs,.inr ⟨sb,o,cap,xs,⟨Nat.le_trans hf'.size hsb,hlt hne⟩,rfl,hc,hr,rfl⟩,rfl⟩
    · have h4:OctE w' (From w.heap.size w') (get a' 9) xs:=hd'.at (d:=4) (by simp[spR]) rfl;exact wp_build2 h64 (v:=.int .u32 (k:Int)) (v':=get a' 9) (by decide) (by decide) (by rw[eTm];exact hd'.c 2 (by simp[spR]) rfl) rfl (by rw[eTm]) h4.one (hK' _ w' ⟨_,rfl,h4⟩ (Fr.refl _ _))
    obtain ⟨xv,h5,h6⟩:∃ xv,get a' 10 = .agg #[.int .u32 (k:Int),xv]∧OctE w' (From w.heap.size w') xv xs:=hd'.at (d:=5) (by simp[spR]) rfl;have fa:=Fr.alloc [] w' (.cells [.int .u32 (k:Int),xv].toArray T64);have ra:=range_new w' [.int .u32 (k:Int),xv].toArray T64 (0,0);refine wp_slice1 h24s hz64 rfl (by omega) (cs:=[.int .u32 (k:Int),xv]) (by rw[eTm,h5];rfl) rfl fun _=>hK' _ _ ⟨w'.heap.size,xv,rfl,ra,h6.kept fa (by simp) (From.mono fa.size)⟩ fa
  intro a' w' hk' hf' hd';obtain ⟨b,xv,h6,hr6,ho6⟩:∃ b xv,get a' 11 = .slice (some ⟨b,0,none⟩) 1 1∧w'.rangeAt b 0 [.int .u32 (k:Int),xv]∧OctE w' (From w.heap.size w') xv xs:=hd'.at (d:=6) (by simp) rfl;have h1:get a' 6=uv:=hd'.c (nd':=[0]) 1 (by simp) rfl;have hz':=hk'.size;have szf:=hf'.size;obtain ⟨flat,ho,hel⟩:=hown.kept hf' (by simp) (A':=From s1 w') (From.mono szf);have hmul:(done.length+1) * bs≤4294967296 * 1024:=Nat.mul_le_mul (by omega) hbs;rw[wCo];refine wp_appendIn (A:=From s1 w') (z:=zG) (v:=uv) (n:=(tagL done).length) (m:=1) (c:=1) (xs:=flat) (news:=[.int .u32 (k:Int),xv]) (b:=b) (o:=0) h24s hz64 rfl (by rw[eTm,h1]) (by rw[eTm,h6]) ho (by omega) rfl hr6
    (by intro z hz;simp at hz;rcases hz with rfl | rfl <;> first | rfl | exact ho6.one) (by rw[hll];omega) (by rw[hll];simp only[maxLen];omega) ?_
  intro v' w2 f2 ho2 hbk hin;have sz2:=f2.size;have hU:TOwn w2 (From s1 w2) v' (tagL done++[(k,xs)]):=by
    refine TOwn.app (w:=w') (A:=From s1 w') (C:=From w.heap.size w') hel ho f2 (ho2.kept (Fr.refl [] w2) (by simp) (fun b hb=>?_)) hbk (fun b hb=>⟨⟨hb.1,by have:=hb.2;omega⟩,hb.2⟩) hk ho6 (fun b hb=>⟨⟨Nat.le_trans hs1 hb.1,hb.2⟩,fun e=>?_⟩)
    · rcases hb with hb | hb
      · exact ⟨hb.1,by have:=hb.2;omega⟩
      exact ⟨by omega,hb.2⟩
    have:=(hbk0 b e).2;have:=hb.1;omega
  have hUone:=hU.one;have ht2:w2.there tb 4 1:=f2.there (hf'.there htu);refine wC (wFa (hT.flat.field (k:=4) (by decide)) (b:=tb) (i:=0) (by rw[eTm,gR,hk'.get 2 (by omega),g2]) ?_);refine wC (wp_store h24 (b:=tb) (o:=0+4) (v:=v') (by rw[eTm,gQ]) (by rw[eTm,gR,gQ]) hUone (by rw[Nat.zero_add];exact ht2) ?_);rw[pNo,wNi,Nat.zero_add];have f3:=Fr.set w2 tb 4 v';have c3:=range_set (v:=v') ht2;generalize w2.setCell ⟨tb,4,none⟩ v'=w3 at f3 c3 ⊢;refine ⟨by simp only[dPu];rw[hk'.defers,hd0],.tuple #[],by simp[results,hres],⟨_,rfl⟩,⟨tb,4,5⟩::spare v' 2,⟨v',c3,f3.there ht2,?_,rfl,by simp;omega,htb⟩,?_,?_⟩
  · have e1 : tagL (done ++ [(k, V.oct y)]) = tagL done ++ [(k, xs)] := by simp [tagL, oct_octs, hxs]
    rw[e1];exact hU.kept f3 (by intro r hr hF;simp at hr;subst hr;have:=hF.1;simp only at this;omega) (From.mono f3.size)
  · refine ((hf'.nil (l := ⟨tb, 4, 5⟩ :: spare uv 2)).trans f2 ?_).trans f3 ?_
    · intro r hr;exact Rng.in_self (List.mem_cons_of_mem _ hr)
    intro r hr;simp at hr;subst hr;exact Rng.in_self (by simp)
  intro z hz
  rcases List.mem_cons.1 hz with rfl | hz
  · exact Rng.in_self (by simp)
  rcases hin z hz with h | ⟨x,hx1,hx2⟩
  · exact .inl (by omega)
  exact .inr ⟨x,List.mem_cons_of_mem _ hx1,hx2⟩
structure SortedM (P:Program) (f:FuncId):Prop where
  enters:Enters P f
  call:∀ w A v (l:List (Nat × List UInt8)),TagsR w A v l→(l.map (·.1)).Pairwise (· ≤ ·)→Calls P f #[v] w fun e w'=>(∃ z,e = .returned z)∧Fr [] w w'
theorem TagsR.sl {w:World} {A:Nat→Prop} {v:Value} {l:List (Nat × List UInt8)} (h:TagsR w A v l):∃ q cap,v = .slice q l.length cap∧l.length≤4294967296∧(0 < l.length→∃ b o,q=some ⟨b,o,none⟩∧∀ (i k:Nat) (x:List UInt8),l[i]?=some (k,x)→w.cell? ⟨b,o+i * 2,none⟩=some (.int .u32 k)):=by
  rcases h with ⟨rfl | ⟨a,rfl⟩,rfl⟩ | ⟨b,o,cap,_,rfl,h2,h3⟩
  · exact ⟨none,0,rfl,by simp,by simp⟩
  · exact ⟨some a,0,rfl,by simp,by simp⟩
  refine ⟨_,cap,rfl,h2.2,fun _=>⟨b,o,rfl,fun i k x hi=>?_⟩⟩;obtain ⟨xv,_,h4,_⟩:=h3 i k x hi;exact h4 0 _ rfl
set_option maxRecDepth 10000 in
theorem sorted_m {P:Program} {f:FuncId} {fn:Func} {T3 T24 T61 T64:TypeId} {bs:Nat} {i0 i1 i2 i3 i4 i6 i5 i7:Nat}
    {t0 t1 t2 t3 t4 t5 t6 t7 t8 t9 t10 t11 t12 t13 t14 t15 t16 t17 t18 t19 t20 t21 t22 t23 t24 t25 t26 t27 t28 t29 t30 t31 t32 t33 t34 t35 t36 t37 t38 t39 t40 t41 t42 t43 t44 t45 t46:TypeId} {p0 p1 p2 p3 p4 p5 p6 p7 p8 p9 p10 p11 p12 p13 p14 p15 p16 p17 p18 p19 p20 p21 p22 p23 p24 p25 p26 p27 p28 p29 p30 p31 p32 p33 p34 p35 p36 p37 p38 p39 p40 p41 p42 p43 p44 p45 p46:String} {e0 e1 e2 e3 e4 e5 e6 e7 e8 e9 e10 e11 e12 e13 e14 e15 e16 e17 e18 e19 e20 e21 e22 e23 e24 e25 e26 e27 e28 e29 e30 e31 e32 e33 e34 e35 e36 e37 e38 e39 e40 e41 e42 e43 e44 e45 e46:Array Edge}
    (hf:P.funcs[f]?=some fn) (hname:(fn.name == "runtime.NumGoroutine")=false) (hres:fn.results = #[]) (hN:fn.ntmps=45)
    (hbody:fn.body=some (.seq (Code.region i0 ⟨[oM 4 0 t0 p0 e0,⟨some 5,.call ⟨.builtin .len,#[(.tmp 4)],#[T24]⟩,t1,p1,e1,none⟩,⟨some 6,.move (.const (.int .i64 0)),t2,p2,e2,none⟩]⟩ false) (.block 0 (.loop (.seq (Code.region i1 ⟨[⟨some 7,.binOp .lss T3 (.tmp 6) (.tmp 5) T3,t3,p3,e3,none⟩]⟩ false) (.seq (.cond (.tmp 7) .skip
  (.exit 0)) (.seq (.block 1 (.seq (Code.region i2 ⟨[oM 8 6 t4 p4 e4,
    oT 2 8 t5 p5 e5]⟩ false) (.seq (Code.region i3 ⟨[oM 9 2 t6 p6 e6,
    oT 3 9 t7 p7 e7]⟩ false) (.block 2 (.loop (.seq (.seq (Code.region i4 ⟨[oM 10 3 t8 p8 e8,⟨some 11,.binOp .gtr T3 (.tmp 10) (.const (.int .i64 0)) T3,t9,p9,e9,none⟩,
    oM 12 11 t10 p10 e10,⟨some 13,.move (.tmp 0),t11,p11,e11,some (2,true)⟩,⟨some 14,.move (.tmp 3),t12,p12,e12,some (2,true)⟩,⟨some 15,.indexAddr T24 (.tmp 13) (.tmp 14),t13,p13,e13,some (2,true)⟩,⟨some 16,.fieldAddr T64 (.tmp 15) 0,t14,p14,e14,some (2,true)⟩,⟨some 17,.load T61 (.tmp 16),t15,p15,e15,some (2,true)⟩,⟨some 18,.move (.tmp 0),t16,p16,e16,some (2,true)⟩,⟨some 19,.move (.tmp 3),t17,p17,e17,some (2,true)⟩,⟨some 20,.binOp .sub T3 (.tmp 19) (.const (.int .i64 1)) T3,t18,p18,e18,some (2,true)⟩,⟨some 21,.indexAddr T24 (.tmp 18) (.tmp 20),t19,p19,e19,some (2,true)⟩,⟨some 22,.fieldAddr T64 (.tmp 21) 0,t20,p20,e20,some (2,true)⟩,⟨some 23,.load T61 (.tmp 22),t21,p21,e21,some (2,true)⟩,⟨some 24,.binOp .lss T61 (.tmp 17) (.tmp 23) T61,t22,p22,e22,some (2,true)⟩,⟨some 25,.pick (.tmp 12) (.tmp 24) (.const (.bool false)),t23,p23,e23,none⟩]⟩ true) (.cond (.tmp 25) .skip
  (.exit 2))) (.seq (.block 3 (Code.region i6 ⟨[oM 28 0 t24 p24 e24,
    oM 29 3 t25 p25 e25,
    oM 30 0 t26 p26 e26,
    oM 31 3 t27 p27 e27,⟨some 32,.binOp .sub T3 (.tmp 31) (.const (.int .i64 1)) T3,t28,p28,e28,none⟩,
    oM 33 0 t29 p29 e29,
    oM 34 3 t30 p30 e30,⟨some 35,.binOp .sub T3 (.tmp 34) (.const (.int .i64 1)) T3,t31,p31,e31,none⟩,⟨some 36,.indexAddr T24 (.tmp 33) (.tmp 35),t32,p32,e32,none⟩,
    oL 37 T64 36 t33 p33 e33,
    oM 38 0 t34 p34 e34,
    oM 39 3 t35 p35 e35,⟨some 40,.indexAddr T24 (.tmp 38) (.tmp 39),t36,p36,e36,none⟩,
    oL 41 T64 40 t37 p37 e37,⟨some 42,.indexAddr T24 (.tmp 28) (.tmp 29),t38,p38,e38,none⟩,
    oS T64 42 37 t39 p39 e39,⟨some 43,.indexAddr T24 (.tmp 30) (.tmp 32),t40,p40,e40,none⟩,
    oS T64 43 41 t41 p41 e41]⟩ true))
  (Code.region i5 ⟨[oM 26 3 t42 p42 e42,⟨some 27,.binOp .sub T3 (.tmp 26) (.const (.int .i64 1)) T3,t43,p43,e43,none⟩,
    oT 3 27 t44 p44 e44]⟩ false))))))))
  (Code.region i7 ⟨[⟨some 44,.binOp .add T3 (.tmp 6) (.const (.int .i64 1)) T3,t45,p45,e45,none⟩,
    oM 6 44 t46 p46 e46]⟩ false))))))))
    (he:edgeOk 0 [e8,e9,e10,e11,e12,e13,e14,e15,e16,e17,e18,e19,e20,e21,e22,e23] [[],[0],[1],[2],[2],[2,3,4],[2,5],[2,6],[2],[2],[2,9],[2,8,10],[2,11],[2,12],[2,7,13],[0,1,2,3,4,5,6,7,8,9,10,11,12,13,14]]=true)
    (hm:P.follows .mixedOrders=true) (h3:intOf P T3 .i64=true) (h24:sliceOf P T24 T64 2 bs=true) (hF:fieldOf P T64 0 0=true) (h61:scal P T61=true):SortedM P f:=by
  refine ⟨enters_of hf hname hbody,?_⟩;intro w A v l hl hsrt;obtain ⟨q,cap,rfl,hll,hq⟩:=hl.sl;clear hl;refine calls_of_wp hf hbody ?_;generalize ha0:({ tmps:=#[Value.slice q l.length cap]++Array.replicate (fn.ntmps - #[Value.slice q l.length cap].size) undef,defers:=[] }:Act)=a0;have hsz:a0.tmps.size=45:=by subst ha0;simp[hN]
  have hd0:a0.defers=[]:=by subst ha0;rfl
  have g0:get a0 0 = .slice q l.length cap:=by subst ha0;exact gAr rfl
  refine wT fun K1 hK1=>?_;rw[wCo,wMw,eTm,g0,wCo];refine wp_len h24 (by rw[eTm,gQ]) ?_;rw[wCo,wMw,eCo,wNi];generalize ha1:((a0.put (some 4) (.slice q l.length cap)).put (some 5) (.int .i64 l.length)).put (some 6) (.int .i64 0)=a1;have k1:Kept 4 a0 a1:=by subst ha1;exact ((Kept.put0 (by omega) _).put (by omega) _).put (by omega) _
  have q5:get a1 5 = .int .i64 l.length:=by subst ha1;rw[gR,gQ]
  have q6:get a1 6 = .int .i64 0:=by subst ha1;exact gQ
  have hz1:=k1.size;refine hK1 a1 w (tUp ?_);refine wp_block (wp_loop (fun a' w'=>∃ i:Nat,i≤l.length∧a'.tmps.size=45∧a'.defers=[]∧get a' 0 = .slice q l.length cap∧get a' 5 = .int .i64 l.length∧get a' 6 = .int .i64 i∧Fr [] w w') (fun a' _=>l.length - idxOf (get a' 6)) ?_ ?_)
  · exact ⟨0,Nat.zero_le _,by omega,by rw[k1.defers,hd0],by rw[k1.get 0 (by omega),g0],q5,q6,Fr.refl _ _⟩
  rintro a2 w2 ⟨i,hi,hs2,hd2,p0',p5',p6',f2⟩;refine wS fun K2 hK2=>?_;refine wC (wp_lss (k1:=.i64) (i:=i) (j:=l.length) (by rw[eTm,p6']) (by rw[eTm,p5']) ?_);rw[wNi];have k3:Kept 7 a2 (a2.put (some 7) (.bool (decide ((i:Int) < l.length)))):=Kept.put0 (by omega) _;have g7:get (a2.put (some 7) (.bool (decide ((i:Int) < l.length)))) 7 = .bool (decide ((i:Int) < l.length)):=gQ;generalize a2.put (some 7) (.bool (decide ((i:Int) < l.length)))=a3 at k3 g7 ⊢;have hz3:=k3.size;refine hK2 a3 w2 ?_;refine wp_seq_k fun K3 hK3=>?_;refine wp_cond_split (t:=decide ((i:Int) < l.length)) (by rw[eTm,g7]) ?_ ?_
  · intro hlt;have hlt : i < l.length := by simp at hlt; exact hlt
    refine wp_skip (hK3 a3 w2 ?_);refine wp_seq_k fun K4 hK4=>?_;refine wp_block (wp_mono (show Code.wp P _ (Exit.then K4 (Exit.inBlock 1 (Exit.then K4 _))) a3 w2 from ?_) (fun _ _ _=>inBlock_then));refine wS fun K5 hK5=>?_;rw[wCo,wMw,eTm,k3.get 6 (by omega),p6',wCo,wAg,eTm,gQ,wNi];refine hK5 _ _ ?_;refine wS fun K6 hK6=>?_;rw[wCo,wMw,eTm,gQ,wCo,wAg,eTm,gQ,wNi];generalize ha4:((((a3.put (some 8) (.int .i64 i)).put (some 2) (.int .i64 i)).put (some 9) (.int .i64 i)).put (some 3) (.int .i64 i))=a4;have hz4:a4.tmps.size=45:=by subst ha4;simp only[sPu];omega
    have hd4:a4.defers=[]:=by subst ha4;simp only[dPu];rw[k3.defers,hd2]
    have r0:get a4 0 = .slice q l.length cap:=by subst ha4;rw[gR,gR,gR,gR,k3.get 0 (by omega),p0']
    have r5:get a4 5 = .int .i64 l.length:=by subst ha4;rw[gR,gR,gR,gR,k3.get 5 (by omega),p5']
    have r6:get a4 6 = .int .i64 i:=by subst ha4;rw[gR,gR,gR,gR,k3.get 6 (by omega),p6']
    have r3:get a4 3 = .int .i64 i:=by subst ha4;exact gQ
    refine hK6 a4 w2 ?_;refine wp_block (wp_loop (fun a' w'=>a'=a4∧w'=w2) (fun _ _=>0) ⟨rfl,rfl⟩ ?_);rintro aa ww ⟨ea,ew⟩;rw[ea,ew];clear ea ew aa ww;refine wp_seq_k fun K7 hK7=>?_;refine wp_seq_k fun K8 hK8=>?_;have hdone:∀ a' w',Kept 10 a4 a'→Fr [] w2 w'→get a' 25 = .bool false→K8 a' w':=by
      intro a5 w5 k5 f5 g25;have hz5:=k5.size;refine hK8 a5 w5 ?_;refine wp_cond_split (t:=false) (by rw[eTm,g25]) (fun h=>by cases h) fun _=>?_;refine wp_exit ?_;show K4 a5 w5
      refine hK4 a5 w5 ?_;refine wp_reg ?_;refine wC (wp_add (k1:=.i64) (i:=i) (j:=1) (by rw[eTm,k5.get 6 (by omega),r6]) rfl ?_);have hwr:IntKind.i64.wrap ((i:Int)+1)=((i+1:Nat):Int):=by rw[show ((i:Int)+1)=((i+1:Nat):Int) from by omega];exact wrap64 (by omega)
      rw[hwr,wCo,wMw,eTm,gQ,wNi];refine ⟨⟨i+1,hlt,by simp only[sPu];omega,by simp only[dPu];rw[k5.defers,hd4],?_,?_,gQ,f2.tr f5⟩,?_⟩
      · rw[gR,gR,k5.get 0 (by omega),r0]
      · rw[gR,gR,k5.get 5 (by omega),r5]
      rw[gQ,p6'];simp only[idxOf];omega
    obtain ⟨b,o,rfl,hcell⟩:=hq (by omega)
    by_cases hi0:i=0
    · subst hi0;refine wp_drawE (os:=[oM 10 3 t8 p8 e8,⟨some 11,.binOp .gtr T3 (.tmp 10) (.const (.int .i64 0)) T3,t9,p9,e9,none⟩,
  oM 12 11 t10 p10 e10, ⟨some 13, .move (.tmp 0), t11, p11, e11, some (2, true)⟩, ⟨some 14, .move (.tmp 3), t12, p12, e12, some (2, true)⟩, ⟨some 15, .indexAddr T24 (.tmp 13) (.tmp 14), t13, p13, e13, some (2, true)⟩, ⟨some 16, .fieldAddr T64 (.tmp 15) 0, t14, p14, e14, some (2, true)⟩, ⟨some 17, .load T61 (.tmp 16), t15, p15, e15, some (2, true)⟩, ⟨some 18, .move (.tmp 0), t16, p16, e16, some (2, true)⟩, ⟨some 19, .move (.tmp 3), t17, p17, e17, some (2, true)⟩, ⟨some 20, .binOp .sub T3 (.tmp 19) (.const (.int .i64 1)) T3, t18, p18, e18, some (2, true)⟩, ⟨some 21, .indexAddr T24 (.tmp 18) (.tmp 20), t19, p19, e19, some (2, true)⟩, ⟨some 22, .fieldAddr T64 (.tmp 21) 0, t20, p20, e20, some (2, true)⟩, ⟨some 23, .load T61 (.tmp 22), t21, p21, e21, some (2, true)⟩, ⟨some 24, .binOp .lss T61 (.tmp 17) (.tmp 23) T61, t22, p22, e22, some (2, true)⟩]) (o := ⟨some 25, .pick (.tmp 12) (.tmp 24) (.const (.bool false)), t23, p23, e23, none⟩)
        [spC [] (.int .i64 0),spC [0] (.bool false),spC [1] (.bool false),spC [2] undef,spC [2] undef,spC [2,3,4] undef,spC [2,5] undef,spC [2,6] undef,spC [2] undef,spC [2] undef,spC [2,9] undef,spC [2,8,10] undef,spC [2,11] undef,spC [2,12] undef,spC [2,7,13] undef] 10 [] hm he (by simp[shape]) rfl (by simp[spC]) (by simp;omega)
        ⟨lCc _ _ _,lCc _ _ _,lCc _ _ _,lCc _ _ _,lCc _ _ _,lCc _ _ _,lCc _ _ _,lCc _ _ _,lCc _ _ _,lCc _ _ _,lCc _ _ _,lCc _ _ _,lCc _ _ _,lCc _ _ _,lCc _ _ _,trivial⟩ ?_ ?_
      · refine ⟨op_c fun a' w' hk' hf' hd' K' hK'=>?_,op_c fun a' w' hk' hf' hd' K' hK'=>?_,op_c fun a' w' hk' hf' hd' K' hK'=>?_,
          op_gn rfl (by omega) (fun _ _ hd'=>hd'.c 2 (by simp) rfl),op_gn rfl (by omega) (fun _ _ hd'=>hd'.c 2 (by simp) rfl),op_gn rfl (by omega) (fun _ _ hd'=>hd'.c 2 (by simp) rfl),op_gn rfl (by omega) (fun _ _ hd'=>hd'.c 2 (by simp) rfl),op_gn rfl (by omega) (fun _ _ hd'=>hd'.c 2 (by simp) rfl),op_gn rfl (by omega) (fun _ _ hd'=>hd'.c 2 (by simp) rfl),
          op_gn rfl (by omega) (fun _ _ hd'=>hd'.c 2 (by simp) rfl),op_gn rfl (by omega) (fun _ _ hd'=>hd'.c 2 (by simp) rfl),op_gn rfl (by omega) (fun _ _ hd'=>hd'.c 2 (by simp) rfl),op_gn rfl (by omega) (fun _ _ hd'=>hd'.c 2 (by simp) rfl),op_gn rfl (by omega) (fun _ _ hd'=>hd'.c 2 (by simp) rfl),op_gn rfl (by omega) (fun _ _ hd'=>hd'.c 2 (by simp) rfl),trivial⟩
        · rw[wMw,eTm,hk'.get 3 (by omega),r3];exact hK'
        · exact wp_gtr (k1:=.i64) (i:=0) (j:=0) (by rw[eTm];exact hd'.c 0 (by simp) rfl) rfl hK'
        rw[wMw,eTm,hd'.c (nd':=[0]) 1 (by simp) rfl];exact hK'
      intro a' w' hk' hf' hd';have hz':=hk'.size;refine wp_pickNo (by rw[eTm];exact hd'.c (nd':=[1]) 2 (by simp) rfl) rfl ?_;exact hdone _ _ (hk'.put (by omega) _) hf' (gQ)
    obtain ⟨i,rfl⟩:∃ j,i=j+1:=⟨i - 1,by omega⟩;obtain ⟨kx,hkx⟩:∃ p,l[i+1]?=some p:=⟨l[i+1],by simp[hlt]⟩;obtain ⟨ky,hky⟩:∃ p,l[i]?=some p:=⟨l[i],by simp[show i < l.length from by omega]⟩;obtain ⟨kx,xx⟩:=kx;obtain ⟨ky,yy⟩:=ky;have cx:=hcell _ _ _ hkx;have cy:=hcell _ _ _ hky;have hle:ky≤kx:=by
      have e1:(l.map (·.1))[i]?=some ky:=by rw[List.getElem?_map,hky];rfl
      have e2:(l.map (·.1))[i+1]?=some kx:=by rw[List.getElem?_map,hkx];rfl
      obtain ⟨h1,h1'⟩:=List.getElem?_eq_some_iff.1 e1;obtain ⟨h2,h2'⟩:=List.getElem?_eq_some_iff.1 e2;have:=List.pairwise_iff_getElem.1 hsrt i (i+1) h1 h2 (by omega);rw[h1',h2'] at this;exact this
    have ej:((i+1:Nat):Int) - 1=(i:Int):=by omega
    refine wp_drawE (os:=[oM 10 3 t8 p8 e8,
⟨some 11,.binOp .gtr T3 (.tmp 10) (.const (.int .i64 0)) T3,t9,p9,e9,none⟩,
oM 12 11 t10 p10 e10,
⟨some 13,.move (.tmp 0),t11,p11,e11,some (2,true)⟩,
⟨some 14,.move (.tmp 3),t12,p12,e12,some (2,true)⟩,
⟨some 15,.indexAddr T24 (.tmp 13) (.tmp 14),t13,p13,e13,some (2,true)⟩,
⟨some 16,.fieldAddr T64 (.tmp 15) 0,t14,p14,e14,some (2,true)⟩,
⟨some 17,.load T61 (.tmp 16),t15,p15,e15,some (2,true)⟩,
⟨some 18,.move (.tmp 0),t16,p16,e16,some (2,true)⟩,
⟨some 19,.move (.tmp 3),t17,p17,e17,some (2,true)⟩,
⟨some 20,.binOp .sub T3 (.tmp 19) (.const (.int .i64 1)) T3,t18,p18,e18,some (2,true)⟩,
⟨some 21,.indexAddr T24 (.tmp 18) (.tmp 20),t19,p19,e19,some (2,true)⟩,
⟨some 22,.fieldAddr T64 (.tmp 21) 0,t20,p20,e20,some (2,true)⟩,
⟨some 23,.load T61 (.tmp 22),t21,p21,e21,some (2,true)⟩,
⟨some 24, .binOp .lss T61 (.tmp 17) (.tmp 23) T61, t22, p22, e22, some (2, true)⟩]) (o := ⟨some 25, .pick (.tmp 12) (.tmp 24) (.const (.bool false)), t23, p23, e23, none⟩)
      [spC [] (.int .i64 ((i+1:Nat):Int)),spC [0] (.bool true),spC [1] (.bool true),spC [2] (.slice (some ⟨b,o,none⟩) l.length cap),spC [2] (.int .i64 ((i+1:Nat):Int)),spC [2,3,4] (.pointer (some ⟨b,o+((i+1:Nat):Int).toNat * 2,none⟩)),spC [2,5] (.pointer (some ⟨b,o+((i+1:Nat):Int).toNat * 2+0,none⟩)),spC [2,6] (.int .u32 kx),
        spC [2] (.slice (some ⟨b,o,none⟩) l.length cap),spC [2] (.int .i64 ((i+1:Nat):Int)),spC [2,9] (.int .i64 (i:Int)),spC [2,8,10] (.pointer (some ⟨b,o+(i:Int).toNat * 2,none⟩)),spC [2,11] (.pointer (some ⟨b,o+(i:Int).toNat * 2+0,none⟩)),spC [2,12] (.int .u32 ky),spC [2,7,13] (.bool false)] 10 [] hm he (by simp[shape]) rfl (by simp[spC]) (by simp;omega)
      ⟨lCc _ _ _,lCc _ _ _,lCc _ _ _,lCc _ _ _,lCc _ _ _,lCc _ _ _,lCc _ _ _,lCc _ _ _,lCc _ _ _,lCc _ _ _,lCc _ _ _,lCc _ _ _,lCc _ _ _,lCc _ _ _,lCc _ _ _,trivial⟩ ?_ ?_
    · refine ⟨op_c fun a' w' hk' hf' hd' K' hK'=>?_,op_c fun a' w' hk' hf' hd' K' hK'=>?_,op_c fun a' w' hk' hf' hd' K' hK'=>?_,
        op_gy rfl (by omega) (fun _ _ hd'=>hd'.c 2 (by simp[spC]) rfl) (op_c fun a' w' hk' hf' hd' K' hK'=>?_),op_gy rfl (by omega) (fun _ _ hd'=>hd'.c 2 (by simp[spC]) rfl) (op_c fun a' w' hk' hf' hd' K' hK'=>?_),op_gy rfl (by omega) (fun _ _ hd'=>hd'.c 2 (by simp[spC]) rfl) (op_c fun a' w' hk' hf' hd' K' hK'=>?_),op_gy rfl (by omega) (fun _ _ hd'=>hd'.c 2 (by simp[spC]) rfl) (op_c fun a' w' hk' hf' hd' K' hK'=>?_),op_gy rfl (by omega) (fun _ _ hd'=>hd'.c 2 (by simp[spC]) rfl) (op_c fun a' w' hk' hf' hd' K' hK'=>?_),op_gy rfl (by omega) (fun _ _ hd'=>hd'.c 2 (by simp[spC]) rfl) (op_c fun a' w' hk' hf' hd' K' hK'=>?_),op_gy rfl (by omega) (fun _ _ hd'=>hd'.c 2 (by simp[spC]) rfl) (op_c fun a' w' hk' hf' hd' K' hK'=>?_),op_gy rfl (by omega) (fun _ _ hd'=>hd'.c 2 (by simp[spC]) rfl) (op_c fun a' w' hk' hf' hd' K' hK'=>?_),op_gy rfl (by omega) (fun _ _ hd'=>hd'.c 2 (by simp[spC]) rfl) (op_c fun a' w' hk' hf' hd' K' hK'=>?_),op_gy rfl (by omega) (fun _ _ hd'=>hd'.c 2 (by simp[spC]) rfl) (op_c fun a' w' hk' hf' hd' K' hK'=>?_),op_gy rfl (by omega) (fun _ _ hd'=>hd'.c 2 (by simp[spC]) rfl) (op_c fun a' w' hk' hf' hd' K' hK'=>?_),op_gy rfl (by omega) (fun _ _ hd'=>hd'.c 2 (by simp[spC]) rfl) (op_c fun a' w' hk' hf' hd' K' hK'=>?_),trivial⟩
      · rw[wMw,eTm,hk'.get 3 (by omega),r3];exact hK'
      · refine wp_gtr (k1:=.i64) (i:=((i+1:Nat):Int)) (j:=0) (by rw[eTm];exact hd'.c 0 (by simp) rfl) rfl ?_;rw[show decide (((i+1:Nat):Int) > 0)=true from decide_eq_true (by omega)];exact hK'
      · rw[wMw,eTm,hd'.c (nd':=[0]) 1 (by simp) rfl];exact hK'
      · rw[wMw,eTm,hk'.get 0 (by omega),r0];exact hK'
      · rw[wMw,eTm,hk'.get 3 (by omega),r3];exact hK'
      · exact wp_indexAddr h24 (by rw[eTm];exact hd'.c 3 (by simp) rfl) (by rw[eTm];exact hd'.c (nd':=[2]) 4 (by simp) rfl) (by omega) (by omega) hK'
      · exact wFa hF (by rw[eTm];exact hd'.c (nd':=[2,3,4]) 5 (by simp) rfl) hK'
      · exact wp_load h61 (by rw[eTm];exact hd'.c (nd':=[2,5]) 6 (by simp) rfl) (hf'.cell (f2.cell cx .nil) .nil) hK'
      · rw[wMw,eTm,hk'.get 0 (by omega),r0];exact hK'
      · rw[wMw,eTm,hk'.get 3 (by omega),r3];exact hK'
      · refine wp_sub (k1:=.i64) (i:=((i+1:Nat):Int)) (j:=1) (by rw[eTm];exact hd'.c (nd':=[2]) 9 (by simp) rfl) rfl ?_;rw[ej,wrap64 (by omega)];exact hK'
      · exact wp_indexAddr h24 (by rw[eTm];exact hd'.c (nd':=[2]) 8 (by simp) rfl) (by rw[eTm];exact hd'.c (nd':=[2,9]) 10 (by simp) rfl) (by omega) (by omega) hK'
      · exact wFa hF (by rw[eTm];exact hd'.c (nd':=[2,8,10]) 11 (by simp) rfl) hK'
      · exact wp_load h61 (by rw[eTm];exact hd'.c (nd':=[2,11]) 12 (by simp) rfl) (hf'.cell (f2.cell cy .nil) .nil) hK'
      refine wp_lss (k1:=.u32) (i:=kx) (j:=ky) (by rw[eTm];exact hd'.c (nd':=[2,6]) 7 (by simp) rfl) (by rw[eTm];exact hd'.c (nd':=[2,12]) 13 (by simp) rfl) ?_;rw[show decide ((kx:Int) < ky)=false from decide_eq_false (by omega)];exact hK'
    intro a' w' hk' hf' hd';have hz':=hk'.size;refine wp_pickYes (v:=.bool false) (by rw[eTm];exact hd'.c (nd':=[1]) 2 (by simp) rfl) (by rw[eTm];exact hd'.c (nd':=[2,7,13]) 14 (by simp) rfl) ?_;exact hdone _ _ (hk'.put (by omega) _) hf' (gQ)
  intro hge;refine wp_exit ?_;exact ⟨by rw[k3.defers,hd2],.tuple #[],by simp[results,hres],⟨_,rfl⟩,f2⟩
theorem Rep.tag_bounds {w:World} {A:Nat→Prop} {v:Value} {x:V} (h:Rep w A .tags [v] x):(tagKv x).length≤4294967296∧∀ p ∈ tagKv x,p.1 < 4294967296:=by
  rcases h with ⟨_,rfl⟩ | ⟨r,es,clock,kv,_,_,_,h3,rfl,h4⟩
  · exact ⟨by simp[tagKv],by simp[tagKv]⟩
  refine ⟨?_,h3.small⟩;have:=nodup_lt_len (n:=4294967296) h4.2.2 (fun k hk=>by obtain ⟨p,hp,rfl⟩:=List.mem_map.1 hk;exact h3.small p hp)
  simpa [tagKv] using this
theorem TRun.tags {P:Program} {TT TL TG S:TypeId} {N sv st tr m n k o kf i1 i2 i3:Nat} {fe fc fs:FuncId} {ats ats2:Array TypeId}
    {t0 t1 t2 t3 t4 t5 t6 t7 t8 t9:TypeId} {p0 p1 p2 p3 p4 p5 p6 p7 p8 p9:String} {e0 e1 e2 e3 e4 e5 e6 e7 e8 e9:Array Edge} (hT:TreeTys P TT TL) (hE:EachM P fe) (hC:CbM P fc) (hS:SortedM P fs) (hG:scal P TG=true) (hF:fieldOf P S kf o=true)
    (hb:(decide (sv < n) && decide (st < n) && decide (tr < n) && decide (n+8 < N))=true) :
    TRun P N sv st tr m (.seq (Code.region i1 ⟨[oM n sv t0 p0 e0,⟨some (n+1),.nilCheck (.tmp n),t1,p1,e1,none⟩,oF (n+2) S (n+1) kf t2 p2 e2,⟨some (n+3),.makeFunc (.func fc) #[] #[.tmp st],t3,p3,e3,none⟩,
      oC (n+4) fe #[.tmp (n+2),.tmp (n+3)] ats t4 p4 e4]⟩ false) (.seq (Code.region i2 ⟨[oF (n+5) TT st 4 t5 p5 e5,oL (n+6) TG (n+5) t6 p6 e6,oC (n+7) fs #[.tmp (n+6)] ats2 t7 p7 e7]⟩ false) (.seq (Code.region i3 ⟨[oL (n+8) TT st t8 p8 e8,oS TT tr (n+8) t9 p9 e9]⟩ false) .ret))) k o [.tags] []:=by
  intro e Q a w l xs rb hen hN hd hsv hst htr hth hrs hrl hrt hrp hrB hm hl hn ⟨z,hz1,hz2⟩ hK;simp only[Bool.and_eq_true,decide_eq_true_eq] at hb;obtain ⟨⟨⟨b1,b2⟩,b3⟩,b4⟩:=hb;obtain ⟨c1,c2,x,r,rfl,rfl,hr1,hr2⟩:=hz2;obtain ⟨_,rfl⟩:=hr2;simp only[List.length_nil,Nat.add_zero] at hn;obtain ⟨v,rfl⟩:∃ v,c1=[v]:=List.length_eq_one_iff.1 (by simpa [Ty.size] using hr1.length);rw[range_append] at hz1;have hcv:w.cell? ⟨e.pb,e.po+o,none⟩=some v:=hz1.1 0 v rfl;obtain ⟨hkl,hk32⟩:=hr1.tag_bounds;have hs0:=hm.s0;have htb:=hm.tbs;have hps:=hm.ps;have hbs:=hm.bs;refine wT fun K1 hK1=>?_;rw[wCo,wMw,eTm,hsv,wCo];refine wNc (q:=⟨e.pb,e.po,none⟩) (by rw[eTm,gQ]) ?_;refine wC (wFa (b:=e.pb) (i:=e.po) hF (by rw[eTm,gQ]) ?_);refine wC (wp_makeFunc1 (v:=.pointer (some ⟨e.tb,0,none⟩)) (by rw[eTm,gR,gR,gR,hst]) ?_);rw[wCo];have hI0:CbI e.tb w.heap.size [] [⟨e.tb,4,5⟩] w:=⟨.slice none 0 0,hm.tree 4 _ rfl,there_part hm.thT (by omega) (by omega),TOwn.nil,rfl,by simp,by omega⟩;refine wp_calls (R:=fun _ w'=>∃ own',CbI e.tb w.heap.size (sortKv (tagKv x)) own' w'∧Fr [⟨e.tb,4,5⟩] w w') hE.enters (vs:=#[.pointer (some ⟨e.pb,e.po+o,none⟩),.func (.func fc) #[] #[.pointer (some ⟨e.tb,0,none⟩)]])
    (by simp only[List.map_toArray,List.map_cons,List.map_nil,eTm];rw[gR,gQ,gQ])
    ((hE.call w e.B e.pb (e.po+o) v x fc #[.pointer (some ⟨e.tb,0,none⟩)] (CbI e.tb w.heap.size) [⟨e.tb,4,5⟩] hcv hr1 (fun b hb=>by have:=(hbs b hb).1;omega) hC.enters hI0
      (by intro z hz;simp at hz;subst hz;exact ⟨fun h=>(hbs _ h).2.2 rfl,fun h=>hm.pt h.symm,by simp only;omega⟩)
      (fun done own w w' h hf=>h.stable hf)
      (fun done own w1 k y u hI hkx hu hdl hw1=>by
        have hdl:done.length < (tagKv x).length:=by have:=hdl.length_le;rw[(sortKv_perm _).length_eq] at this;simp at this;omega
        rw[show (#[Value.int .u32 (k:Int),u] ++ #[Value.pointer (some ⟨e.tb,0,none⟩)]) = #[Value.int .u32 (k:Int),u,Value.pointer (some ⟨e.tb,0,none⟩)] from by simp];exact hC.call w1 e.B e.tb w.heap.size done own k y u hI (hk32 _ hkx) hu (by omega) hw1)).mono
      (by rintro e' w' ⟨⟨z,rfl⟩,own',h1,h2,_⟩;exact ⟨z,rfl,own',h1,h2⟩)) ?_
  rintro zz w1 ⟨own',⟨uv,hcu,htu,hown,_,hdl,_⟩,f1⟩;rw[wNi];generalize ha1:(((((a.put (some n) (.pointer (some ⟨e.pb,e.po,none⟩))).put (some (n+1)) (.pointer (some ⟨e.pb,e.po,none⟩))).put (some (n+2)) (.pointer (some ⟨e.pb,e.po+o,none⟩))).put (some (n+3)) (.func (.func fc) #[] #[.pointer (some ⟨e.tb,0,none⟩)])).put (some (n+4)) zz)=a1;have k1:Kept n a a1:=by subst ha1;exact ((((Kept.put0 (by omega) _).put (by omega) _).put (by omega) _).put (by omega) _).put (by omega) _
  have hz1':=k1.size;have sz1:=f1.size;refine hK1 a1 w1 (tUp ?_);refine wT fun K2 hK2=>?_;refine wC (wFa (hT.flat.field (k:=4) (by decide)) (b:=e.tb) (i:=0) (by rw[eTm,k1.get st (by omega),hst]) ?_);refine wC (wp_load hG (b:=e.tb) (o:=0+4) (v:=uv) (by rw[eTm,gQ]) (by rw[Nat.zero_add];exact hcu) ?_);rw[wCo];have hsl:=(sortKv_perm (tagKv x)).length_eq;have hll:(tagL (sortKv (tagKv x))).length≤4294967296:=by simp[tagL];omega
  have hTR:=hown.tags hll;refine wp_calls (R:=fun _ w'=>Fr [] w1 w') hS.enters (vs:=#[uv]) (by simp only[List.map_toArray,List.map_cons,List.map_nil,eTm];rw[gQ])
    ((hS.call w1 _ uv _ hTR (by
      have:=sortKv_sorted (tagKv x);simp only[tagL,List.map_map];rw[List.pairwise_map];exact this)).mono (by rintro e' w' ⟨⟨z,rfl⟩,h⟩;exact ⟨z,rfl,h⟩)) ?_
  intro zz2 w2 f2;rw[wNi];generalize ha2:((a1.put (some (n+5)) (.pointer (some ⟨e.tb,0+4,none⟩))).put (some (n+6)) uv).put (some (n+7)) zz2=a2;have k2:Kept n a1 a2:=by subst ha2;exact ((Kept.put0 (by omega) _).put (by omega) _).put (by omega) _
  have hz2':=k2.size;have sz2:=f2.size;have f12:Fr [⟨e.tb,4,5⟩] w w2:=f1.tr (f2.nil);refine hK2 a2 w2 (tUp ?_);have htree:w2.rangeAt e.tb 0 [.int .i64 0,.slice none 0 0,.bool false,.slice (some ⟨e.lb,0,none⟩) e.n e.n,uv]:=by
    intro j u hj;have hlow:∀ j u,j < 4→[(.int .i64 0:Value),.slice none 0 0,.bool false,.slice (some ⟨e.lb,0,none⟩) e.n e.n,.slice none 0 0][j]?=some u→w2.cell? ⟨e.tb,0+j,none⟩=some u:=by
      intro j u hj4 hu;exact f12.cell (hm.tree j u hu) (.cons (.inr (by simp only;omega)) .nil)
    rcases j with _ | _ | _ | _ | _ | j
    · exact hlow 0 u (by omega) hj
    · exact hlow 1 u (by omega) hj
    · exact hlow 2 u (by omega) hj
    · exact hlow 3 u (by omega) hj
    · simp at hj; subst hj
      exact f2.cell hcu .nil
    simp at hj
  have kk:=k1.trans k2;refine wT fun K3 hK3=>?_;refine wC (wp_loadFlat hT.flat (cs:=[.int .i64 0,.slice none 0 0,.bool false,.slice (some ⟨e.lb,0,none⟩) e.n e.n,uv]) rfl (by rw[eTm,kk.get st (by omega),hst]) htree ?_);rw[wCo];have hth2:w2.there rb 0 5:=f12.there hth;have huone:=hown.one;refine wp_storeFlat hT.flat (cs:=[.int .i64 0,.slice none 0 0,.bool false,.slice (some ⟨e.lb,0,none⟩) e.n e.n,uv]) (b:=rb) (o:=0) rfl (by rw[eTm,gR,kk.get tr (by omega),htr]) (by rw[eTm,gQ])
    (by intro y hy;simp at hy;rcases hy with rfl | rfl | rfl | rfl | rfl <;> first | rfl | exact huone) hth2 ?_
  rw[wNi,pNo];refine hK3 _ _ (wp_ret ?_);have hs:=Fr.sets rb [.int .i64 0,.slice none 0 0,.bool false,.slice (some ⟨e.lb,0,none⟩) e.n e.n,uv] w2 0;have hrg:=World.rangeAt_setCells_same w2 rb 0 [.int .i64 0,.slice none 0 0,.bool false,.slice (some ⟨e.lb,0,none⟩) e.n e.n,uv] hth2;have hsz:=hs.size;have hfull:Fr [⟨e.lb,0,e.n * 5⟩,⟨rb,0,5⟩,⟨e.tb,0,5⟩] w2 (w2.setCells rb 0 [.int .i64 0,.slice none 0 0,.bool false,.slice (some ⟨e.lb,0,none⟩) e.n e.n,uv]):=by
    refine hs.mono ?_;intro r hr;simp at hr;subst hr;exact .inr ⟨⟨rb,0,5⟩,by simp,rfl,by simp,by simp⟩
  generalize w2.setCells rb 0 [.int .i64 0,.slice none 0 0,.bool false,.slice (some ⟨e.lb,0,none⟩) e.n e.n,uv]=w3 at hs hrg hsz hfull ⊢;refine hK _ _ _ (dZ (kk.defers.trans hd)) (by rw[gR,kk.get tr (by omega),htr]) ((f12.mono ?_).tr hfull) hrg ?_
  · intro r hr;simp at hr;subst hr;exact .inr ⟨⟨e.tb,0,5⟩,by simp,rfl,by simp,by simp⟩
  have hll2:l.length=e.n:=by omega
  have hslots:slots l e.n=l.map .done:=by simp[slots,hll2]
  rw[repT_iff];have hnrb:∀ r ∈ [(⟨rb,0,0+[(.int .i64 0:Value),.slice none 0 0,.bool false,.slice (some ⟨e.lb,0,none⟩) e.n e.n,uv].length⟩:Rng)],∀ s,e.s0≤s→¬ (s≤r.b):=by
    intro r hr s hs' hle;simp at hr;subst hr;simp only at hle;omega
  have hels:∀ i y,l[i]?=some y→∃ es,w.rangeAt e.lb (i * 5) es∧RepT w (fun b=>e.s0≤b∧b < w.heap.size) es y:=by
    intro i y hy;obtain ⟨es,h1,h2⟩:=hm.els i (.done y) (by rw[hslots,List.getElem?_map,hy];rfl);exact ⟨es,h1,h2⟩
  have hch:∃ es:Nat→List Value,∀ i y,l[i]?=some y→w.rangeAt e.lb (i * 5) (es i)∧RepT w (fun b=>e.s0≤b∧b < w.heap.size) (es i) y:=by
    refine ⟨fun i=>cellsAt w e.lb (i * 5) 5,fun i y hy=>?_⟩;obtain ⟨es,h1,h2⟩:=hels i y hy;have:=range_cellsAt h1;rw[h2.length] at this;show w.rangeAt e.lb (i * 5) (cellsAt w e.lb (i * 5) 5)∧RepT w _ (cellsAt w e.lb (i * 5) 5) y
    rw[← this];exact ⟨h1,h2⟩
  obtain ⟨es,hes⟩:=hch;have htagr:TagsR w3 (fun b=>b=e.lb∨e.A w3 b) uv (tagsT x):=by
    have h2:=(hown.kept f2 (by simp) (From.mono sz2)).tags hll;exact h2.kept hs (fun r hr hF=>hnrb r hr _ hs0 hF.1) (fun b hb=>.inr ⟨Nat.le_trans hs0 hb.1,Nat.lt_of_lt_of_le hb.2 hsz⟩)
  refine ⟨_,_,_,rfl,by omega,.nil,.inr ⟨e.lb,0,e.n,.inl rfl,by simp[tellAll,hll2],⟨by simp[tellAll,hll2],by simp[tellAll,hll2,hen]⟩,es,fun i y hy=>?_,fun i y hy=>?_⟩,htagr⟩
  · rw[Nat.zero_add];exact hs.range (f12.range (hes i y (by simpa [tellAll] using hy)).1 (.cons (.inl (fun h=>hm.ne h.symm)) .nil)) (.cons (.inl hrl) .nil)
  refine ((hes i y (by simpa [tellAll] using hy)).2.kept f12 (A':=fun b=>e.s0≤b∧b < w2.heap.size) (fun r hr hF=>?_) (fun b hb=>⟨hb.1,Nat.lt_of_lt_of_le hb.2 f12.size⟩)).kept hs (fun r hr hF=>hnrb r hr _ (Nat.le_refl _) hF.1) (fun b hb=>.inr ⟨hb.1,Nat.lt_of_lt_of_le hb.2 hsz⟩);simp at hr;subst hr;have:=hF.1;simp only at this;omega
end Go.Kq

namespace Go.Kq
open Go Go.Proofs
theorem text_m {P:Program} {f:FuncId} {fn:Func} {T9 T22 T26 T116:TypeId} {i0 i1 i2 i3:Nat}
    {t0 t1 t2 t3 t4 t5 t6 t7 t8 t9 t10:TypeId} {p0 p1 p2 p3 p4 p5 p6 p7 p8 p9 p10:String} {e0 e1 e2 e3 e4 e5 e6 e7 e8 e9 e10:Array Edge}
    (hf:P.funcs[f]?=some fn) (hname:(fn.name == "runtime.NumGoroutine")=false) (hres:fn.results = #[.cell 2 T26]) (hN:fn.ntmps=11)
    (hbody:fn.body=some (.seq (Code.region i0 ⟨[⟨some 2,.alloc T26,t0,p0,e0,none⟩]⟩ false) (.seq (.seq (Code.region i1 ⟨[oM 3 0 t1 p1 e1,⟨some 4,.binOp .eql T116 (.tmp 3) (.const (.pointer none)) T116,t2,p2,e2,none⟩]⟩ false) (.cond (.tmp 4) (.seq (Code.region i2 ⟨[⟨some 5,.build T26 #[(2,.const (.bool true))],t3,p3,e3,none⟩,
    oS T26 2 5 t4 p4 e4]⟩ false) .ret) .skip)) (.seq (Code.region i3 ⟨[oM 6 0 t5 p5 e5,⟨some 7,.nilCheck (.tmp 6),t6,p6,e6,none⟩,
    oL 8 T9 7 t7 p7 e7,⟨some 9,.convert T9 T22 (.tmp 8),t8,p8,e8,none⟩,⟨some 10,.build T26 #[(1,.tmp 9)],t9,p9,e9,none⟩,
    oS T26 2 10 t10 p10 e10]⟩ false) .ret))))
    (hT:Flat P T26 zT) (h116:ptrTy P T116=true) (h9:strTy P T9=true) (h9s:scal P T9=true) (h22:byteSl P T22=true):FnT P f .pstr tText:=by
  refine ⟨enters_of hf hname hbody,?_⟩;intro w B v x hx;obtain ⟨q,rfl⟩:∃ q,v = .pointer q:=by
    rcases hx with ⟨h,_⟩ | ⟨b,o,s,_,h,_⟩ <;> (simp at h;exact ⟨_,h⟩)
  refine calls_of_wp hf hbody ?_;generalize ha0:({ tmps:=#[Value.pointer q]++Array.replicate (fn.ntmps - #[Value.pointer q].size) undef,defers:=[] }:Act)=a0;have hsz:a0.tmps.size=11:=by subst ha0;simp[hN]
  have hd0:a0.defers=[]:=by subst ha0;rfl
  have g0:get a0 0 = .pointer q:=by subst ha0;exact gAr rfl
  refine wT fun K1 hK1=>?_;refine wC (wp_alloc hT.zero ?_);rw[wNi];have f1:=Fr.alloc [] w (.cells (Value.agg zT.toArray).cells T26);have th1:(w.alloc (.cells (Value.agg zT.toArray).cells T26)).there w.heap.size 0 5:=there_new w zT.toArray T26;have sz1:=size_alloc w (.cells (Value.agg zT.toArray).cells T26);generalize w.alloc (.cells (Value.agg zT.toArray).cells T26)=w1 at f1 th1 sz1 ⊢;have k1:Kept 2 a0 (a0.put (some 2) (.pointer (some ⟨w.heap.size,0,none⟩))):=Kept.put0 (by omega) _;have q2:get (a0.put (some 2) (.pointer (some ⟨w.heap.size,0,none⟩))) 2 = .pointer (some ⟨w.heap.size,0,none⟩):=gQ;generalize a0.put (some 2) (.pointer (some ⟨w.heap.size,0,none⟩))=a1 at k1 q2 ⊢;have hz1:=k1.size;refine hK1 a1 w1 (tUp ?_);refine tId (wp_seq_k fun K2 hK2=>?_);refine wS fun K3 hK3=>?_;rw[wCo,wMw,eTm,k1.get 0 (by omega),g0,wCo];refine wp_eqlPtrNil h116 (q:=q) (by rw[eTm,gQ]) ?_;rw[wNi];have k2:Kept 3 a1 ((a1.put (some 3) (.pointer q)).put (some 4) (.bool q.isNone)):=(Kept.put0 (by omega) _).put (by omega) _;have q4:get ((a1.put (some 3) (.pointer q)).put (some 4) (.bool q.isNone)) 4 = .bool q.isNone:=gQ;generalize (a1.put (some 3) (.pointer q)).put (some 4) (.bool q.isNone)=a2 at k2 q4 ⊢;have hz2:=k2.size;have r2:get a2 2 = .pointer (some ⟨w.heap.size,0,none⟩):=by rw[k2.get 2 (by omega),q2]
  have hd2:a2.defers=[]:=by rw[k2.defers,k1.defers,hd0]
  refine hK3 a2 w1 ?_;refine wp_cond_split (t:=q.isNone) (by rw[eTm,q4]) (fun hq=>?_) fun hq=>wp_skip (hK2 a2 w1 (tUp ?_))
  · obtain rfl : q = none := by simpa using hq
    obtain rfl:x = .nil:=by
      rcases hx with ⟨_,h⟩ | ⟨b,o,s,_,h,_⟩
      · exact h
      simp at h
    refine wS fun K4 hK4=>?_;refine wC (wp_build1 hT (k:=2) (v:=.bool true) (by decide) rfl rfl ?_);refine wC (wp_storeFlat hT (cs:=zT.set 2 (.bool true)) (b:=w.heap.size) (o:=0) rfl (by rw[eTm,gR,r2]) (by rw[eTm,gQ]) (by simp[zT,Value.oneCell']) th1 ?_);rw[pNo,wNi];have f2:=Fr.sets w.heap.size (zT.set 2 (.bool true)) w1 0;have rg:=World.rangeAt_setCells_same w1 w.heap.size 0 (zT.set 2 (.bool true)) th1;generalize w1.setCells w.heap.size 0 (zT.set 2 (.bool true))=w2 at f2 rg ⊢;have sz2:=f2.size;refine hK4 _ w2 (wp_ret ?_);refine ⟨(dZ hd2),_,results_cell hres hT (by rfl) (by rw[gR,r2]) rg,⟨_,rfl,?_,?_⟩⟩
    · exact f1.trans f2 (by intro r hr;simp at hr;subst hr;exact .inl (Nat.le_refl _))
    exact RepT.nil (by omega) .nil (.inl ⟨.inl rfl,rfl⟩)
  obtain ⟨qa,rfl⟩:∃ qa,q=some qa:=by cases q with | none=>simp at hq | some qa=>exact ⟨qa,rfl⟩
  obtain ⟨b,o,s,hB,hqa,hcs,rfl,hsl⟩:∃ b o,∃ s:ByteArray,B b∧qa=⟨b,o,none⟩∧w.cell? ⟨b,o,none⟩=some (.string s)∧x = .s s.data.toList∧s.data.toList.length≤4294967296:=by
    rcases hx with ⟨h,_⟩ | ⟨b,o,s,h1,h2,h3,h4,h5⟩
    · simp at h
    simp at h2;exact ⟨b,o,s,h1,h2,h3,h4,h5⟩
  subst hqa;refine wT fun K4 hK4=>?_;rw[wCo,wMw,eTm,k2.get 0 (by omega),k1.get 0 (by omega),g0,wCo];refine wNc (q:=⟨b,o,none⟩) (by rw[eTm,gQ]) ?_;refine wC (wp_load h9s (b:=b) (o:=o) (v:=.string s) (by rw[eTm,gQ]) (f1.cell hcs .nil) ?_);refine wC (wp_toBytes hsl h9 h22 (by rw[eTm,gQ]) ?_);intro y w2 f2 hy;have sz2:=f2.size;refine wC (wp_build1 hT (k:=1) (v:=y) (by decide) (by rw[eTm,gQ]) hy.one ?_);rw[wCo];have th2:w2.there w.heap.size 0 5:=f2.there th1;refine wp_storeFlat hT (cs:=zT.set 1 y) (b:=w.heap.size) (o:=0) rfl (by rw[eTm,gR,gR,gR,gR,gR,r2]) (by rw[eTm,gQ]) (by have:=hy.one;simp[zT,Value.oneCell'];exact this) th2 ?_;rw[pNo,wNi];have f3:=Fr.sets w.heap.size (zT.set 1 y) w2 0;have rg:=World.rangeAt_setCells_same w2 w.heap.size 0 (zT.set 1 y) th2;generalize w2.setCells w.heap.size 0 (zT.set 1 y)=w3 at f3 rg ⊢;have sz3:=f3.size;refine hK4 _ w3 (wp_ret ?_);refine ⟨(by simp only[dPu];exact hd2),_,results_cell hres hT (by rfl) (by rw[gR,gR,gR,gR,gR,r2]) rg,⟨_,rfl,?_,?_⟩⟩
  · exact (f1.tr f2).trans f3 (by intro r hr;simp at hr;subst hr;exact .inl (Nat.le_refl _))
  exact repT_str (hy.kept f3 (by intro r hr hF;simp at hr;subst hr;have:=hF.1;simp only at this;omega) (fun b hb=>⟨by have:=hb.1;omega,by have:=hb.2;omega⟩))
theorem bool_m {P:Program} {f:FuncId} {fn:Func} {T26:TypeId} {i0 i1 i2 i3:Nat}
    {t0 t1 t2 t3 t4 t5:TypeId} {p0 p1 p2 p3 p4 p5:String} {e0 e1 e2 e3 e4 e5:Array Edge}
    (hf:P.funcs[f]?=some fn) (hname:(fn.name == "runtime.NumGoroutine")=false) (hres:fn.results = #[.cell 2 T26]) (hN:fn.ntmps=6)
    (hbody:fn.body=some (.seq (Code.region i0 ⟨[⟨some 2,.alloc T26,t0,p0,e0,none⟩]⟩ false) (.seq (.seq (Code.region i1 ⟨[oM 3 0 t1 p1 e1]⟩ false) (.cond (.tmp 3) (.seq (Code.region i2 ⟨[⟨some 4,.build T26 #[(0,.const (.int .i64 1))],t2,p2,e2,none⟩,
    oS T26 2 4 t3 p3 e3]⟩ false) .ret) .skip)) (.seq (Code.region i3 ⟨[⟨some 5,.build T26 #[],t4,p4,e4,none⟩,
    oS T26 2 5 t5 p5 e5]⟩ false) .ret))))
    (hT:Flat P T26 zT):FnT P f .bool tBool:=by
  refine ⟨enters_of hf hname hbody,?_⟩;intro w B v x hx;obtain ⟨t,hv,rfl⟩:=hx;simp at hv
  subst hv;refine calls_of_wp hf hbody ?_;generalize ha0:({ tmps:=#[Value.bool t]++Array.replicate (fn.ntmps - #[Value.bool t].size) undef,defers:=[] }:Act)=a0;have hsz:a0.tmps.size=6:=by subst ha0;simp[hN]
  have hd0:a0.defers=[]:=by subst ha0;rfl
  have g0:get a0 0 = .bool t:=by subst ha0;exact gAr rfl
  refine wT fun K1 hK1=>?_;refine wC (wp_alloc hT.zero ?_);rw[wNi];have f1:=Fr.alloc [] w (.cells (Value.agg zT.toArray).cells T26);have th1:(w.alloc (.cells (Value.agg zT.toArray).cells T26)).there w.heap.size 0 5:=there_new w zT.toArray T26;have sz1:=size_alloc w (.cells (Value.agg zT.toArray).cells T26);generalize w.alloc (.cells (Value.agg zT.toArray).cells T26)=w1 at f1 th1 sz1 ⊢;have k1:Kept 2 a0 (a0.put (some 2) (.pointer (some ⟨w.heap.size,0,none⟩))):=Kept.put0 (by omega) _;have q2:get (a0.put (some 2) (.pointer (some ⟨w.heap.size,0,none⟩))) 2 = .pointer (some ⟨w.heap.size,0,none⟩):=gQ;generalize a0.put (some 2) (.pointer (some ⟨w.heap.size,0,none⟩))=a1 at k1 q2 ⊢;have hz1:=k1.size;refine hK1 a1 w1 (tUp ?_);refine tId (wp_seq_k fun K2 hK2=>?_);refine wS fun K3 hK3=>?_;rw[wCo,wMw,eTm,k1.get 0 (by omega),g0,wNi];have k2:Kept 3 a1 (a1.put (some 3) (.bool t)):=Kept.put0 (by omega) _;have q3:get (a1.put (some 3) (.bool t)) 3 = .bool t:=gQ;generalize a1.put (some 3) (.bool t)=a2 at k2 q3 ⊢;have hz2:=k2.size;have r2:get a2 2 = .pointer (some ⟨w.heap.size,0,none⟩):=by rw[k2.get 2 (by omega),q2]
  have hd2:a2.defers=[]:=by rw[k2.defers,k1.defers,hd0]
  refine hK3 a2 w1 ?_;refine wp_cond_split (t:=t) (by rw[eTm,q3]) (fun hq=>?_) fun hq=>wp_skip (hK2 a2 w1 (tUp ?_))
  · subst hq;refine wS fun K4 hK4 => ?_;refine wC (wp_build1 hT (k := 0) (v := .int .i64 1) (by decide) rfl rfl ?_);refine wC (wp_storeFlat hT (cs := zT.set 0 (.int .i64 1)) (b := w.heap.size) (o := 0) rfl (by rw [eTm, gR, r2]) (by rw [eTm, gQ]) (by simp [zT, Value.oneCell']) th1 ?_);rw [pNo, wNi];have f2 := Fr.sets w.heap.size (zT.set 0 (.int .i64 1)) w1 0;have rg := World.rangeAt_setCells_same w1 w.heap.size 0 (zT.set 0 (.int .i64 1)) th1;generalize w1.setCells w.heap.size 0 (zT.set 0 (.int .i64 1)) = w2 at f2 rg ⊢;refine hK4 _ w2 (wp_ret ?_);refine ⟨(dZ hd2), _, results_cell hres hT (by rfl) (by rw [gR, r2]) rg, ⟨_, rfl, ?_, ?_⟩⟩
    · exact f1.trans f2 (by intro r hr;simp at hr;subst hr;exact .inl (Nat.le_refl _))
    exact repT_num (by omega)
  obtain rfl:t=false:=by simpa using hq
  refine wT fun K4 hK4=>?_;refine wC (wp_build0 hT ?_);refine wC (wp_storeFlat hT (cs:=zT) (b:=w.heap.size) (o:=0) rfl (by rw[eTm,gR,r2]) (by rw[eTm,gQ]) (by simp[zT,Value.oneCell']) th1 ?_);rw[pNo,wNi];have f2:=Fr.sets w.heap.size zT w1 0;have rg:=World.rangeAt_setCells_same w1 w.heap.size 0 zT th1;generalize w1.setCells w.heap.size 0 zT=w2 at f2 rg ⊢;refine hK4 _ w2 (wp_ret ?_);refine ⟨(dZ hd2),_,results_cell hres hT (by rfl) (by rw[gR,r2]) rg,⟨_,rfl,?_,?_⟩⟩
  · exact f1.trans f2 (by intro r hr;simp at hr;subst hr;exact .inl (Nat.le_refl _))
  exact repT_zero
def tOcts:V→T
  | .s l=>.mk 0 l false [] []
  | _=>.mk 0 [] true [] []
theorem octs_m {P:Program} {f:FuncId} {fn:Func} {et T22 T26:TypeId} {i0 i1:Nat}
    {t0 t1 t2 t3 t4 t5 t6:TypeId} {p0 p1 p2 p3 p4 p5 p6:String} {e0 e1 e2 e3 e4 e5 e6:Array Edge}
    (hf:P.funcs[f]?=some fn) (hname:(fn.name == "runtime.NumGoroutine")=false) (hres:fn.results = #[.cell 2 T26]) (hN:fn.ntmps=8)
    (hbody:fn.body=some (.seq (Code.region i0 ⟨[⟨some 2,.alloc T26,t0,p0,e0,none⟩]⟩ false) (.seq (Code.region i1 ⟨[oM 3 0 t1 p1 e1,⟨some 4,.call ⟨.builtin .append,#[(.const (.slice none 0 0)),(.tmp 3)],#[T22,T22]⟩,t2,p2,e2,none⟩,
    oM 5 0 t3 p3 e3,⟨some 6,.binOp .eql T22 (.tmp 5) (.const (.slice none 0 0)) T22,t4,p4,e4,none⟩,⟨some 7,.build T26 #[(1,.tmp 4),(2,.tmp 6)],t5,p5,e5,none⟩,
    oS T26 2 7 t6 p6 e6]⟩ false) .ret)))
    (hT:Flat P T26 zT) (h22:sliceOf P T22 et 1 1=true) (h22s:slTy P T22=true) (hz22:zeroIs P et [.int .u8 0]):FnT P f .bytes tOcts:=by
  refine ⟨enters_of hf hname hbody,?_⟩;intro w B v x hx;obtain ⟨v',y,hv,ho,rfl⟩:=hx;simp at hv
  subst hv;have hoe:OctE w B v (y.getD []):=.inl ⟨y,ho,rfl⟩;have hbig:=hoe.big;obtain ⟨q,n,cap,rfl,hqn⟩:∃ q n cap,v = .slice q n cap∧q.isNone=y.isNone:=by
    rcases ho with ⟨rfl,rfl⟩ | ⟨b,o,cap,l,_,rfl,_,_,rfl⟩
    · exact ⟨_,_,_,rfl,rfl⟩
    exact ⟨_,_,_,rfl,rfl⟩
  refine calls_of_wp hf hbody ?_;generalize ha0:({ tmps:=#[Value.slice q n cap]++Array.replicate (fn.ntmps - #[Value.slice q n cap].size) undef,defers:=[] }:Act)=a0;have hsz:a0.tmps.size=8:=by subst ha0;simp[hN]
  have hd0:a0.defers=[]:=by subst ha0;rfl
  have g0:get a0 0 = .slice q n cap:=by subst ha0;exact gAr rfl
  refine wT fun K1 hK1=>?_;refine wC (wp_alloc hT.zero ?_);rw[wNi];have f1:=Fr.alloc [] w (.cells (Value.agg zT.toArray).cells T26);have th1:(w.alloc (.cells (Value.agg zT.toArray).cells T26)).there w.heap.size 0 5:=there_new w zT.toArray T26;have sz1:=size_alloc w (.cells (Value.agg zT.toArray).cells T26);generalize w.alloc (.cells (Value.agg zT.toArray).cells T26)=w1 at f1 th1 sz1 ⊢;have k1:Kept 2 a0 (a0.put (some 2) (.pointer (some ⟨w.heap.size,0,none⟩))):=Kept.put0 (by omega) _;have q2:get (a0.put (some 2) (.pointer (some ⟨w.heap.size,0,none⟩))) 2 = .pointer (some ⟨w.heap.size,0,none⟩):=gQ;generalize a0.put (some 2) (.pointer (some ⟨w.heap.size,0,none⟩))=a1 at k1 q2 ⊢;have hz1:=k1.size;have gg0:get a1 0 = .slice q n cap:=by rw[k1.get 0 (by omega),g0]
  refine hK1 a1 w1 (tUp ?_);refine wT fun K2 hK2=>?_;rw[wCo,wMw,eTm,gg0,wCo];refine wp_copySrc h22 hz22 (A:=B) (xs:=y.getD []) (by rw[eTm,gQ]) (hoe.kept f1 (by simp) (fun _ h=>h)) hbig ?_;intro v' w2 sb f2 hsb hlt hsrc;have hv':OctE w2 (From w1.heap.size w2) v' (y.getD []):=by
    rcases hsrc with ⟨h1,h2,rfl⟩ | ⟨h1,o,cap,rfl,hc,hr⟩
    · rw[h2];exact OctE.nil
    have hne:y.getD [] ≠ []:=by simpa using h1
    exact .inl ⟨some (y.getD []),.inr ⟨sb,o,cap,_,⟨hsb,hlt hne⟩,rfl,hc,hr,rfl⟩,rfl⟩
  have sz2:=f2.size;have hone:=hv'.one;rw[wCo,wMw,eTm,gR,gR,gg0,wCo];refine wp_eqNil h22s (q:=q) (by rw[eTm,gQ]) ?_;refine wC (wp_build2 hT (k:=1) (k':=2) (v:=v') (v':=.bool q.isNone) (by decide) (by decide) (by rw[eTm,gR,gR,gQ]) hone (by rw[eTm,gQ]) rfl ?_);rw[wCo];have th2:w2.there w.heap.size 0 5:=f2.there th1;refine wp_storeFlat hT (cs:=(zT.set 1 v').set 2 (.bool q.isNone)) (b:=w.heap.size) (o:=0) rfl (by rw[eTm,gR,gR,gR,gR,gR,q2]) (by rw[eTm,gQ])
    (by intro u hu;simp[zT] at hu;rcases hu with rfl | rfl | rfl | rfl <;> first | rfl | exact hone) th2 ?_
  rw[pNo,wNi];have f3:=Fr.sets w.heap.size ((zT.set 1 v').set 2 (.bool q.isNone)) w2 0;have rg:=World.rangeAt_setCells_same w2 w.heap.size 0 ((zT.set 1 v').set 2 (.bool q.isNone)) th2;generalize w2.setCells w.heap.size 0 ((zT.set 1 v').set 2 (.bool q.isNone))=w3 at f3 rg ⊢;have sz3:=f3.size;refine hK2 _ w3 (wp_ret ?_);refine ⟨(by simp only[dPu];rw[k1.defers,hd0]),_,results_cell hres hT (by rfl) (by rw[gR,gR,gR,gR,gR,q2]) rg,⟨_,rfl,?_,?_⟩⟩
  · exact (f1.tr f2).trans f3 (by intro r hr;simp at hr;subst hr;exact .inl (Nat.le_refl _))
  have hk3:OctE w3 (From w.heap.size w3) v' (y.getD []):=hv'.kept f3 (by intro r hr hF;simp at hr;subst hr;have:=hF.1;simp only at this;omega) (fun b hb=>⟨by have:=hb.1;omega,by have:=hb.2;omega⟩);have e1:tOcts (V.oct y) = .mk 0 (y.getD []) q.isNone [] []:=by rw[hqn];cases y <;> rfl
  rw[e1];exact RepT.nil (by omega) hk3 (.inl ⟨.inl rfl,rfl⟩)
end Go.Kq

namespace Go.Kq
open Go Go.Proofs
def gBool (st:RSt):V × RSt:=match st.xs with
  | []=>(.n 0,.fail)
  | c::r=>(.n (if c.toNat != 0 then 1 else 0),{ st with xs:=r })
set_option maxRecDepth 10000 in
theorem rdbool_m {P:Program} {f:FuncId} {fn:Func} {et:TypeId}
    {T3 T4 T5 T22 T216:TypeId}
    {i0 i1 i2 i3 i4 i5 i6 i7:Nat}
    {t0 t1 t2 t3 t4 t5 t6 t7 t8 t9 t10 t11 t12 t13 t14 t15 t16 t17 t18 t19 t20 t21 t22 t23 t24 t25 t26 t27 t28 t29 t30 t31 t32 t33 t34:TypeId} {p0 p1 p2 p3 p4 p5 p6 p7 p8 p9 p10 p11 p12 p13 p14 p15 p16 p17 p18 p19 p20 p21 p22 p23 p24 p25 p26 p27 p28 p29 p30 p31 p32 p33 p34:String} {e0 e1 e2 e3 e4 e5 e6 e7 e8 e9 e10 e11 e12 e13 e14 e15 e16 e17 e18 e19 e20 e21 e22 e23 e24 e25 e26 e27 e28 e29 e30 e31 e32 e33 e34:Array Edge}
    (hf:P.funcs[f]?=some fn) (hname:(fn.name == "runtime.NumGoroutine")=false) (hres:fn.results = #[.tmp 2]) (hN:fn.ntmps=32)
    (hbody:fn.body=some (.seq (Code.region i0 ⟨[oA 2 (.const (.bool false)) t0 p0 e0]⟩ false) (.seq (.seq (Code.region i1 ⟨[oM 4 0 t1 p1 e1,⟨some 5,.nilCheck (.tmp 4),t2,p2,e2,none⟩,
    oF 6 T216 5 0 t3 p3 e3,
    oL 7 T22 6 t4 p4 e4,⟨some 8,.call ⟨.builtin .len,#[(.tmp 7)],#[T22]⟩,t5,p5,e5,none⟩,⟨some 9,.binOp .lss T3 (.tmp 8) (.const (.int .i64 1)) T3,t6,p6,e6,none⟩]⟩ false) (.cond (.tmp 9) (.seq (Code.region i2 ⟨[oM 10 0 t7 p7 e7,⟨some 11,.nilCheck (.tmp 10),t8,p8,e8,none⟩,
    oF 12 T216 11 1 t9 p9 e9,⟨none,.store T4 (.tmp 12) (.const (.bool true)),t10,p10,e10,none⟩]⟩ false) (.seq (Code.region i3 ⟨[oM 13 0 t11 p11 e11,⟨some 14,.nilCheck (.tmp 13),t12,p12,e12,none⟩,
    oF 15 T216 14 0 t13 p13 e13,⟨none,.store T22 (.tmp 15) (.const (.slice none 0 0)),t14,p14,e14,none⟩]⟩ false) (.seq (Code.region i4 ⟨[oA 2 (.const (.bool false)) t15 p15 e15]⟩ false) .ret))) .skip)) (.seq (Code.region i5 ⟨[oM 16 0 t16 p16 e16,⟨some 17,.nilCheck (.tmp 16),t17,p17,e17,none⟩,
    oF 18 T216 17 0 t18 p18 e18,
    oL 19 T22 18 t19 p19 e19,⟨some 20,.indexAddr T22 (.tmp 19) (.const (.int .i64 0)),t20,p20,e20,none⟩,
    oL 21 T5 20 t21 p21 e21,⟨some 22,.binOp .neq T5 (.tmp 21) (.const (.int .u8 0)) T5,t22,p22,e22,none⟩,
    oT 3 22 t23 p23 e23]⟩ false) (.seq (Code.region i6 ⟨[oM 23 0 t24 p24 e24,
    oM 24 0 t25 p25 e25,⟨some 25,.nilCheck (.tmp 24),t26,p26,e26,none⟩,
    oF 26 T216 25 0 t27 p27 e27,
    oL 27 T22 26 t28 p28 e28,⟨some 28,.slice T22 (.tmp 27) (some (.const (.int .i64 1))) none none,t29,p29,e29,none⟩,⟨some 29,.nilCheck (.tmp 23),t30,p30,e30,none⟩,
    oF 30 T216 29 0 t31 p31 e31,
    oS T22 30 28 t32 p32 e32]⟩ false) (.seq (Code.region i7 ⟨[oM 31 3 t33 p33 e33,
    oT 2 31 t34 p34 e34]⟩ false) .ret))))))
    (hs:sliceOf P T22 et 1 1=true) (h22:scal P T22=true) (h4:scal P T4=true) (h5:scal P T5=true) (hF0:fieldOf P T216 0 0=true) (hF1:fieldOf P T216 1 1=true):MethV P f (.bool) gBool:=by
  refine ⟨enters_of hf hname hbody,?_⟩;intro w rb sb st h;generalize hg:gBool st=g;have hgone:=h.gone;have hthere:w.there rb 0 2:=h.2.1;obtain ⟨q,cap,c0,c1,fz0,fz1,hrb⟩:=h.slice;refine calls_of_wp hf hbody ?_;generalize ha0:({ tmps:=#[Value.pointer (some ⟨rb,0,none⟩)]++Array.replicate (fn.ntmps - #[Value.pointer (some ⟨rb,0,none⟩)].size) undef,defers:=[] }:Act)=a0;have hsz:a0.tmps.size=32:=by subst ha0;simp[hN]
  have hd0:a0.defers=[]:=by subst ha0;rfl
  have g0:get a0 0 = .pointer (some ⟨rb,0,none⟩):=by subst ha0;exact gAr rfl
  refine tId (wp_seq_k fun K1 hK1=>?_);refine r_const (m:=2) (by omega) (by omega) fun a1 k1 _=>hK1 a1 w (tUp ?_);have hz1:=k1.size;have g1:get a1 0 = .pointer (some ⟨rb,0,none⟩):=by rw[k1.get 0 (by omega),g0]
  refine tId (wp_seq_k fun K2 hK2=>?_);refine wS fun K3 hK3=>?_;rw[wCo,wMw,eTm,g1,wCo];refine wNc (q:=⟨rb,0,none⟩) (by rw[eTm,gQ]) ?_;refine wC (wFa (b:=rb) (i:=0) hF0 (by rw[eTm,gQ]) ?_);refine wC (wp_load h22 (b:=rb) (o:=0) (v:=.slice q st.xs.length cap) (by rw[eTm,gQ]) c0 ?_);refine wC (wp_len hs (by rw[eTm,gQ]) ?_);refine wC (wp_lss (k1:=.i64) (i:=st.xs.length) (j:=1) (by rw[eTm,gQ]) rfl ?_);rw[wNi];generalize ha2:(((((a1.put (some 4) (.pointer (some ⟨rb,0,none⟩))).put (some 5) (.pointer (some ⟨rb,0,none⟩))).put (some 6) (.pointer (some ⟨rb,0+0,none⟩))).put (some 7) (.slice q st.xs.length cap)).put (some 8) (.int .i64 st.xs.length)).put (some 9) (.bool (decide ((st.xs.length:Int) < 1)))=a2;have k2:Kept 4 a1 a2:=by subst ha2;exact (((((Kept.put0 (by omega) _).put (by omega) _).put (by omega) _).put (by omega) _).put (by omega) _).put (by omega) _
  have q9:get a2 9 = .bool (decide ((st.xs.length:Int) < 1)):=by subst ha2;exact gQ
  have hz2:=k2.size;have g2:get a2 0 = .pointer (some ⟨rb,0,none⟩):=by rw[k2.get 0 (by omega),g1]
  have hd2:a2.defers=[]:=by rw[k2.defers,k1.defers,hd0]
  refine hK3 a2 w ?_;refine wp_cond_split (t:=decide ((st.xs.length:Int) < 1)) (by rw[eTm,q9]) (fun hz=>?_) fun hz=>wp_skip (hK2 a2 w (tUp ?_))
  · have hx : st.xs = [] := List.eq_nil_of_length_eq_zero (by simp at hz; omega);obtain rfl : g = (.n 0, .fail) := by rw [← hg]; simp [gBool, hx]
    refine wS fun K5 hK5=>?_;rw[wCo,wMw,eTm,g2,wCo];refine wNc (q:=⟨rb,0,none⟩) (by rw[eTm,gQ]) ?_;refine wC (wFa (b:=rb) (i:=0) hF1 (by rw[eTm,gQ]) ?_);refine wC (wp_store h4 (b:=rb) (o:=0+1) (v:=.bool true) (by rw[eTm,gQ]) rfl rfl (there_part hthere (by omega) (by omega)) ?_);rw[pNo,wNi];generalize ha4:((a2.put (some 10) (.pointer (some ⟨rb,0,none⟩))).put (some 11) (.pointer (some ⟨rb,0,none⟩))).put (some 12) (.pointer (some ⟨rb,0+1,none⟩))=a4;have k4:Kept 4 a2 a4:=by subst ha4;exact ((Kept.put0 (by omega) _).put (by omega) _).put (by omega) _
    have hz4:=k4.size;refine hK5 a4 _ ?_;refine wS fun K6 hK6=>?_;rw[wCo,wMw,eTm,k4.get 0 (by omega),g2,wCo];refine wNc (q:=⟨rb,0,none⟩) (by rw[eTm,gQ]) ?_;refine wC (wFa (b:=rb) (i:=0) hF0 (by rw[eTm,gQ]) ?_);refine wC (wp_store h22 (b:=rb) (o:=0+0) (v:=.slice none 0 0) (by rw[eTm,gQ]) rfl rfl (there_part ((Fr.set w rb (0+1) (.bool true)).there hthere) (by omega) (by omega)) ?_);rw[pNo,wNi];generalize ha5:((a4.put (some 13) (.pointer (some ⟨rb,0,none⟩))).put (some 14) (.pointer (some ⟨rb,0,none⟩))).put (some 15) (.pointer (some ⟨rb,0+0,none⟩))=a5;have k5:Kept 4 a4 a5:=by subst ha5;exact ((Kept.put0 (by omega) _).put (by omega) _).put (by omega) _
    have hz5:=k5.size;refine hK6 a5 _ ?_;refine wp_seq_k fun K7 hK7=>?_;refine r_const (m:=2) (by omega) (by omega) fun a6 k6 g6=>hK7 a6 _ ?_;exact wp_ret ⟨by rw[k6.defers,k5.defers,k4.defers,hd2],_,results_one hres,_,rfl,by rw[g6];exact ⟨false,rfl,rfl⟩,hgone.1,hgone.2⟩
  obtain ⟨c,r,hx⟩:∃ c r,st.xs=c::r:=by
    cases hx:st.xs with
    | nil=>simp[hx] at hz
    | cons c r=>exact ⟨c,r,rfl⟩
  have hne:st.xs ≠ []:=by rw[hx];simp
  obtain ⟨o,cap',hc',_,_,_,_,hsb,hcap,hr,hnil⟩:=h.some hne;have hsv:(Value.slice q st.xs.length cap) = .slice (some ⟨sb,o,none⟩) st.xs.length cap':=by rw[hc'] at c0;exact (Option.some.inj c0).symm
  obtain ⟨rfl,rfl⟩:q=some ⟨sb,o,none⟩∧cap=cap':=by simpa using hsv
  have hoc:w.cell? ⟨sb,o+0,none⟩=some (.int .u8 c.toNat):=hr 0 _ (by rw[hx];rfl);have hlen:0 < st.xs.length:=List.length_pos_iff.2 hne;have hc256:c.toNat < 256:=c.toNat_lt;refine wT fun K5 hK5=>?_;rw[wCo,wMw,eTm,g2,wCo];refine wNc (q:=⟨rb,0,none⟩) (by rw[eTm,gQ]) ?_;refine wC (wFa (b:=rb) (i:=0) hF0 (by rw[eTm,gQ]) ?_);refine wC (wp_load h22 (b:=rb) (o:=0) (v:=.slice (some ⟨sb,o,none⟩) st.xs.length cap) (by rw[eTm,gQ]) c0 ?_);refine wC (wp_indexAddr hs (b:=sb) (o:=o) (len:=st.xs.length) (cap:=cap) (k1:=.i64) (i:=0) (by rw[eTm,gQ]) rfl (by omega) (by omega) ?_);refine wC (wp_load h5 (b:=sb) (o:=o+0) (v:=.int .u8 c.toNat) (by rw[eTm,gQ];simp) hoc ?_);refine wC (wp_neq (k1:=.u8) (i:=(c.toNat:Int)) (j:=0) (by rw[eTm,gQ]) rfl ?_);rw[wCo];rw[wAg,eTm,gQ,wNi];generalize ha3:(((((((a2.put (some 16) (.pointer (some ⟨rb,0,none⟩))).put (some 17) (.pointer (some ⟨rb,0,none⟩))).put (some 18) (.pointer (some ⟨rb,0+0,none⟩))).put (some 19) (.slice (some ⟨sb,o,none⟩) st.xs.length cap)).put (some 20) (.pointer (some ⟨sb,o+(0:Int).toNat * 1,none⟩))).put (some 21) (.int .u8 c.toNat)).put (some 22) (.bool ((c.toNat:Int) != 0))).put (some 3) (.bool ((c.toNat:Int) != 0))=a3;have k3:Kept 3 a2 a3:=by subst ha3;exact (((((((Kept.put0 (by omega) _).put (by omega) _).put (by omega) _).put (by omega) _).put (by omega) _).put (by omega) _).put (by omega) _).put (by omega) _
  have q3:get a3 3 = .bool ((c.toNat:Int) != 0):=by subst ha3;exact gQ
  have hz3:=k3.size;have g3:get a3 0 = .pointer (some ⟨rb,0,none⟩):=by rw[k3.get 0 (by omega),g2]
  refine hK5 a3 w (tUp ?_);refine wT fun K6 hK6=>?_;rw[wCo,wMw,eTm,g3,wCo,wMw,eTm,gR,g3,wCo];refine wNc (q:=⟨rb,0,none⟩) (by rw[eTm,gQ]) ?_;refine wC (wFa (b:=rb) (i:=0) hF0 (by rw[eTm,gQ]) ?_);refine wC (wp_load h22 (b:=rb) (o:=0) (v:=.slice (some ⟨sb,o,none⟩) st.xs.length cap) (by rw[eTm,gQ]) c0 ?_);refine wC (wp_sliceLo (q:=some ⟨sb,o,none⟩) (len:=st.xs.length) (cap:=cap) (l:=1) (k1:=.i64) hs (by rw[eTm,gQ]) rfl (by omega) ?_);refine wC (wNc (q:=⟨rb,0,none⟩) (by rw[eTm,gR,gR,gR,gR,gR,gQ]) ?_);refine wC (wFa (b:=rb) (i:=0) hF0 (by rw[eTm,gQ]) ?_);rw[wCo];generalize hvv:Value.slice (if cap=1 then some ⟨sb,o,none⟩ else Option.map (fun y:Addr=>y.add (1 * 1)) (some ⟨sb,o,none⟩)) (st.xs.length - 1) (cap - 1)=vv;have hvv':vv = .slice (if cap=1 then some ⟨sb,o,none⟩ else some ⟨sb,o+1,none⟩) (st.xs.length - 1) (cap - 1):=by rw[← hvv];simp[add_addr]
  have hone:vv.oneCell'=true:=by rw[hvv'];rfl
  refine wp_store h22 (b:=rb) (o:=0+0) (v:=vv) (by rw[eTm,gQ]) (by rw[eTm,gR,gR,gQ]) hone (there_part hthere (by omega) (by omega)) ?_;rw[pNo,wNi];have hon:=h.on (w1:=w) (k:=1) c0 hr hcap hnil (by omega) (Fr.refl _ _) hvv';generalize ha4:((((((((a3.put (some 23) (.pointer (some ⟨rb,0,none⟩))).put (some 24) (.pointer (some ⟨rb,0,none⟩))).put (some 25) (.pointer (some ⟨rb,0,none⟩))).put (some 26) (.pointer (some ⟨rb,0+0,none⟩))).put (some 27) (.slice (some ⟨sb,o,none⟩) st.xs.length cap)).put (some 28) vv).put (some 29) (.pointer (some ⟨rb,0,none⟩))).put (some 30) (.pointer (some ⟨rb,0+0,none⟩)))=a4;have k4:Kept 4 a3 a4:=by subst ha4;exact (((((((Kept.put0 (by omega) _).put (by omega) _).put (by omega) _).put (by omega) _).put (by omega) _).put (by omega) _).put (by omega) _).put (by omega) _
  have hz4:=k4.size;refine hK6 a4 _ (tUp ?_);refine wT fun K7 hK7=>?_;rw[wCo,wMw,eTm,k4.get 3 (by omega),q3,wCo];rw[wAg,eTm,gPs (by first | omega | (simp only[sPu];omega)),wNi];refine hK7 _ _ (wp_ret ?_);have hgr:g.2={ st with xs:=st.xs.drop 1 }:=by rw[← hg];simp[gBool,hx]
  refine ⟨by simp only[dPu];rw[k4.defers,k3.defers,hd2],_,results_one hres,_,rfl,?_,by rw[hgr];exact hon.1,hon.2⟩;rw[gQ,← hg];refine ⟨(c.toNat:Int) != 0,rfl,?_⟩;simp[gBool,hx]
end Go.Kq

namespace Go.Kq
open Go Go.Proofs
theorem wp_slice00 {P:Program} {T e sz bs:Nat} {a:Act} {w:World} {K:Act→World→Prop} {Q:Exit→Act→World→Prop} {d:Option Tmp} {t:TypeId} {p:String} {af:Array Edge} {g:Option (Nat × Bool)} (hT:sliceOf P T e sz bs=true)
    (k:K (a.put d (.slice (some ⟨w.heap.size,0,none⟩) 0 0)) (w.alloc (.cells #[] e))):OW P ⟨d,.buildSlice T 0 #[],t,p,af,g⟩ a w K Q:=by
  obtain ⟨hu,i,z0,hi,hs,hby,hzz,hsz0⟩:=under_slice hT;refine wp_val (v:=.slice (some ⟨w.heap.size,0,none⟩) 0 0) (w':=w.alloc (.cells #[] e)) ?_ k;simp[execOp,Instr.buildSlice,run_underlying hu,sizeOf,typeInfo,hi,Instr.fill,newRow,newObj,Sem.run]
  congr 2
  exact Array.eq_empty_of_size_eq_zero (by simp)
end Go.Kq

namespace Go.Kq
open Go Go.Proofs
def gBytes (st:RSt):V × RSt:=if (rdNum .i32 4 st).1 = -1 then (.s [],(rdNum .i32 4 st).2) else (.oct (rdSpan (rdNum .i32 4 st).1 (rdNum .i32 4 st).2).1,(rdSpan (rdNum .i32 4 st).1 (rdNum .i32 4 st).2).2)
def gCBytes (st:RSt):V × RSt:=if ((rdUv st).1:Int) - 1 = -1 then (.s [],(rdUv st).2) else (.oct (rdSpan (((rdUv st).1:Int) - 1) (rdUv st).2).1,(rdSpan (((rdUv st).1:Int) - 1) (rdUv st).2).2)
theorem Rep.i32 {w:World} {A:Nat→Prop} {v:Value} {n:Int} (h:Rep w A (.int .i32) [v] (.n n)):v = .int .i32 n:=by
  obtain ⟨i,h1,h2,_⟩:=h;simp at h1 h2
  rw[h1,h2]
set_option maxRecDepth 10000 in
theorem bytes_m {P:Program} {f:FuncId} {fn:Func} {et:TypeId}
    {T3 T21 T22:TypeId}
    {f218 f279:FuncId}
    {a0:Array TypeId}
    {a1:Array TypeId}
    {i0 i1 i2 i3 i4:Nat}
    {t0 t1 t2 t3 t4 t5 t6 t7 t8 t9 t10 t11 t12:TypeId} {p0 p1 p2 p3 p4 p5 p6 p7 p8 p9 p10 p11 p12:String} {e0 e1 e2 e3 e4 e5 e6 e7 e8 e9 e10 e11 e12:Array Edge}
    (hf:P.funcs[f]?=some fn) (hname:(fn.name == "runtime.NumGoroutine")=false) (hres:fn.results = #[.tmp 2]) (hN:fn.ntmps=13)
    (hbody:fn.body=some (.seq (Code.region i0 ⟨[oA 2 (.const (.slice none 0 0)) t0 p0 e0]⟩ false) (.seq (Code.region i1 ⟨[oM 4 0 t1 p1 e1,
    oC 5 f218 #[(.tmp 4)] a0 t2 p2 e2,
    oT 3 5 t3 p3 e3]⟩ false) (.seq (.seq (Code.region i2 ⟨[oM 6 3 t4 p4 e4,⟨some 7,.binOp .eql T21 (.tmp 6) (.const (.int .i32 (-1))) T21,t5,p5,e5,none⟩]⟩ false) (.cond (.tmp 7) (.seq (Code.region i3 ⟨[⟨some 8,.buildSlice T22 0 #[],t6,p6,e6,none⟩,
    oT 2 8 t7 p7 e7]⟩ false) .ret) .skip)) (.seq (Code.region i4 ⟨[oM 9 0 t8 p8 e8,
    oM 10 3 t9 p9 e9,⟨some 11,.convert T21 T3 (.tmp 10),t10,p10,e10,none⟩,
    oC 12 f279 #[(.tmp 9),(.tmp 11)] a1 t11 p11 e11,
    oT 2 12 t12 p12 e12]⟩ false) .ret)))))
    (h3:intOf P T3 .i64=true) (h21:intOf P T21 .i32=true) (hu:MethV P f218 (.int .i32) (gNum .i32 4)) (hsp:SpanM P f279) (h22:sliceOf P T22 et 1 1=true):MethV P f .bytes gBytes:=by
  refine ⟨enters_of hf hname hbody,?_⟩;intro w rb sb st h;generalize hg:gBytes st=g;unfold gBytes at hg;refine calls_of_wp hf hbody ?_;generalize ha0:({ tmps:=#[Value.pointer (some ⟨rb,0,none⟩)]++Array.replicate (fn.ntmps - #[Value.pointer (some ⟨rb,0,none⟩)].size) undef,defers:=[] }:Act)=a0;have hsz:a0.tmps.size=13:=by subst ha0;simp[hN]
  have hd0:a0.defers=[]:=by subst ha0;rfl
  have g0:get a0 0 = .pointer (some ⟨rb,0,none⟩):=by subst ha0;exact gAr rfl
  refine tId (wp_seq_k fun K1 hK1=>?_);refine r_const (m:=2) (by omega) (by omega) fun a1 k1 _=>hK1 a1 w (tUp ?_);have hz1:=k1.size;have g1:get a1 0 = .pointer (some ⟨rb,0,none⟩):=by rw[k1.get 0 (by omega),g0]
  refine wT fun K2 hK2=>?_;rw[wCo,wMw,eTm,g1,wCo];refine wp_calls (R:=fun x w'=>x = .int .i32 (rdNum .i32 4 st).1∧RW w' rb sb (rdNum .i32 4 st).2∧Fr [⟨rb,0,2⟩] w w') hu.enters (vs:=#[.pointer (some ⟨rb,0,none⟩)]) (by simp only[List.map_toArray,List.map_cons,List.map_nil,eTm];rw[gQ])
    ((hu.call w rb sb st h).mono (by rintro e' w' ⟨x,rfl,h1,h2,h3⟩;exact ⟨_,rfl,h1.i32,h2,h3⟩)) ?_
  rintro _ w1 ⟨rfl,hr1,f1⟩;have hb:=rdNum_i32 st;generalize (rdNum .i32 4 st).1=z at *;generalize (rdNum .i32 4 st).2=s at *;rw[wCo,wAg,eTm,gQ,wNi];generalize ha2:((a1.put (some 4) (.pointer (some ⟨rb,0,none⟩))).put (some 5) (.int .i32 z)).put (some 3) (.int .i32 z)=a2;have k2:Kept 2 a1 a2:=by subst ha2;exact ((Kept.put0 (by omega) _).put (by omega) _).put (by omega) _
  have q3:get a2 3 = .int .i32 z:=by subst ha2;exact gQ
  have hz2:=k2.size;have g2:get a2 0 = .pointer (some ⟨rb,0,none⟩):=by rw[k2.get 0 (by omega),g1]
  have hd2:a2.defers=[]:=by rw[k2.defers,k1.defers,hd0]
  refine hK2 a2 w1 (tUp ?_);refine tId (wp_seq_k fun K3 hK3=>?_);refine wS fun K4 hK4=>?_;rw[wCo,wMw,eTm,q3,wCo];refine wp_eql (k1:=.i32) (i:=z) (j := -1) (by rw[eTm,gQ]) rfl ?_;rw[wNi];have k3:Kept 4 a2 ((a2.put (some 6) (.int .i32 z)).put (some 7) (.bool (z == -1))):=(Kept.put0 (by omega) _).put (by omega) _;have qc:get ((a2.put (some 6) (.int .i32 z)).put (some 7) (.bool (z == -1))) 7 = .bool (z == -1):=gQ;generalize (a2.put (some 6) (.int .i32 z)).put (some 7) (.bool (z == -1))=a3 at k3 qc ⊢;have hz3:=k3.size;have g3:get a3 0 = .pointer (some ⟨rb,0,none⟩):=by rw[k3.get 0 (by omega),g2]
  have r3:get a3 3 = .int .i32 z:=by rw[k3.get 3 (by omega),q3]
  have hd3:a3.defers=[]:=by rw[k3.defers,hd2]
  have sz1:=f1.size;refine hK4 a3 w1 ?_;refine wp_cond_split (t:=(z == -1)) (by rw[eTm,qc]) (fun hz=>?_) fun hz=>wp_skip (hK3 a3 w1 (tUp ?_))
  · have hz : z = -1 := by simpa using hz
    rw[if_pos hz] at hg;subst hg;refine wS fun K5 hK5=>?_;refine wC (wp_slice00 h22 ?_);rw[wCo,wAg,eTm,gQ,wNi];have fa:=Fr.alloc [] w1 (.cells #[] et);have sza:=size_alloc w1 (.cells #[] et);generalize w1.alloc (.cells #[] et)=w2 at fa sza ⊢;refine hK5 _ w2 (wp_ret ?_);refine ⟨by simp only[dPu];exact hd3,_,results_one hres,_,rfl,?_,hr1.kept fa (by simp),f1.tr fa.nil⟩;rw[gQ];exact ⟨_,some [],rfl,.inr ⟨w1.heap.size,0,0,[],.inr ⟨sz1,by omega⟩,rfl,⟨by simp,by simp⟩,(by intro j u hj;simp[octets] at hj),rfl⟩,rfl⟩
  have hz:¬ z = -1:=by simpa using hz
  rw[if_neg hz] at hg;subst hg;refine wT fun K6 hK6=>?_;rw[wCo,wMw,eTm,g3,wCo,wMw,eTm,gR,r3,wCo];refine wCv (k1:=.i32) (i:=z) h21 h3 (by rw[eTm,gQ]) ?_;rw[wrap64 (by omega),wCo];refine wp_calls hsp.enters (vs:=#[.pointer (some ⟨rb,0,none⟩),.int .i64 z]) (by simp only[List.map_toArray,List.map_cons,List.map_nil,eTm];rw[gR,gR,gQ,gQ]) (hsp.call w1 rb sb s z hr1) ?_;rintro sv w2 ⟨ho,hr2,f2⟩;rw[wCo,wAg,eTm,gQ,wNi];refine hK6 _ _ (wp_ret ?_);refine ⟨by simp only[dPu];exact hd3,_,results_one hres,_,rfl,?_,hr2,f1.tr f2⟩;rw[gQ];exact ⟨_,_,rfl,ho.kept (Fr.refl [] w2) (by simp) (fun b hb=>.inl hb),rfl⟩
set_option maxRecDepth 10000 in
theorem cbytes_m {P:Program} {f:FuncId} {fn:Func} {et:TypeId}
    {T3 T22 T61:TypeId}
    {f279 f287:FuncId}
    {a0:Array TypeId}
    {a1:Array TypeId}
    {i0 i1 i2 i3 i4:Nat}
    {t0 t1 t2 t3 t4 t5 t6 t7 t8 t9 t10 t11 t12 t13:TypeId} {p0 p1 p2 p3 p4 p5 p6 p7 p8 p9 p10 p11 p12 p13:String} {e0 e1 e2 e3 e4 e5 e6 e7 e8 e9 e10 e11 e12 e13:Array Edge}
    (hf:P.funcs[f]?=some fn) (hname:(fn.name == "runtime.NumGoroutine")=false) (hres:fn.results = #[.tmp 2]) (hN:fn.ntmps=14)
    (hbody:fn.body=some (.seq (Code.region i0 ⟨[oA 2 (.const (.slice none 0 0)) t0 p0 e0]⟩ false) (.seq (Code.region i1 ⟨[oM 4 0 t1 p1 e1,
    oC 5 f287 #[(.tmp 4)] a0 t2 p2 e2,⟨some 6,.convert T61 T3 (.tmp 5),t3,p3,e3,none⟩,⟨some 7,.binOp .sub T3 (.tmp 6) (.const (.int .i64 1)) T3,t4,p4,e4,none⟩,
    oT 3 7 t5 p5 e5]⟩ false) (.seq (.seq (Code.region i2 ⟨[oM 8 3 t6 p6 e6,⟨some 9,.binOp .eql T3 (.tmp 8) (.const (.int .i64 (-1))) T3,t7,p7,e7,none⟩]⟩ false) (.cond (.tmp 9) (.seq (Code.region i3 ⟨[⟨some 10,.buildSlice T22 0 #[],t8,p8,e8,none⟩,
    oT 2 10 t9 p9 e9]⟩ false) .ret) .skip)) (.seq (Code.region i4 ⟨[oM 11 0 t10 p10 e10,
    oM 12 3 t11 p11 e11,
    oC 13 f279 #[(.tmp 11),(.tmp 12)] a1 t12 p12 e12,
    oT 2 13 t13 p13 e13]⟩ false) .ret)))))
    (h3:intOf P T3 .i64=true) (h61:intOf P T61 .u32=true) (hu:MethV P f287 (.int .u32) gUv) (hsp:SpanM P f279) (h22:sliceOf P T22 et 1 1=true):MethV P f .bytes gCBytes:=by
  refine ⟨enters_of hf hname hbody,?_⟩;intro w rb sb st h;generalize hg:gCBytes st=g;unfold gCBytes at hg;refine calls_of_wp hf hbody ?_;generalize ha0:({ tmps:=#[Value.pointer (some ⟨rb,0,none⟩)]++Array.replicate (fn.ntmps - #[Value.pointer (some ⟨rb,0,none⟩)].size) undef,defers:=[] }:Act)=a0;have hsz:a0.tmps.size=14:=by subst ha0;simp[hN]
  have hd0:a0.defers=[]:=by subst ha0;rfl
  have g0:get a0 0 = .pointer (some ⟨rb,0,none⟩):=by subst ha0;exact gAr rfl
  refine tId (wp_seq_k fun K1 hK1=>?_);refine r_const (m:=2) (by omega) (by omega) fun a1 k1 _=>hK1 a1 w (tUp ?_);have hz1:=k1.size;have g1:get a1 0 = .pointer (some ⟨rb,0,none⟩):=by rw[k1.get 0 (by omega),g0]
  refine wT fun K2 hK2=>?_;rw[wCo,wMw,eTm,g1,wCo];refine wp_calls (R:=fun x w'=>x = .int .u32 ((rdUv st).1:Int)∧RW w' rb sb (rdUv st).2∧Fr [⟨rb,0,2⟩] w w') hu.enters (vs:=#[.pointer (some ⟨rb,0,none⟩)]) (by simp only[List.map_toArray,List.map_cons,List.map_nil,eTm];rw[gQ])
    ((hu.call w rb sb st h).mono (by rintro e' w' ⟨x,rfl,h1,h2,h3⟩;exact ⟨_,rfl,h1.u32,h2,h3⟩)) ?_
  rintro _ w1 ⟨rfl,hr1,f1⟩;have hlt:=rdUv_lt st;generalize (rdUv st).1=x at *;generalize (rdUv st).2=s at *;refine wC (wCv (k1:=.u32) (i:=(x:Int)) h61 h3 (by rw[eTm,gQ]) ?_);rw[wrap64 (by omega),wCo];refine wp_sub (k1:=.i64) (i:=(x:Int)) (j:=1) (by rw[eTm,gQ]) rfl ?_;rw[wrap64 (by omega),wCo,wAg,eTm,gQ,wNi];generalize hzz:(x:Int) - 1=z at *;have hb : -9223372036854775808≤z∧z≤9223372036854775807:=by omega
  generalize ha2:((((a1.put (some 4) (.pointer (some ⟨rb,0,none⟩))).put (some 5) (.int .u32 (x:Int))).put (some 6) (.int .i64 (x:Int))).put (some 7) (.int .i64 z)).put (some 3) (.int .i64 z)=a2;have k2:Kept 2 a1 a2:=by subst ha2;exact ((((Kept.put0 (by omega) _).put (by omega) _).put (by omega) _).put (by omega) _).put (by omega) _
  have q3:get a2 3 = .int .i64 z:=by subst ha2;exact gQ
  have hz2:=k2.size;have g2:get a2 0 = .pointer (some ⟨rb,0,none⟩):=by rw[k2.get 0 (by omega),g1]
  have hd2:a2.defers=[]:=by rw[k2.defers,k1.defers,hd0]
  refine hK2 a2 w1 (tUp ?_);refine tId (wp_seq_k fun K3 hK3=>?_);refine wS fun K4 hK4=>?_;rw[wCo,wMw,eTm,q3,wCo];refine wp_eql (k1:=.i64) (i:=z) (j := -1) (by rw[eTm,gQ]) rfl ?_;rw[wNi];have k3:Kept 4 a2 ((a2.put (some 8) (.int .i64 z)).put (some 9) (.bool (z == -1))):=(Kept.put0 (by omega) _).put (by omega) _;have qc:get ((a2.put (some 8) (.int .i64 z)).put (some 9) (.bool (z == -1))) 9 = .bool (z == -1):=gQ;generalize (a2.put (some 8) (.int .i64 z)).put (some 9) (.bool (z == -1))=a3 at k3 qc ⊢;have hz3:=k3.size;have g3:get a3 0 = .pointer (some ⟨rb,0,none⟩):=by rw[k3.get 0 (by omega),g2]
  have r3:get a3 3 = .int .i64 z:=by rw[k3.get 3 (by omega),q3]
  have hd3:a3.defers=[]:=by rw[k3.defers,hd2]
  have sz1:=f1.size;refine hK4 a3 w1 ?_;refine wp_cond_split (t:=(z == -1)) (by rw[eTm,qc]) (fun hz=>?_) fun hz=>wp_skip (hK3 a3 w1 (tUp ?_))
  · have hz : z = -1 := by simpa using hz
    rw[if_pos hz] at hg;subst hg;refine wS fun K5 hK5=>?_;refine wC (wp_slice00 h22 ?_);rw[wCo,wAg,eTm,gQ,wNi];have fa:=Fr.alloc [] w1 (.cells #[] et);have sza:=size_alloc w1 (.cells #[] et);generalize w1.alloc (.cells #[] et)=w2 at fa sza ⊢;refine hK5 _ w2 (wp_ret ?_);refine ⟨by simp only[dPu];exact hd3,_,results_one hres,_,rfl,?_,hr1.kept fa (by simp),f1.tr fa.nil⟩;rw[gQ];exact ⟨_,some [],rfl,.inr ⟨w1.heap.size,0,0,[],.inr ⟨sz1,by omega⟩,rfl,⟨by simp,by simp⟩,(by intro j u hj;simp[octets] at hj),rfl⟩,rfl⟩
  have hz:¬ z = -1:=by simpa using hz
  rw[if_neg hz] at hg;subst hg;refine wT fun K6 hK6=>?_;rw[wCo,wMw,eTm,g3,wCo,wMw,eTm,gR,r3,wCo];refine wp_calls hsp.enters (vs:=#[.pointer (some ⟨rb,0,none⟩),.int .i64 z]) (by simp only[List.map_toArray,List.map_cons,List.map_nil,eTm];rw[gR,gQ,gQ]) (hsp.call w1 rb sb s z hr1) ?_;rintro sv w2 ⟨ho,hr2,f2⟩;rw[wCo,wAg,eTm,gQ,wNi];refine hK6 _ _ (wp_ret ?_);refine ⟨by simp only[dPu];exact hd3,_,results_one hres,_,rfl,?_,hr2,f1.tr f2⟩;rw[gQ];exact ⟨_,_,rfl,ho.kept (Fr.refl [] w2) (by simp) (fun b hb=>.inl hb),rfl⟩
end Go.Kq

namespace Go.Kq
open Go Go.Proofs Go.Shelf
def ltN (x y:Nat):Bool:=decide (x < y)
theorem swo_ltN:Sort.SWO ltN where
  irrefl x:=by simp[ltN]
  trans x y z h1 h2:=by simp only[ltN,decide_eq_true_eq] at *;omega
  ntrans x y z h1 h2:=by simp only[ltN,decide_eq_false_iff_not] at *;omega
theorem Fr.growth (w:World) (os:Array Obj):Fr [] w (Sort.grow w os) where
  os:=rfl
  tape:=rfl
  output:=rfl
  size:=by rw[Sort.size_grow];omega
  block k hk _:=Sort.heap_grow_old w os hk
  cells k cs T fz hk:=⟨cs,by rw[Sort.heap_grow_old w os (lt_of_block hk)];exact hk,rfl,fun _ _=>rfl⟩
theorem Fr.drewN (w:World) (n:Nat):Fr [] w (w.drewN n) where
  os:=rfl
  tape:=rfl
  output:=rfl
  size:=Nat.le_refl _
  block _ _ _:=rfl
  cells k cs T fz hk:=⟨cs,hk,rfl,fun _ _=>rfl⟩
structure LessM (P:Program) (g:FuncId):Prop where
  enters:Enters P g
  call:∀ (W:World) (ob b o c n:Nat) (G:Nat→Nat),W.cell? ⟨ob,0,none⟩=some (.slice (some ⟨b,o,none⟩) n c)→(∀ t,t < n→W.cell? ⟨b,o+t,none⟩=some (.int .u32 ((G t:Nat):Int)))→∀ i j:Nat,i < n→j < n →
    Calls P g #[.int .i64 (i:Int),.int .i64 (j:Int),.pointer (some ⟨ob,0,none⟩)] W fun e w'=>e = .returned (.bool (decide (G i < G j)))∧∃ q,w'=W.drewN q
def encK (k:Nat):Value:=.int .u32 (k:Int)
theorem u32s_enc (ks:List Nat):u32s ks=ks.map encK:=rfl
theorem sort_m {P:Program} {ρ:Ren} (L:LaysGg.n6 P ρ) {t e:TypeId} {i ie:TypeInfo} {fs g f2 f6:FuncId} (hfs:ρ.f 6=fs) (he:Enters P fs)
    (hi:P.info? t=some i) (hd:i.desc = .slice e) (hpk:P.packed t=false) (hie:P.info? e=some ie) (hke:∀ w,(Extern.Rtype.kind e).run P w = .ok 10 w) (hs1:ie.size=1) (hp:ie.hasPointers=false) (hb:ie.bytes=4) (hagg:∀ w,(isAgg e).run P w = .ok false w)
    (hf2:P.funcs.findIdx? (·.name == "internal/reflectlite" ++ ".Swapper$"++toString 2)=some f2) (hf6:P.funcs.findIdx? (·.name == "internal/reflectlite" ++ ".Swapper$"++toString 6)=some f6)
    (gS:Bool) (hx:∀ args W,(callFunc f6 args).run P W=((Extern.ReflectliteSwapper.swap gS args).run P W).andThen fun v w'=>.ok (.value v) w')
    (hl:LessM P g):SortM P t fs g:=by
  refine ⟨he,?_⟩;intro w ob b o c ks hcell hr hth hne h32 hlen hks;subst hfs;have hpos:0 < ks.length:=List.length_pos_iff.2 hks;have hblk:b < w.heap.size:=by
    have:=hr 0 (.int .u32 (ks[0]:Nat)) (by simp[u32s,hpos]);exact lt_of_cell this
  have hH:Sort.Holds encK w b o ks.toArray:=by
    intro j hj;have hj':j < ks.length:=by simpa using hj
    refine ⟨?_,(hth j hj').2⟩;have:=hr j (.int .u32 (ks[j]:Nat)) (by simp[u32s,hj']);rw[this];simp[encK,hj']
  by_cases h2:2≤ks.length
  · have hK:Lib.swapperK ks.toArray.size ie 10=6:=by
      have c1:(ks.toArray.size==0)=false:=by simp;omega
      have c2:(ks.toArray.size==1)=false:=by simp;omega
      simp only[Lib.swapperK,c1,c2,hp,hb,Bool.false_and,Bool.false_eq_true,if_false]
    have hless:LessReads P g #[.pointer (some ⟨ob,0,none⟩)] encK ltN b o ks.toArray.size w:=by
      intro m os dk hs i j hi hj;have e1:sortWorld encK w b o m dk os=Sort.putRow encK (Sort.grow (Sort.ahead w m) os) b o dk:=by
        unfold sortWorld;rw[Sort.putRow_grow _ (Sort.ahead w m) _ b o _ hblk]
      have hHg:Sort.Holds encK (Sort.grow (Sort.ahead w m) os) b o ks.toArray:=Sort.holds_grow _ _ _ b o _ hblk (Sort.holds_ahead _ _ _ _ _ _ hH);rw[show (#[Value.int .i64 (i:Int),Value.int .i64 (j:Int)] ++ #[Value.pointer (some ⟨ob,0,none⟩)]) = #[Value.int .i64 (i:Int),Value.int .i64 (j:Int),Value.pointer (some ⟨ob,0,none⟩)] from by simp];refine hl.call _ ob b o c ks.toArray.size (fun t=>dk[t]!) ?_ (fun t ht=>?_) i j hi hj
      · rw [e1, Sort.cell?_putRow_other _ _ b o dk _ (Or.inl hne), Sort.cell?_grow _ _ _ (lt_of_cell hcell)];show w.cell? _ = _
        rw[hcell];simp
      rw[e1];exact Sort.cell?_putRow _ _ b o ks.toArray dk hHg hs t (by omega)
    have hS:=Any.sort_Slice_sorted L t e i ie hi hd hpk hie 10 hke hs1 hagg encK (fun _=>rfl) ltN swo_ltN g #[.pointer (some ⟨ob,0,none⟩)] hl.enters b o c ks.toArray (by simpa using h2) (by simp;omega) f6 (by rw[hK];exact hf6) gS hx w hless hH hblk;have hsz:ks.toArray.size=ks.length:=by simp
    rw[hsz] at hS;refine hS.mono ?_;rintro e w' ⟨rfl,d',n,os,hpm,hso,rfl⟩;obtain ⟨p1,_,p3⟩:=hpm;have p1':d'.size=ks.length:=by rw[p1,hsz]
    have hperm:d'.toList.Perm ks:=by
      have e1:d'.extract 0 ks.length=d':=by rw[← p1'];simp
      have e2:ks.toArray.extract 0 ks.length=ks.toArray:=by rw[← hsz];simp
      rw[e1,e2] at p3
      simpa using p3
    have hw:Sort.grow (Sort.putRow encK (Sort.ahead w n) b o d') os=Sort.grow ((w.drewN n).setCells b o (u32s d'.toList)) os:=by
      have:=Lib.sorted_world encK w b o n ks.toArray d'.toList os hH (by rw[Array.length_toList,p1]);rw[Array.toArray_toList] at this;rw[this,u32s_enc]
    rw[hw];have f1:=Fr.drewN w n;have f2:=Fr.sets b (u32s d'.toList) (w.drewN n) o;have hul:(u32s d'.toList).length=ks.length:=by simp[u32s,p1']
    have r2:=World.rangeAt_setCells_same (w.drewN n) b o (u32s d'.toList) (by rw[hul];exact f1.there hth);generalize (w.drewN n).setCells b o (u32s d'.toList)=w2 at f2 r2 ⊢;have f3:=Fr.growth w2 os;refine ⟨⟨_,rfl⟩,d'.toList,hperm,?_,f3.range r2 .nil,?_⟩
    · rw [List.pairwise_iff_getElem];intro i j hi hj hij;have hi' : i < d'.size := by simpa using hi
      have hj':j < d'.size:=by simpa using hj
      have:=hso i j (Nat.zero_le _) hij (by omega);simp only[ltN,decide_eq_false_iff_not,getElem!_pos d' i hi',getElem!_pos d' j hj'] at this;simp only[Array.getElem_toList];omega
    refine (f1.nil (l:=[⟨b,o,o+ks.length⟩])).tr (Fr.tr (b:=w2) ?_ (f3.nil));rw[hul] at f2;exact f2
  have h1:ks.length=1:=by omega
  have hK:Lib.swapperK ks.length ie 10=2:=by rw[h1];rfl
  refine (Any.sort_Slice_tiny L t e i ie hi hd hpk hie 10 hke (some ⟨b,o,none⟩) ks.length c (by omega) f2 (by rw[hK];exact hf2) (.func g) #[] #[.pointer (some ⟨ob,0,none⟩)] w).mono ?_;rintro e w' ⟨rfl,os,rfl⟩;have f3:=Fr.growth w os;refine ⟨⟨_,rfl⟩,ks,List.Perm.refl _,?_,f3.range hr .nil,f3.nil⟩;obtain ⟨k,rfl⟩:=List.length_eq_one_iff.1 h1;simp
end Go.Kq

namespace Go.Kq
open Go Go.Proofs
theorem Reps.set {w:World} {A:Nat→Prop}:∀ {tys:List Ty} {z:List Value} {xs:List V} {i:Nat} {ty:Ty} {v:Value} {x:V},Reps w A tys z xs→tys[i]?=some ty→ty.size=1→Rep w A ty [v] x →
    Reps w A tys (z.set (Ty.sizes (tys.take i)) v) (xs.set i x)
  | [],z,xs,i,ty,v,x,_,hi,_,_=>by simp at hi
  | t :: ts, z, xs, i, ty, v, x, h, hi, h1, hx => by
    obtain ⟨c1,c2,y,r,rfl,rfl,h2,h3⟩:=h;have hl:=h2.length
    cases i with
    | zero =>
      simp at hi;subst hi
      rw[h1] at hl;obtain ⟨c,rfl⟩:=List.length_eq_one_iff.1 hl;exact ⟨[v],c2,x,r,rfl,rfl,hx,h3⟩
    | succ i =>
      have hr:=Reps.set h3 (by simpa using hi) h1 hx;refine ⟨c1,c2.set (Ty.sizes (ts.take i)) v,y,r.set i x,?_,rfl,h2,hr⟩;rw[List.take_succ_cons,show Ty.sizes (t::ts.take i)=t.size+Ty.sizes (ts.take i) from rfl,← hl,List.set_append_right _ _ (by omega)]
      congr 2;omega
theorem Reps.setLt {w:World} {A:Nat→Prop}:∀ {tys:List Ty} {z:List Value} {xs:List V} {i:Nat} {ty:Ty},Reps w A tys z xs→tys[i]?=some ty→ty.size=1→Ty.sizes (tys.take i) < z.length
  | [],z,xs,i,ty,_,hi,_=>by simp at hi
  | t :: ts, z, xs, i, ty, h, hi, h1 => by
    obtain ⟨c1,c2,y,r,rfl,rfl,h2,h3⟩:=h;have hl:=h2.length
    cases i with
    | zero=>simp at hi;subst hi;simp[Ty.sizes];omega
    | succ i =>
      have hr:=Reps.setLt h3 (by simpa using hi) h1;rw[List.take_succ_cons,show Ty.sizes (t::ts.take i)=t.size+Ty.sizes (ts.take i) from rfl,List.length_append];omega
def DRun (P:Program) (N:Nat) (c:Code) (tys:List Ty) (d:List V→List V):Prop :=
  ∀ (Q : Exit → Act → World → Prop) (a : Act) (w : World) (b o : Nat) (z : List Value) (xs : List V), a.tmps.size = N → a.defers = [] → get a 0 = .pointer (some ⟨b, o, none⟩) → w.rangeAt b o z → w.there b o z.length → Reps w NoFoot tys z xs →
    (∀ a' w' z',a'.tmps.size=N→a'.defers=[]→get a' 0 = .pointer (some ⟨b,o,none⟩)→z'.length=z.length→w'.rangeAt b o z'→w'.there b o z.length→Reps w' NoFoot tys z' (d xs)→Fr [⟨b,o,o+z.length⟩] w w'→Q .normal a' w')→c.wp P Q a w
theorem range_setAt {w:World} {b o i:Nat} {z:List Value} {v:Value} (hr:w.rangeAt b o z) (ht:w.there b o z.length) (hi:i < z.length):(w.setCell ⟨b,o+i,none⟩ v).rangeAt b o (z.set i v):=by
  have f:=Fr.set w b (o+i) v;intro j u hj
  by_cases hij:i=j
  · subst hij;rw [List.getElem?_set_self hi] at hj;simp at hj; subst hj
    exact range_set (there_part ht (by omega) (by omega))
  rw[List.getElem?_set_ne hij] at hj;exact f.cell (hr j u hj) (.cons (.inr (by simp only;omega)) .nil)
theorem DRun.one {P:Program} {N n k o i i1:Nat} {S T:TypeId} {v:Value} {x:V} {ty:Ty} {tys:List Ty} {t1 t2 t3 t4:TypeId} {p1 p2 p3 p4:String} {e1 e2 e3 e4:Array Edge}
    (hF:fieldOf P S k o=true) (hT:scal P T=true) (hi:tys[i]?=some ty) (h1:ty.size=1) (ho:o=Ty.sizes (tys.take i)) (hv:v.oneCell'=true) (hx:∀ w,Rep w NoFoot ty [v] x) (hb:(decide (0 < n) && decide (n+2 < N))=true) :
    DRun P N (Code.region i1 ⟨[oM n 0 t1 p1 e1,⟨some (n+1),.nilCheck (.tmp n),t2,p2,e2,none⟩,oF (n+2) S (n+1) k t3 p3 e3,⟨none,.store T (.tmp (n+2)) (.const v),t4,p4,e4,none⟩]⟩ false) tys (fun xs=>xs.set i x):=by
  intro Q a w b ob z xs hN hd h0 hz ht hr hk;simp only[Bool.and_eq_true,decide_eq_true_eq] at hb;obtain ⟨b1,b2⟩:=hb;have hlt:=hr.setLt hi h1;subst ho;refine wp_reg ?_;rw[wCo,wMw,eTm,h0,wCo];refine wNc (q:=⟨b,ob,none⟩) (by rw[eTm,gQ]) ?_;refine wC (wFa (b:=b) (i:=ob) hF (by rw[eTm,gQ]) ?_);refine wC (wp_store hT (b:=b) (o:=ob+Ty.sizes (tys.take i)) (v:=v) (by rw[eTm,gQ]) rfl hv (there_part ht (by omega) (by omega)) ?_);rw[pNo,wNi];have f:=Fr.set w b (ob+Ty.sizes (tys.take i)) v;have rg:=range_setAt (v:=v) hz ht hlt;have hr':=(hr.set hi h1 (hx w)).kept f (by intro r _ h;exact h) (fun _ h=>h);generalize w.setCell ⟨b,ob+Ty.sizes (tys.take i),none⟩ v=w1 at f rg hr' ⊢;refine hk _ w1 _ (by simp only[sPu];omega) (by simp only[dPu];exact hd) (by rw[gR,gR,gR,h0]) (by simp) rg (f.there ht) hr' (f.mono ?_);intro r hrr;simp at hrr;subst hrr;exact .inr ⟨_,List.mem_singleton.2 rfl,rfl,by simp,by simp only;omega⟩
theorem def_sets {P:Program} {f:FuncId} {fn:Func} {N:Nat} {c:Code} {tys:List Ty} {d:List V→List V} (hf:P.funcs[f]?=some fn) (hname:(fn.name == "runtime.NumGoroutine")=false) (hr:fn.results = #[]) (hN:fn.ntmps=N) (hN0:(decide (0 < N))=true) (hb:fn.body=some c) (h:DRun P N c tys d):DefM P f tys d:=by
  have hN0:=of_decide_eq_true hN0;refine ⟨enters_of hf hname hb,?_⟩;intro w b o z xs hz ht hr';refine calls_of_wp hf hb ?_;generalize ha0:({ tmps:=#[Value.pointer (some ⟨b,o,none⟩)]++Array.replicate (fn.ntmps - #[Value.pointer (some ⟨b,o,none⟩)].size) undef,defers:=[] }:Act)=a0;have hsz:a0.tmps.size=N:=by subst ha0;simp[hN];omega
  have hd0:a0.defers=[]:=by subst ha0;rfl
  have g0:get a0 0 = .pointer (some ⟨b,o,none⟩):=by subst ha0;exact gAr rfl
  refine h _ a0 w b o z xs hsz hd0 g0 hz ht hr' fun a' w' z' _ d' _ _ r' _ e' f'=>?_;exact ⟨d',.tuple #[],by simp[results,hr],_,rfl,⟨z',r',e'⟩,f'⟩
end Go.Kq

namespace Go.Kq
open Go Go.Proofs
section
variable {P:Program} {a:Act} {w:World} {K:Act→World→Prop} {Q:Exit→Act→World→Prop} {d:Option Tmp} {t:TypeId} {p:String} {af:Array Edge} {g:Option (Nat × Bool)}
theorem wMv {x:Operand} {v:Value} (hx:a.eval x=v) (k:K (a.put d v) w):OW P ⟨d,.move x,t,p,af,g⟩ a w K Q:=by rw[wMw,hx];exact k
theorem wAs {x:Operand} {v:Value} (hx:a.eval x=v) (k:K (a.put d v) w):OW P ⟨d,.assign x,t,p,af,g⟩ a w K Q:=by rw[wAg,hx];exact k
theorem lt_sz {a:Act} {N d:Nat} (h:a.tmps.size=N) (hd:d < N):d < a.tmps.size:=h ▸ hd
theorem wEn {K:Act→World→Prop} (h:∀ a',a'=a→K a' w):wpl P (Exit.then K Q) [] a w:=h a rfl
theorem wEk {a0:Act} {N:Nat} {l:List Deferred} {K:Act→World→Prop} (hz:a0.tmps.size=N) (hd:a0.defers=l) (k:∀ a',a'=a→a'.tmps.size=N→a'.defers=l→K a' w) (hp:a.tmps.size=a0.tmps.size:=by (repeat first | rw[sPu] | rw[pNo]);try rfl) (hq:a.defers=a0.defers:=by (repeat first | rw[dPu] | rw[pNo]);try rfl):wpl P (Exit.then K Q) [] a w:=wEn fun a' h=>k a' h (kS h hz hp) (kD h hd hq)
theorem wp_blockT {id:Nat} {c:Code} {K:Act→World→Prop} (h:c.wp P (Exit.then K (Exit.inBlock id (Exit.then K Q))) a w):(Code.block id c).wp P (Exit.then K Q) a w :=
  wp_block (wp_mono h fun _ _ _=>inBlock_then)
theorem wCr {f:FuncId} {xs:Array Operand} {ts:Array TypeId} {vs:Array Value} {R:Value→World→Prop} (he:Enters P f) (hx:xs.map a.eval=vs)
    (hc:Calls P f vs w fun e w'=>∃ v,e = .returned v∧R v w') (k:∀ v w',R v w'→K (a.put d v) w'):OW P ⟨d,.call ⟨.value (.func f),xs,ts⟩,t,p,af,g⟩ a w K Q:=wp_calls he hx hc k
variable {s u:TypeId} {x y:Operand} {k1:IntKind} {i j:Int}
theorem wp_lssT (h:i < j) (hx:a.eval x = .int k1 i) (hy:a.eval y = .int k1 j) (k:K (a.put d (.bool true)) w):OW P ⟨d,.binOp .lss s x y u,t,p,af,g⟩ a w K Q:=wp_lss hx hy (by rw[decide_eq_true h];exact k)
theorem wp_lssF (h:¬ i < j) (hx:a.eval x = .int k1 i) (hy:a.eval y = .int k1 j) (k:K (a.put d (.bool false)) w):OW P ⟨d,.binOp .lss s x y u,t,p,af,g⟩ a w K Q:=wp_lss hx hy (by rw[decide_eq_false h];exact k)
theorem wp_gtrF (h:¬ i > j) (hx:a.eval x = .int k1 i) (hy:a.eval y = .int k1 j) (k:K (a.put d (.bool false)) w):OW P ⟨d,.binOp .gtr s x y u,t,p,af,g⟩ a w K Q:=wp_gtr hx hy (by rw[decide_eq_false h];exact k)
theorem wp_leqT (h:i≤j) (hx:a.eval x = .int k1 i) (hy:a.eval y = .int k1 j) (k:K (a.put d (.bool true)) w):OW P ⟨d,.binOp .leq s x y u,t,p,af,g⟩ a w K Q:=wp_leq hx hy (by rw[decide_eq_true h];exact k)
theorem wp_leqF (h:¬ i≤j) (hx:a.eval x = .int k1 i) (hy:a.eval y = .int k1 j) (k:K (a.put d (.bool false)) w):OW P ⟨d,.binOp .leq s x y u,t,p,af,g⟩ a w K Q:=wp_leq hx hy (by rw[decide_eq_false h];exact k)
theorem wp_geqT (h:i≥j) (hx:a.eval x = .int k1 i) (hy:a.eval y = .int k1 j) (k:K (a.put d (.bool true)) w):OW P ⟨d,.binOp .geq s x y u,t,p,af,g⟩ a w K Q:=wp_geq hx hy (by rw[decide_eq_true h];exact k)
theorem wp_geqF (h:¬ i≥j) (hx:a.eval x = .int k1 i) (hy:a.eval y = .int k1 j) (k:K (a.put d (.bool false)) w):OW P ⟨d,.binOp .geq s x y u,t,p,af,g⟩ a w K Q:=wp_geq hx hy (by rw[decide_eq_false h];exact k)
theorem wp_eqlT (h:i=j) (hx:a.eval x = .int k1 i) (hy:a.eval y = .int k1 j) (k:K (a.put d (.bool true)) w):OW P ⟨d,.binOp .eql s x y u,t,p,af,g⟩ a w K Q:=wp_eql hx hy (by rw[beq_iff_eq.2 h];exact k)
theorem wp_eqlF (h:¬ i=j) (hx:a.eval x = .int k1 i) (hy:a.eval y = .int k1 j) (k:K (a.put d (.bool false)) w):OW P ⟨d,.binOp .eql s x y u,t,p,af,g⟩ a w K Q:=wp_eql hx hy (by rw[beq_eq_false_iff_ne.2 h];exact k)
theorem wp_mul {x y:Operand} (hx:a.eval x = .int k1 i) (hy:a.eval y = .int k1 j) (k:K (a.put d (.int k1 (k1.wrap (i * j)))) w) :
    OW P ⟨d,.binOp .mul s x y u,t,p,af,g⟩ a w K Q:=wp_val (by simp[execOp,hx,hy,eqGuard,binOp,Op.intArith]) k
theorem wp_shr {x y:Operand} {k2:IntKind} {n:Nat} (hx:a.eval x = .int k1 i) (hy:a.eval y = .int k2 n) (hn:n≤k1.bits) (k:K (a.put d (.int k1 (i / (2 ^ n:Nat)))) w) :
    OW P ⟨d,.binOp .shr s x y u,t,p,af,g⟩ a w K Q:=by
  have hr:(Op.shift .shr k1 i k2 (n:Int)).run P w = .ok (.int k1 (i / (2 ^ n:Nat))) w:=by
    unfold Op.shift;rw[if_neg (by omega)]
    have : i.fdiv (2 ^ n) = i / ((2 ^ n : Nat) : Int) := by rw [Int.fdiv_eq_ediv_of_nonneg]; · simp
                                                            · exact Int.le_of_lt (Int.pow_pos (by omega))
    simp[Nat.min_eq_left hn,this]
  have hb:(binOp .shr s (.int k1 i) (.int k2 (n:Int))).run P w = .ok (.int k1 (i / (2 ^ n:Nat))) w:=by
    simp only[binOp];exact hr
  exact wp_val (by simp[execOp,hx,hy,eqGuard,hb]) k
theorem wp_band {x y:Operand} (hx:a.eval x = .int k1 i) (hy:a.eval y = .int k1 j) (k:K (a.put d (.int k1 (bits .and k1 i j))) w) :
    OW P ⟨d,.binOp .and s x y u,t,p,af,g⟩ a w K Q:=by
  have hr:(binOp .and s (.int k1 i) (.int k1 j)).run P w = .ok (.int k1 (bits .and k1 i j)) w:=by
    simp only[binOp,ne_eq,not_true,if_false];rfl
  exact wp_val (by simp[execOp,hx,hy,eqGuard,hr]) k
theorem wp_bor {x y:Operand} (hx:a.eval x = .int k1 i) (hy:a.eval y = .int k1 j) (k:K (a.put d (.int k1 (bits .or k1 i j))) w) :
    OW P ⟨d,.binOp .or s x y u,t,p,af,g⟩ a w K Q:=by
  have hr:(binOp .or s (.int k1 i) (.int k1 j)).run P w = .ok (.int k1 (bits .or k1 i j)) w:=by
    simp only[binOp,ne_eq,not_true,if_false];rfl
  exact wp_val (by simp[execOp,hx,hy,eqGuard,hr]) k
theorem wp_lenS {s:TypeId} {x:Operand} {q:Option Addr} {n cap:Nat} (h:slTy P s=true) (hx:a.eval x = .slice q n cap)
    (k:K (a.put d (.int .i64 n)) w):OW P ⟨d,.call ⟨.builtin .len,#[x],#[s]⟩,t,p,af,g⟩ a w K Q:=by
  unfold slTy at h
  cases hu:P.underlying s with
  | none=>simp[hu] at h
  | some e =>
    cases e <;> simp[hu] at h
    refine wp_val (v:=.int .i64 n) (w':=w) ?_ k;simp[execOp,resolve,invoke,builtin,Builtin.len_,hx,run_underlying hu,goInt]
theorem wp_min2 {x y:Operand} {ts:Array TypeId} (hx:a.eval x = .int k1 i) (hy:a.eval y = .int k1 j) (k:K (a.put d (.int k1 (if j < i then j else i))) w) :
    OW P ⟨d,.call ⟨.builtin .min,#[x,y],ts⟩,t,p,af,g⟩ a w K Q:=by
  refine wp_val (v:=.int k1 (if j < i then j else i)) (w':=w) ?_ k;have:=run_min_int2 (P:=P) (w:=w) ts t k1 k1 i j;simp[execOp,resolve,invoke,builtin,hx,hy,this]
theorem wp_max2 {x y:Operand} {ts:Array TypeId} (hx:a.eval x = .int k1 i) (hy:a.eval y = .int k1 j) (k:K (a.put d (.int k1 (if j > i then j else i))) w) :
    OW P ⟨d,.call ⟨.builtin .max,#[x,y],ts⟩,t,p,af,g⟩ a w K Q:=by
  refine wp_val (v:=.int k1 (if j > i then j else i)) (w':=w) ?_ k;have:=run_max_int2 (P:=P) (w:=w) ts t k1 k1 i j;simp[execOp,resolve,invoke,builtin,hx,hy,this]
end
theorem oCs {P:Program} {Q:Exit→Act→World→Prop} {l0:List Rng} {n:Nat} {a0:Act} {w0:World} {sps:List Sp} {i:Nat} {o:Oper} {os:List Oper} {s:Sp} {ss:List Sp}
    (h1:OpOk P Q l0 n a0 w0 sps i o s) (h2:opsOk P Q l0 n a0 w0 sps (i+1) os ss):opsOk P Q l0 n a0 w0 sps i (o::os) (s::ss):=⟨h1,h2⟩
theorem opsOk_nil {P:Program} {Q:Exit→Act→World→Prop} {l0:List Rng} {n:Nat} {a0:Act} {w0:World} {sps ss:List Sp} {i:Nat}:opsOk P Q l0 n a0 w0 sps i [] ss:=trivial
section
variable {P:Program} {Q:Exit→Act→World→Prop}
def wg (P:Program) (Q:Exit→Act→World→Prop) (all:List Oper):List Oper→Act→World→Prop
  | [],a,w=>Q .normal a w
  | o :: os, a, w => (o.guard = none ∧ OW P o a w (wg P Q all os) Q) ∨
      (∃ j want dj b,o.guard=some (j,want)∧(all[j]?.bind (·.dst))=some dj∧dj < a.tmps.size∧get a dj = .bool b∧(b=want→OW P o a w (wg P Q all os) Q)∧(b=(!want)→wg P Q all os (a.put o.dst undef) w)) ∨
      (∃ j want dj,o.guard=some (j,want)∧(all[j]?.bind (·.dst))=some dj∧get a dj=undef∧wg P Q all os (a.put o.dst undef) w)
variable {all os:List Oper} {a:Act} {w:World}
theorem gCn {d:Option Tmp} {i:Op} {t:TypeId} {p:String} {af:Array Edge} (h:OW P ⟨d,i,t,p,af,none⟩ a w (wg P Q all os) Q):wg P Q all (⟨d,i,t,p,af,none⟩::os) a w:=.inl ⟨rfl,h⟩
theorem wg_yes {d:Option Tmp} {i:Op} {t:TypeId} {p:String} {af:Array Edge} {j:Nat} {want:Bool} {dj:Nat} (hj:(all[j]?.bind (·.dst))=some dj) (hs:dj < a.tmps.size) (hb:get a dj = .bool want)
    (h:OW P ⟨d,i,t,p,af,some (j,want)⟩ a w (wg P Q all os) Q):wg P Q all (⟨d,i,t,p,af,some (j,want)⟩::os) a w:=.inr (.inl ⟨j,want,dj,want,rfl,hj,hs,hb,fun _=>h,fun e=>(by cases want <;> simp at e)⟩)
theorem wg_no {d:Option Tmp} {i:Op} {t:TypeId} {p:String} {af:Array Edge} {j:Nat} {want:Bool} {dj:Nat} (hj:(all[j]?.bind (·.dst))=some dj) (hs:dj < a.tmps.size) (hb:get a dj = .bool (!want))
    (h:wg P Q all os (a.put d undef) w):wg P Q all (⟨d,i,t,p,af,some (j,want)⟩::os) a w:=.inr (.inl ⟨j,want,dj,!want,rfl,hj,hs,hb,fun e=>(by cases want <;> simp at e),fun _=>h⟩)
theorem wg_un {d:Option Tmp} {i:Op} {t:TypeId} {p:String} {af:Array Edge} {j:Nat} {want:Bool} {dj:Nat} (hj:(all[j]?.bind (·.dst))=some dj) (hb:get a dj=undef)
    (h:wg P Q all os (a.put d undef) w):wg P Q all (⟨d,i,t,p,af,some (j,want)⟩::os) a w:=.inr (.inr ⟨j,want,dj,rfl,hj,hb,h⟩)
theorem wg_noT {d:Option Tmp} {i:Op} {t:TypeId} {p:String} {af:Array Edge} {j:Nat} {dj:Nat} (hj:(all[j]?.bind (·.dst))=some dj) (hs:dj < a.tmps.size) (hb:get a dj = .bool false)
    (h:wg P Q all os (a.put d undef) w):wg P Q all (⟨d,i,t,p,af,some (j,true)⟩::os) a w:=wg_no hj hs hb h
theorem wg_noF {d:Option Tmp} {i:Op} {t:TypeId} {p:String} {af:Array Edge} {j:Nat} {dj:Nat} (hj:(all[j]?.bind (·.dst))=some dj) (hs:dj < a.tmps.size) (hb:get a dj = .bool true)
    (h:wg P Q all os (a.put d undef) w):wg P Q all (⟨d,i,t,p,af,some (j,false)⟩::os) a w:=wg_no hj hs hb h
theorem rIs {fn:Func} {t:Nat} {v:Value} (h:fn.results = #[.tmp t]) (hg:get a t=v):(results fn a.tmps).run P w = .ok v w:=by rw[← hg];exact results_one h
theorem wg_end {K:Act→World→Prop} (h:∀ a',a'=a→K a' w):wg P (Exit.then K Q) all [] a w:=h a rfl
theorem wpOps_of_wg {ops:Array Oper}:∀ (n i:Nat) (a:Act) (w:World),i+n=ops.size→wg P Q ops.toList (ops.toList.drop i) a w→wpOps P ops Q (List.range' i n) a w:=by
  intro n
  induction n with
  | zero =>
    intro i a w hi h;have:ops.toList.drop i=[]:=by apply List.drop_of_length_le;simp;omega
    rw[this] at h
    simpa [wpOps,wg] using h
  | succ n ih =>
    intro i a w hi h;have hlt:i < ops.size:=by omega
    have hd:ops.toList.drop i=ops[i]::ops.toList.drop (i+1):=by
      rw[List.drop_eq_getElem_cons (by simpa using hlt)];simp
    have hs:ops[i]?=some ops[i]:=Array.getElem?_eq_getElem hlt;rw[hd] at h;simp only[List.range'_succ,wpOps,hs]
    rcases h with ⟨hg,h⟩ | ⟨j,want,dj,b,hg,hj,hsz,hb,h1,h2⟩ | ⟨j,want,dj,hg,hj,hb,h⟩
    · have hw : Region.wanted ops[i] (yielded ops a.tmps) = true := by simp [Region.wanted, hg]
      simp only[hw,if_true]
      left
      exact Oper.upon_mono (fun a w h=>ih (i+1) a w (by omega) h) _ h.sem
    · have hy:yielded ops a.tmps j=some b:=by
        have hj':(ops[j]?.bind (·.dst))=some dj:=by simpa using hj
        have ht:a.tmps[dj]?=some (.bool b):=by
          unfold get at hb;rw[Array.getD_eq_getD_getElem?] at hb;simp[hsz] at hb ⊢
          exact hb
        simp[yielded,hj',ht]
      have hw:Region.wanted ops[i] (yielded ops a.tmps)=(b==want):=by simp only[Region.wanted,hg,hy];cases b <;> cases want <;> rfl
      rw[hw]
      by_cases hbw:b=want
      · simp only[hbw,beq_self_eq_true,if_true];exact .inl (Oper.upon_mono (fun a w h=>ih (i+1) a w (by omega) h) _ (h1 hbw).sem)
      have e:b = !want:=by cases b <;> cases want <;> first | rfl | exact absurd rfl hbw
      have:(b==want)=false:=by cases b <;> cases want <;> first | rfl | exact absurd rfl hbw
      rw[this];simp only[Bool.false_eq_true,if_false];exact ih (i+1) _ w (by omega) (h2 e)
    have hy:yielded ops a.tmps j=none:=by
      have hj':(ops[j]?.bind (·.dst))=some dj:=by simpa using hj
      unfold get at hb;rw[Array.getD_eq_getD_getElem?] at hb
      cases h:a.tmps[dj]? with
      | none=>simp[yielded,hj',h]
      | some v=>rw[h] at hb;simp at hb;subst hb;simp[yielded,hj',h,undef]
    have hw:Region.wanted ops[i] (yielded ops a.tmps)=false:=by simp only[Region.wanted,hg,hy];rfl
    rw[hw];simp only[Bool.false_eq_true,if_false];exact ih (i+1) _ w (by omega) h
theorem wp_regG {id:Nat} {l:List Oper} {a:Act} {w:World} (h:wg P Q l l a w):(Code.region id ⟨l⟩ false).wp P Q a w:=by
  refine wp_region ?_;have:=wpOps_of_wg (P:=P) (Q:=Q) (ops:=⟨l⟩) l.length 0 a w (by simp) (by simpa using h)
  simpa [List.range_eq_range'] using this
end
end Go.Kq

namespace Go.Kq
open Go
def T.n:T→Int | .mk k _ _ _ _=>k
def T.s:T→List UInt8 | .mk _ k _ _ _=>k
def T.nl:T→Bool | .mk _ _ k _ _=>k
def T.l:T→List T | .mk _ _ _ k _=>k
def T.u:T→List (Nat × List UInt8) | .mk _ _ _ _ k=>k
inductive Fd where
  | mk (kind fr to nul tag df of:Int) (sub:List Fd)
  deriving Inhabited
def Fd.kind:Fd→Int | .mk k _ _ _ _ _ _ _=>k
def Fd.fr:Fd→Int | .mk _ k _ _ _ _ _ _=>k
def Fd.to:Fd→Int | .mk _ _ k _ _ _ _ _=>k
def Fd.nul:Fd→Int | .mk _ _ _ k _ _ _ _=>k
def Fd.tag:Fd→Int | .mk _ _ _ _ k _ _ _=>k
def Fd.df:Fd→Int | .mk _ _ _ _ _ k _ _=>k
def Fd.of:Fd→Int | .mk _ _ _ _ _ _ k _=>k
def Fd.sub:Fd→List Fd | .mk _ _ _ _ _ _ _ k=>k
def Fd.has (f:Fd) (ver:Int):Bool:=decide (f.fr≤ver) && (decide (f.to < 0) || decide (ver≤f.to))
def nullW (nul ver:Int) (t:T):Bool:=t.nl && decide (nul≥0) && decide (ver≥nul)
def wholeS (b:List UInt8):List UInt8:=b.take 32767
def atT (l:List T) (i:Nat):T:=l[i]?.getD .zero
def uvW (n:Nat):List UInt8:=if n > 127 then UInt8.ofNat (n % 128+128)::uvW (n / 128) else [UInt8.ofNat n]
termination_by n
decreasing_by omega
def fxW (n:Int):Nat→List UInt8
  | 0=>[]
  | k+1=>UInt8.ofNat ((n / (2 ^ (8 * k):Nat)) % 256).toNat::fxW n k
def widthW (kind:Int):Nat:=if kind=1 then 1 else if kind=2∨kind=5 then 2 else if kind=3 then 4 else 8
def countedW (flex null:Bool) (n size:Nat):List UInt8 :=
  if flex && null then [0] else if flex then uvW (n+1) else if null then fxW (-1) size else fxW n size
def uuidW (s:List UInt8):List UInt8:=s.take 16++List.replicate (16 - s.length) 0
def valueW (kind:Int) (sub:T→List UInt8) (null flex:Bool) (t:T):List UInt8 :=
  if kind=0 then [UInt8.ofNat (t.n % 2).toNat]
  else if kind=7 then uuidW t.s
  else if kind=8 then countedW flex null (if null then [] else wholeS t.s).length 2++(if null then [] else wholeS t.s)
  else if kind=9 then countedW flex null (if null then [] else wholeS t.s).length 4++(if null then [] else wholeS t.s)
  else if kind=10 then sub t
  else fxW t.n (widthW kind)
def thingsW (null:Bool) (t:T):List T:=if null then [] else t.l.take 32767
def fieldV (kind nul of:Int) (sub:T→List UInt8) (ver:Int) (flex:Bool) (t:T):List UInt8 :=
  if kind=11 then countedW flex (nullW nul ver t) (thingsW (nullW nul ver t) t).length 4++(thingsW (nullW nul ver t) t).flatMap (valueW of sub false flex)
  else if kind=10∧nul≥0 then (if nullW nul ver t then [255] else 1::sub t)
  else valueW kind sub (nullW nul ver t) flex t
def knownW:List Fd→Nat
  | []=>0
  | f::fs=>if f.tag≥0 then max (f.tag.toNat+1) (knownW fs) else knownW fs
def insAt (out:List (Nat × List UInt8)) (k:Nat):Nat:=(out.takeWhile fun p=>decide (p.1 < k)).length
def insTag (least:Nat) (out:List (Nat × List UInt8)) (t:Nat × List UInt8):List (Nat × List UInt8) :=
  if t.1 < least then out else if (out[insAt out t.1]?.map (·.1))=some t.1 then out else out.take (insAt out t.1)++t::out.drop (insAt out t.1)
def unknownW (fs:List Fd) (u:List (Nat × List UInt8)):List (Nat × List UInt8):=(u.take 32767).foldl (insTag (knownW fs)) []
mutual
/-- What is so by default. -/
def usualW:Fd→T→Bool
  | .mk kind _ _ nul _ df _ sub, t =>
    if kind=0 then decide (t.n % 2=df)
    else if kind=7 then (t.s.take 16).all (·==0)
    else if kind=8∨kind=9 then (if nul≥0 then t.nl else t.s.isEmpty)
    else if kind=11 then t.l.isEmpty
    else if kind=10 then usualsW sub t.l 0 && (unknownW sub t.u).isEmpty
    else decide (fxW t.n (widthW kind)=fxW df (widthW kind))
def usualsW:List Fd→List T→Nat→Bool
  | [],_,_=>true
  | f::fs,ts,i=>usualW f (atT ts i) && usualsW fs ts (i+1)
end
def pairW (p:Nat × List UInt8):List UInt8:=uvW p.1++(uvW p.2.length++p.2)
def bodyW (fs:List Fd) (ver:Int) (encs:List (List UInt8)) (n:Nat):List UInt8 :=
  (List.range n).flatMap fun i=>match fs[i]? with
    | some f=>if decide (f.tag < 0) && f.has ver then encs.getD i [] else []
    | none=>[]
def knownsW (fs:List Fd) (t:T) (encs:List (List UInt8)):List (Nat × List UInt8) :=
  (List.range (knownW fs)).flatMap fun (tag:Nat)=>(List.range fs.length).flatMap fun i=>match fs[i]? with
    | some f=>if decide (f.tag=((tag:Nat):Int)) && !usualW f (atT t.l i) then [(tag,encs.getD i [])] else []
    | none=>[]
def unksW (fs:List Fd) (t:T):List (Nat × List UInt8):=(unknownW fs t.u).map fun u=>(u.1,wholeS u.2)
def joinW (fs:List Fd) (ver:Int) (flex:Bool) (t:T) (encs:List (List UInt8)):List UInt8 :=
  if flex then bodyW fs ver encs fs.length++(uvW ((knownsW fs t encs).length+(unksW fs t).length)++(knownsW fs t encs++unksW fs t).flatMap pairW)
  else bodyW fs ver encs fs.length
mutual
def fieldW:Fd→Int→Bool→T→List UInt8
  | .mk kind _ _ nul _ _ of sub,ver,flex,t=>fieldV kind nul of (fun t=>joinW sub ver flex t (fieldsW sub ver flex t.l 0)) ver flex t
def fieldsW:List Fd→Int→Bool→List T→Nat→List (List UInt8)
  | [],_,_,_,_=>[]
  | f::fs,ver,flex,ts,i=>fieldW f ver flex (atT ts i)::fieldsW fs ver flex ts (i+1)
end
def partW (fs:List Fd) (ver:Int) (flex:Bool) (t:T):List UInt8:=joinW fs ver flex t (fieldsW fs ver flex t.l 0)
theorem fieldW_eq (f:Fd) (ver:Int) (flex:Bool) (t:T):fieldW f ver flex t=fieldV f.kind f.nul f.of (partW f.sub ver flex) ver flex t:=by
  cases f with
  | mk kind fr to nul tag df of sub=>rw[fieldW];rfl
theorem fieldsW_at:∀ (fs:List Fd) (ver:Int) (flex:Bool) (ts:List T) (j i:Nat) (f:Fd),fs[i]?=some f→(fieldsW fs ver flex ts j).getD i []=fieldW f ver flex (atT ts (j+i))
  | [],_,_,_,_,_,_,h=>by simp at h
  | g::fs,ver,flex,ts,j,0,f,h=>by simp at h;subst h;rw[fieldsW];rfl
  | g :: fs, ver, flex, ts, j, i + 1, f, h => by
    rw[fieldsW,List.getD_cons_succ,fieldsW_at fs ver flex ts (j+1) i f (by simpa using h)]
    congr 2;omega
end Go.Kq
